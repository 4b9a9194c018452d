import PyProof.Rows.All
import Wide.All
import OpenK.AllK
import Wide.FinOn
import PyProof.EnumFor
import PyProof.ZipIter
import PyProof.MinMaxWalk
import PyProof.CollectWalk
import PyProof.TupleOfGen
import PyProof.SetRoads
import Lean
import PySem.Challenge.RW_rt0040_02
set_option compiler.extract_closed false
namespace Mine
open Lean
/-- what is known of the terms of a proof, its binders opened: the free variables' levels (as bits), the binder at whose scope a term may stand -/
structure ShSt where
  mask : Std.HashMap Expr Nat := {}
  home : Std.HashMap Expr FVarId := {}
  order : Array Expr := #[]
  fv : Std.HashMap Expr FVarId := {}
  lv : Std.HashMap FVarId Nat := {}
  ty : Std.HashMap FVarId Expr := {}
  n : Nat := 0
/-- the terms in order, children ahead -/
def shVisit : Nat → Array FVarId → Expr → StateM ShSt Nat
  | 0, _, _ => pure 0
  | k + 1, path, e => do
    if let .fvar x := e then return (match (← get).lv[x]? with | some l => 1 <<< l | none => 0)
    if !e.hasFVar && path.size > 1 then return 0
    if let some m := (← get).mask[e]? then return m
    let m ← match e with
      | .app f a => do
        let h1 ← shVisit k path f
        let h2 ← shVisit k path a
        pure (h1 ||| h2)
      | .lam _ t b _ | .forallE _ t b _ => do
        let h1 ← shVisit k path t
        let x : FVarId := ⟨.num `sh (← get).n⟩
        modify fun s => { s with n := s.n + 1, fv := s.fv.insert e x, lv := s.lv.insert x path.size, ty := s.ty.insert x t }
        let h2 ← shVisit k (path.push x) (b.instantiate1 (.fvar x))
        pure (h1 ||| (h2 % (1 <<< path.size)))
      | .letE _ t v b _ => do
        let h1 ← shVisit k path t
        let h3 ← shVisit k path v
        let x : FVarId := ⟨.num `sh (← get).n⟩
        modify fun s => { s with n := s.n + 1, fv := s.fv.insert e x, lv := s.lv.insert x path.size, ty := s.ty.insert x t }
        let h2 ← shVisit k (path.push x) (b.instantiate1 (.fvar x))
        pure (h1 ||| h3 ||| (h2 % (1 <<< path.size)))
      | .mdata _ b => shVisit k path b
      | .proj _ _ b => shVisit k path b
      | _ => pure 0
    modify fun s => { s with mask := s.mask.insert e m, order := s.order.push e, home := if m == 0 then s.home else s.home.insert e (path.getD m.log2 default) }
    return m
/-- the type of a term, if it names no variable -/
def shType (env : Environment) (s : ShSt) : Nat → Expr → Option Expr
  | 0, _ => none
  | k + 1, e => match e with
    | .app .. =>
      let fn := e.getAppFn
      let args := e.getAppArgs
      let t? := match fn with
        | .const c us => (env.find? c).map (·.instantiateTypeLevelParams us)
        | .fvar x => s.ty[x]?
        | _ => none
      match t? with
      | none => none
      | some t =>
        let r := args.foldl (fun (t : Option Expr) _ => match t with | some (.forallE _ _ b _) => some b | _ => none) (some t)
        match r with
        | none => none
        | some r =>
          let r := (r.instantiateRev args).headBeta
          if r.hasFVar || r.hasLooseBVars then none else some r
    | .lam n t b bi =>
      if t.hasFVar then none else
      match s.fv[e]? with
      | none => none
      | some x => match shType env s k (b.instantiate1 (.fvar x)) with
        | some r => some (.forallE n t r bi)
        | none => none
    | _ => none
structure ShB where
  levels : Std.HashMap Expr (Array Nat) := {}
  shared : Std.HashMap Expr Expr := {}      -- with its type
  at_ : Std.HashMap FVarId (Array Expr) := {}
def shAdd (ls : Array Nat) (b : ShB) (e : Expr) : ShB :=
  if !e.hasFVar || e.isFVar then b else
  let old := b.levels.getD e #[]
  if old.size ≥ 6 then b else
  { b with levels := b.levels.insert e (ls.foldl (fun a l => if a.contains l || a.size ≥ 6 then a else a.push l) old) }
/-- how many of a term's own nodes name variables -/
def shOwn (e : Expr) : Nat := match e with
  | .app .. => (e.getAppArgs.foldl (fun (p : Nat × Bool) a => let q := p.2 || a.hasFVar; (if q then p.1 + 1 else p.1, q)) (0, e.getAppFn.hasFVar)).1
  | .lam .. => 2
  | _ => 1
def shChoose (env : Environment) (s : ShSt) (ok : FVarId → Bool) : ShB := Id.run do
  let mut b : ShB := {}
  if let some r := s.order.back? then b := { b with levels := b.levels.insert r #[0] }
  for i in [0:s.order.size] do
    let e := s.order[s.order.size - 1 - i]!
    let mut ls := b.levels.getD e #[]
    if ls.size ≥ 2 then
      if let some x := s.home[e]? then
        if ok x && (ls.size - 1) * shOwn e ≥ 2 then
          if let some t := shType env s 50 e then
            let l := (s.lv.getD x 0) + 1
            b := { b with shared := b.shared.insert e t, at_ := b.at_.insert x ((b.at_.getD x #[]).push e) }
            ls := #[l]
    match e with
    | .app f a => b := shAdd ls (shAdd ls b f) a
    | .lam _ t c _ | .forallE _ t c _ =>
      b := shAdd ls b t
      if let some x := s.fv[e]? then b := shAdd #[(s.lv.getD x 0) + 1] b (c.instantiate1 (.fvar x))
    | .letE _ t v c _ =>
      b := shAdd ls (shAdd ls b t) v
      if let some x := s.fv[e]? then b := shAdd #[(s.lv.getD x 0) + 1] b (c.instantiate1 (.fvar x))
    | .mdata _ c => b := shAdd ls b c
    | .proj _ _ c => b := shAdd ls b c
    | _ => pure ()
  return b
structure ShC where
  pos : Std.HashMap FVarId Nat := {}
  posE : Std.HashMap Expr Nat := {}
  memo : Std.HashMap Expr Expr := {}
/-- the term again, the shared ones named once; 'd' is the depth -/
def shBuild (s : ShSt) (b : ShB) : Nat → Nat → Bool → Expr → StateM ShC Expr
  | 0, _, _, e => pure e
  | k + 1, d, top, e => do
    if let .fvar x := e then
      return match (← get).pos[x]? with | some p => .bvar (d - 1 - p) | none => e
    if !e.hasFVar && (d != 0 || !e.isLambda) then return e
    if !top then
      if b.shared.contains e then
        if let some p := (← get).posE[e]? then return .bvar (d - 1 - p)
      if let some r := (← get).memo[e]? then return r
    let r ← match e with
      | .app f a => do pure (.app (← shBuild s b k d false f) (← shBuild s b k d false a))
      | .mdata _ c => shBuild s b k d false c
      | .proj n i c => do pure (.proj n i (← shBuild s b k d false c))
      | _ => match s.fv[e]? with
        | none => pure e
        | some x => do
          let t' ← shBuild s b k d false (if e.isLet then e.letType! else e.bindingDomain!)
          let v' ← if e.isLet then shBuild s b k d false e.letValue! else pure e
          let c := if e.isLet then e.letBody! else e.bindingBody!
          let old := (← get).memo
          modify fun c => { c with pos := c.pos.insert x d, memo := {} }
          let mut d1 := d + 1
          let mut lets : Array (Expr × Expr) := #[]
          for p in (b.at_.getD x #[]).reverse do
            let v ← shBuild s b k d1 true p
            lets := lets.push (b.shared.getD p default, v)
            let q := d1
            modify fun c => { c with posE := c.posE.insert p q, memo := {} }
            d1 := d1 + 1
          let body ← shBuild s b k d1 false (c.instantiate1 (.fvar x))
          modify fun c => { c with memo := old }
          let body := lets.foldr (fun p r => .letE `y p.1 p.2 r false) body
          pure (match e with
            | .lam n _ _ bi => .lam n t' body bi
            | .forallE n _ _ bi => .forallE n t' body bi
            | .letE n _ _ _ nd => .letE n t' v' body nd
            | _ => e)
    unless top do modify fun c => { c with memo := c.memo.insert e r }
    return r
def shRootB (s : ShSt) (b : ShB) (root : FVarId) (e : Expr) : StateM ShC Expr := do
  let mut d1 := 0
  let mut lets : Array (Expr × Expr) := #[]
  for p in (b.at_.getD root #[]).reverse do
    let t := b.shared.getD p default
    let v ← shBuild s b 100000 d1 true p
    lets := lets.push (t, v)
    let q := d1
    modify fun c => { c with posE := c.posE.insert p q, memo := {} }
    d1 := d1 + 1
  let body ← shBuild s b 100000 d1 false e
  return lets.foldr (fun (t, v) r => .letE `y t v r false) body
/-- a proof term, with each term that names variables told once where it stands at many depths; 'xs' are the free variables -/
def shrinkE (env : Environment) (xs : Array (FVarId × Expr)) (e : Expr) : Expr :=
  let root : FVarId := ⟨`shRoot⟩
  let s0 : ShSt := xs.foldl (fun s x => { s with lv := s.lv.insert x.1 0, ty := s.ty.insert x.1 x.2 }) {}
  let (_, s) := (shVisit 100000 #[root] e).run s0
  let lams : Std.HashSet FVarId := s.fv.fold (fun h l x => if l.isForall then h else h.insert x) (({} : Std.HashSet FVarId).insert root)
  let b := shChoose env s fun x => lams.contains x
  ((shRootB s b root e).run {}).1
open Elab Tactic in
/-- the first line of a proof that ends with 'shrink': the root of its term is named -/
def mark : TacticM Unit := do
  let g ← getMainGoal
  let tag ← g.getTag
  g.withContext do
    let m ← Meta.mkFreshExprSyntheticOpaqueMVar (← g.getType) `shrinkRoot
    g.assign m
    let g2 ← Meta.mkFreshExprSyntheticOpaqueMVar (← g.getType) tag
    m.mvarId!.assign g2
    replaceMainGoal [g2.mvarId!]
open Elab Tactic in
/-- the last line of a proof whose first one is 'mark' -/
def shrink : TacticM Unit := do
  let some m := (← getMCtx).findUserName? `shrinkRoot | throwError "no root"
  let e ← instantiateMVars (mkMVar m)
  if e.hasExprMVar then return
  let d ← m.getDecl
  let mut xs := #[]
  for x in d.lctx do
    if x.isAuxDecl then continue
    if x.isLet then return
    xs := xs.push (x.fvarId, x.type)
  m.assign (shrinkE (← getEnv) xs e)
end Mine
open PySem PySem.W PyProof.Rows PySem.Spec PySem.Calls
set_option Elab.async false
set_option maxRecDepth 100000
set_option maxHeartbeats 4000000
set_option pp.deepTerms false
set_option pp.deepTerms.threshold 5
set_option linter.unusedVariables false
theorem Mine.no_twins : True := by
  run_tac (PySem.W.Fast.primed.modify fun m => [`PySem.Challenge.pw_rt0040_02, `PySem.Challenge.rw_rt0040_02, `hd02.env_41, `hd02.heap_232, `hd02.heap_39, `hd02.heap_46, `hd02.o_100, `hd02.o_101, `hd02.o_102, `hd02.o_103, `hd02.o_104, `hd02.o_105, `hd02.o_107, `hd02.o_108, `hd02.o_109, `hd02.o_110, `hd02.o_111, `hd02.o_113, `hd02.o_114, `hd02.o_115, `hd02.o_117, `hd02.o_118, `hd02.o_119, `hd02.o_120, `hd02.o_121, `hd02.o_122, `hd02.o_124, `hd02.o_125, `hd02.o_126, `hd02.o_127, `hd02.o_128, `hd02.o_129, `hd02.o_131, `hd02.o_132, `hd02.o_133, `hd02.o_134, `hd02.o_135, `hd02.o_136, `hd02.o_137, `hd02.o_138, `hd02.o_139, `hd02.o_140, `hd02.o_141, `hd02.o_143, `hd02.o_144, `hd02.o_145, `hd02.o_146, `hd02.o_147, `hd02.o_148, `hd02.o_150, `hd02.o_151, `hd02.o_152, `hd02.o_153, `hd02.o_154, `hd02.o_155, `hd02.o_157, `hd02.o_159, `hd02.o_160, `hd02.o_161, `hd02.o_162, `hd02.o_163, `hd02.o_164, `hd02.o_166, `hd02.o_167, `hd02.o_168, `hd02.o_169, `hd02.o_170, `hd02.o_171, `hd02.o_173, `hd02.o_174, `hd02.o_175, `hd02.o_176, `hd02.o_177, `hd02.o_178, `hd02.o_180, `hd02.o_181, `hd02.o_182, `hd02.o_183, `hd02.o_185, `hd02.o_186, `hd02.o_187, `hd02.o_188, `hd02.o_190, `hd02.o_191, `hd02.o_192, `hd02.o_193, `hd02.o_195, `hd02.o_196, `hd02.o_197, `hd02.o_198, `hd02.o_199, `hd02.o_200, `hd02.o_202, `hd02.o_203, `hd02.o_204, `hd02.o_205, `hd02.o_206, `hd02.o_207, `hd02.o_209, `hd02.o_210, `hd02.o_211, `hd02.o_212, `hd02.o_214, `hd02.o_215, `hd02.o_216, `hd02.o_217, `hd02.o_219, `hd02.o_220, `hd02.o_221, `hd02.o_222, `hd02.o_224, `hd02.o_225, `hd02.o_226, `hd02.o_227, `hd02.o_229, `hd02.o_230, `hd02.o_231, `hd02.o_43, `hd02.o_45, `hd02.o_46, `hd02.o_49, `hd02.o_51, `hd02.o_53, `hd02.o_54, `hd02.o_55, `hd02.o_56, `hd02.o_57, `hd02.o_58, `hd02.o_59, `hd02.o_61, `hd02.o_62, `hd02.o_63, `hd02.o_64, `hd02.o_65, `hd02.o_66, `hd02.o_67, `hd02.o_68, `hd02.o_70, `hd02.o_71, `hd02.o_72, `hd02.o_73, `hd02.o_74, `hd02.o_75, `hd02.o_77, `hd02.o_78, `hd02.o_79, `hd02.o_80, `hd02.o_81, `hd02.o_84, `hd02.o_86, `hd02.o_87, `hd02.o_88, `hd02.o_89, `hd02.o_91, `hd02.o_92, `hd02.o_93, `hd02.o_95, `hd02.o_96, `hd02.o_97, `hd02.o_98, `hd02.o_99, `hd02.sts_105, `hd02.sts_155, `hd02.sts_49, `hd02.sts_84, `hd02.tree_104, `hd02.tree_154, `hd02.tree_231, `hd02.tree_47, `hd02.tree_81, `hd02.view_39].foldl (fun m c => m.insert c none) m)
  exact True.intro
open_top hd02 for PySem.Challenge.rw_rt0040_02
theorem Mine.top_off : True := by
  w_top off
  exact True.intro
namespace Mine

/-- every object of the first heap stands in the second -/
abbrev Grow (h h' : Heap) : Prop := ∀ b o, h.get? b = some o → h'.get? b = some o
theorem Grow.refl (h : Heap) : Grow h h := fun _ _ e => e
theorem Grow.trans {a b c : Heap} (x : Grow a b) (y : Grow b c) : Grow a c := fun p o e => y p o (x p o e)

section
variable {h₀ h h' : Heap} {L : Addr} {m : Str → Option Value} {news : List (Addr × Obj)}
theorem fr_grow (F : Fr h₀ L h m) (g : Grow h h') : Fr h₀ L h' m := ⟨F.ns.keeps g, fun b o e => g b o (F.keep b o e), F.above⟩
theorem news_grow (N : News h₀ L h news) (g : Grow h h') : News h₀ L h' news := fun p hp => ⟨g _ _ (N p hp).1, (N p hp).2⟩
end

section
variable {prog : Program} {w : World} {A A₀ : Around} {E : Value → Shared → Prop} {s : Shared} {K : Frag} {C L : Addr} {h₀ base : Heap} {m mg mb : Str → Option Value} {p : Program} {loose : List Str} {mean : ExcName → Option Value} {Q : Value → Shared → Prop}

/-- a def is entered: the whole heap is the callee's ground -/
theorem code_defS {env : Env} {outer : List Env} {R : Result → Shared → Prop} {name qual : Str} {params : Arguments} {body : List Stmt} {scope : Scope} {dV kV doc pm cdv ct oc : Value} {an od : Option Addr} {osl : Array (Option Value)} {f : Addr} {args : Args} {binds : List (Str × Value)}
    (B : Below A₀ base outer h₀) (F : Fr h₀ L s.heap m) (X₀ : K.In h₀) (T : Top p loose mean mg mb h₀) (hA : A.frames = some (env :: outer)) (hf : env.frame = some L) (hke : env.scope.kind = .function)
    (ho : K.lookup f = some ⟨oc, od, .func (fnOf name qual params body scope dV kV doc pm an cdv ct), osl⟩) (hcd : codeIn K cdv qual = true) (hroom : A.depth < recursionLimit)
    (hbind : BindsTo s (fnOf name qual params body scope dV kV doc pm an cdv ct) args binds) (hloc : ∀ y ∈ binds, scope.names.lookup y.1 = some .local)
    (h : ∀ L' h₁, Fr s.heap L' h₁ (fun y => binds.reverse.lookup y) → News s.heap L' h₁ [] → Below A base (env :: outer) s.heap → K.In s.heap → Top p loose mean mg mb s.heap →
      wpAny (model prog w) (A.deeper (envOf qual scope L' f cdv)) (execs body (envOf qual scope L' f cdv))
        (fun fl s' => R (.ok (.ret (match fl with | .ret v => v | _ => .none))) s')
        (fun e s' => wpAny (model prog w) (A.deeper (envOf qual scope L' f cdv)) (leaving (envOf qual scope L' f cdv) e) (fun _ s'' => R (.error e) s'') (fun e' s'' => R (.error e') s'') s')
        { s with heap := h₁, toks := s.toks + binds.length })
    (hco : scope.isCoroutine = false) (hgen : scope.isGenerator = false) (hk : scope.kind = .function)
    (hcell : ∀ x ∈ scope.names, x.2 ≠ .cell) : codeAny (model prog w) A (.call (.ref f) args) R s := by
  run_tac Mine.mark
  obtain ⟨_, BG, _, _⟩ := groundX (R := R) (A := A) B F (News.nil (h₀ := h₀) (h := s.heap) (L := L)) hA hf hke
  have X := X₀.keeps F.keep
  refine codeAny_call_def (fd := fnOf name qual params body scope dV kV doc pm an cdv ct) (body := body) (binds := binds) hroom (X _ _ ho) rfl (T.nolimit.keeps F.keep) (codeRec_of X hcd) rfl hbind hcell hloc (fun h₁ hns hk₁ => ?_) hco hgen hk
  exact h _ h₁ ⟨hns, hk₁, Nat.le_refl _⟩ News.nil BG X (T.keeps F.keep)
  run_tac Mine.shrink

/-- the same, for a def some of whose names are cells -/
theorem code_defCS {env : Env} {outer : List Env} {R : Result → Shared → Prop} {name qual : Str} {params : Arguments} {body : List Stmt} {scope : Scope} {dV kV doc pm cdv ct oc : Value} {an od : Option Addr} {osl : Array (Option Value)} {f : Addr} {args : Args} {binds : List (Str × Value)}
    (B : Below A₀ base outer h₀) (F : Fr h₀ L s.heap m) (X₀ : K.In h₀) (T : Top p loose mean mg mb h₀) (hA : A.frames = some (env :: outer)) (hf : env.frame = some L) (hke : env.scope.kind = .function)
    (ho : K.lookup f = some ⟨oc, od, .func (fnOf name qual params body scope dV kV doc pm an cdv ct), osl⟩) (hcd : codeIn K cdv qual = true) (hroom : A.depth < recursionLimit)
    (hbind : BindsTo s (fnOf name qual params body scope dV kV doc pm an cdv ct) args binds) (hkind : (binds.all fun y => scope.names.lookup y.1 == some .local || scope.names.lookup y.1 == some .cell) = true)
    (hnd : ((cellsFrom 0 scope.names []).map (·.1)).Nodup)
    (h : ∀ L' h₁ tk cells, Fr s.heap L' h₁ (bindL (envOfC qual scope L' f cdv).kindOf binds fun _ => none) → News s.heap L' h₁ cells →
      CellsAre (bindC (envOfC qual scope L' f cdv).kindOf binds fun _ => none) (cellsFrom (L' + 1) scope.names []) cells → Below A base (env :: outer) s.heap → K.In s.heap → Top p loose mean mg mb s.heap →
      wpAny (model prog w) (A.deeper (envOfC qual scope L' f cdv)) (execs body (envOfC qual scope L' f cdv))
        (fun fl s' => R (.ok (.ret (match fl with | .ret v => v | _ => .none))) s')
        (fun e s' => wpAny (model prog w) (A.deeper (envOfC qual scope L' f cdv)) (leaving (envOfC qual scope L' f cdv) e) (fun _ s'' => R (.error e) s'') (fun e' s'' => R (.error e') s'') s')
        { s with heap := h₁, toks := tk })
    (hco : scope.isCoroutine = false) (hgen : scope.isGenerator = false) (hk : scope.kind = .function) : codeAny (model prog w) A (.call (.ref f) args) R s := by
  run_tac Mine.mark
  obtain ⟨_, BG, _, _⟩ := groundX (R := R) (A := A) B F (News.nil (h₀ := h₀) (h := s.heap) (L := L)) hA hf hke
  have X := X₀.keeps F.keep
  refine codeAny_call_function hroom (X _ _ ho) rfl hco hgen rfl (codeRec_of X hcd) (hbind _ _ _ _ ?_)
  refine wpAny_newFunctionEnv_cells hk (kindsX hkind _) fun env' he s' x => ?_
  subst he
  refine ⟨(T.nolimit.keeps F.keep).keeps x.toInCall.keep, codeAny_func ?_⟩
  obtain ⟨h₁, tk, rfl, _⟩ := x.done
  have hk₁ := x.toInCall.keep
  obtain ⟨cells, NC, Y⟩ := Cl.news (h₀ := s.heap) (Nat.le_refl _) fun n c hm => ⟨x.cell n c (lookup_of_mem_nodup (cellsFrom_names scope.names 0 (s.heap.objs.size + 1) [] [] rfl ▸ hnd) hm), x.above n c hm⟩
  exact h s.heap.objs.size h₁ tk cells ⟨x.toInCall.ns, hk₁, Nat.le_refl _⟩ NC Y BG X (T.keeps F.keep)
  run_tac Mine.shrink
theorem wp_peek1S {α : Type} {Q : α → Shared → Prop} {o : Obj} {r : Addr → α} {M : Model} (X : K.In s.heap) (q : Q (r s.heap.objs.size) { s with heap := s.heap.push o }) :
    ∀ (t : Sem α) (g : Addr → Option α), peek1 K ⟨M.prog, M.w.params⟩ t = some (o, g) → (∀ D, g D = some (r D)) → wpAny M A t Q E s := by
  run_tac Mine.mark
  intro t
  induction t with
  | rule _ k ih => intro g e hg Γ p hΓ; exact ih () g e hg Γ p hΓ
  | point _ k ih => intro g e hg Γ p hΓ; exact ih () g e hg Γ p hΓ
  | ask k ih => intro g e hg Γ p hΓ; exact ih _ g e hg Γ p hΓ
  | load a _ k ih =>
    intro g e hg Γ p hΓ
    simp only [peek1] at e
    split at e
    · rename_i ob ho; exact ⟨ob, X _ _ ho, ih ob g e hg Γ p hΓ⟩
    · cases e
  | alloc ob k _ =>
    intro g e hg
    have e : some (ob, fun D => peek K ⟨M.prog, M.w.params⟩ (k D)) = some (o, g) := e
    obtain ⟨e1, e2⟩ := Prod.mk.inj (Option.some.inj e)
    subst e1
    subst e2
    have X' : K.In (s.heap.push ob) := X.keeps fun b x hb => Heap.get?_push_of_some _ hb
    show wpAny M A (alloc ob >>= k) Q E s
    refine wpAny_bind (wpAny_alloc ?_)
    exact (Looks.of_peek (M := M) (h := s.heap.push ob) X' (hg s.heap.objs.size)).here (s := { s with heap := s.heap.push ob }) q
  | _ => intro g e; cases e
  run_tac Mine.shrink
/-- the same, for a def with a starred parameter -/
theorem code_restS {env : Env} {outer : List Env} {R : Result → Shared → Prop} {name qual : Str} {params : Arguments} {body : List Stmt} {scope : Scope} {dV kV doc pm cdv ct oc : Value} {an od : Option Addr} {osl : Array (Option Value)} {f : Addr} {args : Args} {vs : List Value} {g₁ : Addr → Option (List (Str × Value))} {binds : Addr → List (Str × Value)}
    (B : Below A₀ base outer h₀) (F : Fr h₀ L s.heap m) (X₀ : K.In h₀) (T : Top p loose mean mg mb h₀) (hA : A.frames = some (env :: outer)) (hf : env.frame = some L) (hke : env.scope.kind = .function)
    (ho : K.lookup f = some ⟨oc, od, .func (fnOf name qual params body scope dV kV doc pm an cdv ct), osl⟩) (hcd : codeIn K cdv qual = true) (hroom : A.depth < recursionLimit)
    (hv : args.pos.drop (params.posonlyargs.length + params.args.length) = vs)
    (hp : peek1 K ⟨prog, w.params⟩ (bindArgs (fnOf name qual params body scope dV kV doc pm an cdv ct) args) = some (({ cls := .type "tuple", data := .seq vs.toArray } : Obj), g₁))
    (hg : ∀ D, g₁ D = some (binds D)) (hloc : ∀ D, ∀ y ∈ binds D, scope.names.lookup y.1 = some .local)
    (h : ∀ D L' h₁, Fr s.heap L' h₁ (fun y => (binds D).reverse.lookup y) → News s.heap L' h₁ [(D, ({ cls := .type "tuple", data := .seq vs.toArray } : Obj))] → Below A base (env :: outer) s.heap → K.In s.heap → Top p loose mean mg mb s.heap →
      wpAny (model prog w) (A.deeper (envOf qual scope L' f cdv)) (execs body (envOf qual scope L' f cdv))
        (fun fl s' => R (.ok (.ret (match fl with | .ret v => v | _ => .none))) s')
        (fun e s' => wpAny (model prog w) (A.deeper (envOf qual scope L' f cdv)) (leaving (envOf qual scope L' f cdv) e) (fun _ s'' => R (.error e) s'') (fun e' s'' => R (.error e') s'') s')
        { s with heap := h₁, toks := s.toks + (binds D).length })
    (hco : scope.isCoroutine = false) (hgen : scope.isGenerator = false) (hk : scope.kind = .function)
    (hcell : ∀ x ∈ scope.names, x.2 ≠ .cell) : codeAny (model prog w) A (.call (.ref f) args) R s := by
  run_tac Mine.mark
  have _ := hv
  obtain ⟨_, BG, _, _⟩ := groundX (R := R) (A := A) B F (News.nil (h₀ := h₀) (h := s.heap) (L := L)) hA hf hke
  have X := X₀.keeps F.keep
  refine codeAny_call_function (fd := fnOf name qual params body scope dV kV doc pm an cdv ct) (body := body) hroom (X _ _ ho) rfl hco hgen rfl (codeRec_of X hcd) ?_
  refine wp_peek1S (o := ({ cls := .type "tuple", data := .seq vs.toArray } : Obj)) X (r := binds) ?_ _ g₁ hp hg
  have hD : (s.heap.push ({ cls := .type "tuple", data := .seq vs.toArray } : Obj)).get? s.heap.objs.size = some ({ cls := .type "tuple", data := .seq vs.toArray } : Obj) := Heap.get?_push_size _ rfl
  have hk' : ∀ b o, s.heap.get? b = some o → (s.heap.push ({ cls := .type "tuple", data := .seq vs.toArray } : Obj)).get? b = some o := fun b o e => Heap.get?_push_of_some _ e
  generalize s.heap.push ({ cls := .type "tuple", data := .seq vs.toArray } : Obj) = h' at hD hk'
  have hlt := Heap.lt_size hD
  have hN : s.heap.get? s.heap.objs.size = none := by
    cases q : s.heap.get? s.heap.objs.size with
    | none => rfl
    | some o' => exact absurd (Heap.lt_size q) (Nat.lt_irrefl _)
  generalize hDe : s.heap.objs.size = D at hD hlt hN
  refine wpAny_newFunctionEnv (s := { s with heap := h' }) hcell (hloc D) (fun h₁ hns hsb => ⟨((T.nolimit.keeps F.keep).keeps hk').fresh _ hsb, codeAny_func ?_⟩) hk
  have hk₁ : ∀ b o, h'.get? b = some o → h₁.get? b = some o := fun b o e => hsb.extBut b o (Nat.ne_of_lt (Heap.lt_size e)) (Heap.get?_push_of_some _ e)
  exact h D h'.objs.size h₁ ⟨hns, fun b o e => hk₁ b o (hk' b o e), Nat.le_trans (Nat.le_of_eq hDe) (Nat.le_of_lt hlt)⟩ (fun p hp => by
    rw [List.mem_singleton.mp hp]
    exact ⟨hk₁ _ _ hD, Nat.ne_of_lt hlt, hN⟩) BG X (T.keeps F.keep)
  run_tac Mine.shrink
end

end Mine
namespace Mine
/-- what a call of the def at f gives, at every state: the heap only grows -/
abbrev Spec (K : Frag) (prog : Program) (w : World) (f : Addr) (need : Nat) (vs : List Value) (Pre : Heap → Prop) (Out : Heap → Heap → Value → Prop) : Prop :=
  ∀ (p : Program) (loose : List Str) (mean : ExcName → Option Value) (mg mb : Str → Option Value) (dp un : Nat) (gd : Option (List Code)) (cn : Str) (cs : Scope) (a : Addr) (ccd : Value) (cl : List (Str × Addr)) (outer : List Env) (A₀ : Around) (base h₀ : Heap) (L : Addr) (m : Str → Option Value) (s : Shared) (Q E : Value → Shared → Prop),
    Below A₀ base outer h₀ → Fr h₀ L s.heap m → K.In h₀ → Top p loose mean mg mb h₀ → cs.kind = .function → dp + need < recursionLimit → un + 8 * need + 8 < cLine → Pre s.heap →
    (∀ r h' tk', Grow s.heap h' → Out s.heap h' r → Q r { s with heap := h', toks := tk' }) →
    wpAny (model prog w) (ktrTop dp un gd cn cs L a ccd cl outer) (call (.ref f) vs) Q E s
end Mine
namespace Mine
section
variable {prog : Program} {w : World} {A₀ : Around} {E : Value → Shared → Prop} {s : Shared} {K : Frag} {L f a : Addr} {h₀ base : Heap} {m mg mb : Str → Option Value} {p : Program} {loose : List Str} {mean : ExcName → Option Value} {Q : Value → Shared → Prop}
theorem Spec.use {need dp un : Nat} {gd : Option (List Code)} {cn : Str} {cs : Scope} {ccd : Value} {cl : List (Str × Addr)} {outer : List Env} {vs : List Value} {Pre : Heap → Prop} {Out : Heap → Heap → Value → Prop} (S : Mine.Spec K prog w f need vs Pre Out)
    (B : Below A₀ base outer h₀) (F : Fr h₀ L s.heap m) (X : K.In h₀) (T : Top p loose mean mg mb h₀) (hk : cs.kind = .function) (hd : dp + need < recursionLimit) (hu : un + 8 * need + 8 < cLine) (hp : Pre s.heap)
    (h : ∀ r h' tk', Grow s.heap h' → Fr h₀ L h' m → Out s.heap h' r → Q r { s with heap := h', toks := tk' }) :
    wpAny (model prog w) (ktrTop dp un gd cn cs L a ccd cl outer) (call (.ref f) vs) Q E s :=
  S _ _ _ _ _ _ _ _ _ _ _ _ _ _ _ _ _ _ _ _ _ _ B F X T hk hd hu hp fun r h' tk' g o => h r h' tk' g (fr_grow F g) o
theorem news_grow' {h h' : Heap} {news : List (Addr × Obj)} (g : Grow h h') (N : News h₀ L h news) : News h₀ L h' news := news_grow N g
end
end Mine
namespace Mine
section
variable {prog : Program} {w : World} {A : Around} {E : Value → Shared → Prop} {s : Shared}
namespace F
theorem kind_issubclass_nested : builtinKind "issubclass.nested" = none := by decide +kernel
theorem plain_issubclass_nested : plainId "issubclass.nested" = true := by decide +kernel
theorem args_issubclass_nested_3 (a b c : Value) : argsOk "issubclass.nested" ⟨[a, b, c], []⟩ := by unfold argsOk; kernel_rfl
end F
theorem code_fun {id : String} {B : Builtin} {args : List Value} {R : Result → Shared → Prop} (kind : builtinKind id = none) (plain : plainId id = true)
    (entry : entryFor table id = some B) (ok : argsOk id ⟨args, []⟩)
    (h : wpAny (model prog w) A.in1 (B ⟨args, []⟩) (fun fin s' => match fin with | .done f => R (.ok f) s' | .again c' => c'.quiet = true ∧ codeAny (model prog w) A c' R s') (fun e s' => R (.error e) s') s) :
    codeAny (model prog w) A (.call (.builtin id) ⟨args, []⟩) R s := by
  run_tac Mine.mark
  refine codeAny_call_builtin plain entry ?_
  simp only [checkBuiltinCall, kind]
  cases hsig : Manifest.signature? id with
  | none => exact wpAny_pure h
  | some sig =>
    simp only [argsOk, hsig] at ok
    have h2 : Bind.checkArgs id sig ⟨args, []⟩ = pure () := ok
    show wpAny _ _ (Bind.checkArgs id sig ⟨args, []⟩) _ _ s
    rw [h2]; exact wpAny_pure h
  run_tac Mine.shrink
theorem issub_self {dep : Int} {tk : Tok} {Q : Fin → Shared → Prop} (hq : Q (.done (.ret (.bool true))) s) :
    wpAny (model prog w) A (Builtin.«issubclass.nested» ⟨[.type "str", .type "str", .int dep tk], []⟩) Q E s := by
  have hm := F.isi_meta_str
  have hself := F.sub_str_str
  repeat (any_goals (first | assumption | (rw [if_pos hm]) | (rw [hself]) | wp_step))

theorem issub_tup {tp : Addr} {n : Nat} {Q : Value → Shared → Prop} (htp : s.heap.get? tp = some { cls := .type "tuple", data := .seq #[.type "str", .type "bytes"] n })
    (hq : ∀ tk, Q (.bool true) { s with toks := tk }) : wpAny (model prog w) A (call (.builtin "issubclass") [.type "str", .ref tp]) Q E s := by
  run_tac Mine.mark
  refine call_issubclass (S := fun A R s => s.heap.get? tp = some { cls := .type "tuple", data := .seq #[.type "str", .type "bytes"] n } ∧ ∀ tk, R (.ok (.ret (.bool true))) { s with toks := tk }) (fun prog w A R s hs => issubclass_outer ?_) ⟨htp, fun tk => hq tk⟩
  obtain ⟨htp, hq⟩ := hs
  obtain ⟨h, g, d, t, os⟩ := s
  have hT2 : (⟨h, g, d, t, os⟩ : Shared).TypeIs (.ref tp) "tuple" := ⟨_, htp, rfl⟩
  have f1 := F.isi_sub_tuple
  repeat (any_goals (first | assumption | wp_step))
  refine code_fun F.kind_issubclass_nested F.plain_issubclass_nested F.entry_issubclass_nested (F.args_issubclass_nested_3 _ _ _) ?_
  refine issub_self (dep := 0 + 1) (tk := 0) ?_
  repeat (any_goals (first | assumption | wp_step))
  exact hq _
  run_tac Mine.shrink
theorem truthy_ne {x : Str} {t : Tok} {Q : Bool → Shared → Prop} (h0 : 0 < x.length) (hf : x.length < 2 ^ 62) (h : ∀ tk, Q true { s with toks := tk }) : wpAny (model prog w) A (truthy (.str x t)) Q E s := by
  run_tac Mine.mark
  refine P.truthy_str (by omega) ?_
  have : ((x.length : Int) != 0) = true := by simp only [bne_iff_ne, ne_eq]; omega
  rw [this]
  exact h _
  run_tac Mine.shrink
end
end Mine
namespace Mine
section
variable {prog : Program} {w : World} {A : Around} {s : Shared} {env : Env} {h₀ : Heap} {E : Value → Shared → Prop}

/-- a for loop by an invariant over the frame's names and the ledger; with an else -/
def LoopS (prog : Program) (w : World) (A : Around) (h₀ : Heap) (env : Env) (x : Str) (body orelse : List Stmt) (Q : Flow → Shared → Prop) (E : Value → Shared → Prop) (it : Value) (s : Shared) : Prop :=
  ∃ (I : Addr) (fp wr : List Addr) (n : Nat) (P : Nat → Value → Prop) (St : Nat → Heap → Prop) (m : Str → Option Value) (news : List (Addr × Obj)) (J : Nat → (Str → Option Value) → List (Addr × Obj) → Prop),
    it = .ref I ∧ Walks prog w A I fp wr n P St ∧ env.locals ∉ fp ∧ (∀ b ∈ wr, h₀.get? b = none) ∧ (∀ p ∈ news, p.1 ∉ fp) ∧ St 0 s.heap ∧ Fr h₀ env.locals s.heap m ∧ News h₀ env.locals s.heap news ∧ J 0 m news ∧
    (∀ i v m₁ news₁ h tk own, i < n → P i v → news₁.map (·.1) = news.map (·.1) → OwnOff own (news.map (·.1)) → J i m₁ news₁ → Fr h₀ env.locals h (fun y => if y = x then some v else m₁ y) → News h₀ env.locals h (news₁ ++ own) →
      wpAny (model prog w) A (execs body env) (InvPostN h₀ env.locals (J (i + 1)) own (news.map (·.1)) { s with heap := h, toks := tk } Q) E { s with heap := h, toks := tk }) ∧
    ∀ h' tk m' news', Fr h₀ env.locals h' m' → News h₀ env.locals h' news' → J n m' news' → wpAny (model prog w) A (execs orelse env) Q E { s with heap := h', toks := tk }

theorem forLoopS {R : Result → Shared → Prop} {x : Str} {px : Pos} {body orelse : List Stmt} {I : Addr} {fp wr : List Addr} {n : Nat} {P : Nat → Value → Prop} {St : Nat → Heap → Prop} {m : Str → Option Value}
    {news : List (Addr × Obj)} (W : Walks prog w A I fp wr n P St) (hx : env.kindOf x = some .local)
    (hp : (env.scope.kind == .class || (env.scope.kind == .module && env.locals != env.globals)) = false)
    (hLf : env.locals ∉ fp) (hwr : ∀ b ∈ wr, h₀.get? b = none) (hnf : ∀ p ∈ news, p.1 ∉ fp)
    (hst : St 0 s.heap) (F : Fr h₀ env.locals s.heap m) (N : News h₀ env.locals s.heap news)
    (J : Nat → (Str → Option Value) → List (Addr × Obj) → Prop) (h0 : J 0 m news)
    (step : ∀ i v m₁ news₁ h tk own, i < n → P i v → news₁.map (·.1) = news.map (·.1) → OwnOff own (news.map (·.1)) → J i m₁ news₁ → Fr h₀ env.locals h (fun y => if y = x then some v else m₁ y) → News h₀ env.locals h (news₁ ++ own) →
      wpAny (model prog w) A (execs body env) (InvPostN h₀ env.locals (J (i + 1)) own (news.map (·.1)) { s with heap := h, toks := tk } (fun f s' => R (.ok f) s')) (notedBy (model prog w) A env fun e s' => R (.error e) s') { s with heap := h, toks := tk })
    (hR : ∀ h' tk m' news', Fr h₀ env.locals h' m' → News h₀ env.locals h' news' → J n m' news' →
      wpAny (model prog w) A (execs orelse env) (fun f s' => R (.ok f) s') (notedBy (model prog w) A env fun e s' => R (.error e) s') { s with heap := h', toks := tk }) :
    codeAny (model prog w) A (.forLoop (.Name x px) (.ref I) body orelse env) R s := by
  run_tac Mine.mark
  have hLw : env.locals ∉ wr := fun h => hLf (W.sub _ h)
  have old : ∀ b o, h₀.get? b = some o → b ∉ wr := fun b o e hb => by rw [hwr b hb] at e; cases e
  have offN : ∀ news' : List (Addr × Obj), news'.map (·.1) = news.map (·.1) → ∀ p ∈ news', p.1 ∉ fp := fun news' e p hp => by
    have h1 : p.1 ∈ news'.map (·.1) := List.mem_map.mpr ⟨p, hp, rfl⟩
    rw [e] at h1
    obtain ⟨q, hq, e'⟩ := List.mem_map.mp h1
    exact e' ▸ hnf q hq
  refine codeAny_forLoop
    (fun k s' => ∃ h' tk m' news' i, s' = { s with heap := h', toks := tk } ∧ St i h' ∧ Fr h₀ env.locals h' m' ∧ News h₀ env.locals h' news' ∧ news'.map (·.1) = news.map (·.1) ∧ J i m' news' ∧ i ≤ n ∧ k = n + 1 - i) ?_ (n + 1)
    ⟨s.heap, s.toks, m, news, 0, rfl, hst, F, N, rfl, h0, Nat.zero_le _, rfl⟩
  rintro k s' ⟨h', tk, m', news', i, rfl, hst', F', N', hadr, hJ, hi, rfl⟩
  have hnf' := offN news' hadr
  have next : ∀ h₁ : Heap, (∀ b o, b ∉ wr → h'.get? b = some o → h₁.get? b = some o) → Fr h₀ env.locals h₁ m' ∧ News h₀ env.locals h₁ news' := fun h₁ hk₁ =>
    ⟨⟨F'.ns.at' fun o e => hk₁ _ o hLw e, fun b o e => hk₁ b o (old b o e) (F'.keep b o e), F'.above⟩, fun p hp => ⟨hk₁ _ _ (fun q => hnf' p hp (W.sub _ q)) (N' p hp).1, (N' p hp).2⟩⟩
  by_cases hlt : i < n
  · refine W.item i _ _ _ hlt hst' fun v h₁ tk₁ hP hst₁ hk₁ => ?_
    obtain ⟨F₁, N₁⟩ := next h₁ hk₁
    refine wpAny_assign_Name (wpAny_storeName_local hx F₁.ns (fun h₂ hn₂ hs₂ => ?_) hp)
    have F₂ := F₁.set hn₂ hs₂
    have Nown : News h₀ env.locals h₂ (ownOf h₀ fp h₂) := news_ownOf hLf
    have hst₂ : St (i + 1) h₂ := W.frame _ _ _ hst₁ fun b hb o e => (hs₂.2 b fun q => hLf (q ▸ hb)).trans e
    have N₂ : News h₀ env.locals h₂ (news' ++ ownOf h₀ fp h₂) := fun p hp => (List.mem_append.mp hp).elim ((N₁.set hs₂) p) (Nown p)
    have hoff : OwnOff (ownOf h₀ fp h₂) (news.map (·.1)) := by
      intro p hp b hb e
      obtain ⟨q, hq, rfl⟩ := List.mem_map.mp hb
      exact hnf q hq (e ▸ ownOf_sub p hp)
    have back : ∀ {s₃}, InvEndN h₀ env.locals (J (i + 1)) (ownOf h₀ fp h₂) (news.map (·.1)) { s with heap := h₂, toks := tk₁ + 1 } s₃ →
        ∃ m, m < n + 1 - i ∧ ∃ h' tk m' news' i, s₃ = { s with heap := h', toks := tk } ∧ St i h' ∧ Fr h₀ env.locals h' m' ∧ News h₀ env.locals h' news' ∧ news'.map (·.1) = news.map (·.1) ∧ J i m' news' ∧ i ≤ n ∧ m = n + 1 - i := by
      rintro s₃ ⟨h₃', tk₃, m₂, news₃, nx, rfl, F₃, N₃, hnx, hown, ha₃, hJ₃⟩
      refine ⟨n + 1 - (i + 1), by omega, h₃', tk₃, m₂, nx, i + 1, rfl, ?_, F₃, fun p hp => N₃ p (hnx p hp), ha₃, hJ₃, hlt, rfl⟩
      refine W.frame _ _ _ hst₁ fun b hb o e => ?_
      have e₂ : h₂.get? b = some o := (hs₂.2 b fun q => hLf (q ▸ hb)).trans e
      cases hn : h₀.get? b with
      | some o₀ =>
        have : o₀ = o := by have := F₂.keep b o₀ hn; rw [e₂] at this; exact (Option.some.inj this).symm
        exact this ▸ F₃.keep b o₀ hn
      | none => exact (N₃ _ (hown _ (mem_ownOf hb hn e₂))).1
    refine wpAny_mono (step i v m' news' _ _ (ownOf h₀ fp h₂) hlt hP hadr hoff hJ F₂ N₂) (fun f s₃ h₃ => ?_) fun _ _ e => e
    cases f with
    | ret v => exact h₃
    | brk => exact h₃
    | cont => exact back h₃
    | next => exact back h₃
  · have hin : i = n := by omega
    subst hin
    refine W.done _ _ _ hst' fun h₁ tk₁ hk₁ => ?_
    obtain ⟨F₁, N₁⟩ := next h₁ hk₁
    exact hR h₁ tk₁ m' news' F₁ N₁ hJ
  run_tac Mine.shrink

theorem forS {Q : Flow → Shared → Prop} {x : Str} {px pos : Pos} {iter : Expr} {body orelse : List Stmt} {m : Str → Option Value} (_F : Fr h₀ env.locals s.heap m) (hx : env.kindOf x = some .local)
    (hp : (env.scope.kind == .class || (env.scope.kind == .module && env.locals != env.globals)) = false)
    (h : wpAny (model prog w) A (eval iter env) (fun xv s₁ => wpAny (model prog w) A (pyIter xv) (fun it s₂ => LoopS prog w A h₀ env x body orelse Q E it s₂) E s₁) E s)
    (hs : ∀ x, foldedSetIterable iter env x = pure x := by intro _; rfl)
    (hE : PassesOwn (model prog w) A env E := by passes_own) :
    wpAny (model prog w) A (exec (.For (.Name x px) iter body orelse pos) env) Q E s := by
  run_tac Mine.mark
  refine wpAny_For (wpAny_mono h (fun xv s₁ h₁ => wpAny_mono h₁ (fun it s₂ h₂ => ?_) fun _ _ e => e) fun _ _ e => e) hs
  obtain ⟨I, fp, wr, n, P, St, m, news, J, rfl, W, hLf, hwr, hnf, hst, F, N, h0, step, hQ⟩ := h₂
  exact forLoopS (R := fun r s' => match r with | .ok f => Q f s' | .error e => cameBackBy (model prog w) A env E e s') W hx hp hLf hwr hnf hst F N J h0
    (fun i v m₁ news₁ h tk own a b c d e f g => wpAny_passesOwn hE (step i v m₁ news₁ h tk own a b c d e f g))
    (fun h' tk m' news' F' N' hJ => wpAny_passesOwn hE (hQ h' tk m' news' F' N' hJ))
  run_tac Mine.shrink
end
section
variable {prog : Program} {w : World} {A : Around} {s : Shared} {h₀ : Heap} {E : Value → Shared → Prop} {L l I : Addr} {m : Str → Option Value} {news : List (Addr × Obj)} {items : Array Value}
abbrev listIt (l : Addr) (i : Nat) : Obj := { cls := .type "list_iterator", data := .fields #[.ref l, .int i 0] }
theorem iter_list {Q : Value → Shared → Prop} (F : Fr h₀ L s.heap m) (N : News h₀ L s.heap news) (hl : s.heap.IsList l items)
    (h : ∀ I h', Fr h₀ L h' m → News h₀ L h' ((I, listIt l 0) :: news) → (∀ p ∈ news, p.1 < I) → Q (.ref I) { s with heap := h' }) :
    wpAny (model prog w) A (call (.builtin "iter") [.ref l]) Q E s := by
  run_tac Mine.mark
  refine call_function_entry (by decide +kernel) (by decide +kernel) kdk_entry_iter (kdk_args_iter _) ?_
  unfold Builtin.«iter»
  refine wpAny_bind (m := someArgs "iter" 1 2 _) (wpAny_of_eq (a := [Value.ref l]) (by first | rfl | kernel_rfl!) ?_)
  show wpAny _ _ (pyIter (.ref l) >>= _) _ _ _
  refine wpAny_bind (wpAny_pyIter_list hl ?_)
  exact wpAny_pure ⟨_, rfl, h _ _ (F.push _) (News.push F N _ rfl) (fun q hq => Heap.lt_size (N q hq).1)⟩
  run_tac Mine.shrink
theorem iter_strs {Q : Value → Shared → Prop} (F : Fr h₀ L s.heap m) (N : News h₀ L s.heap news) (hl : h₀.IsList l items)
    (h : ∀ I h', Fr h₀ L h' m → News h₀ L h' ((I, listIt l 0) :: news) → (∀ p ∈ news, p.1 < I) → Q (.ref I) { s with heap := h' }) :
    wpAny (model prog w) A (call (.builtin "iter") [.ref l]) Q E s := iter_list F N (hl.at fun o e => F.keep l o e) h
end
section
variable {prog : Program} {w : World} {A : Around} {s : Shared} {env : Env} {h₀ : Heap} {E : Value → Shared → Prop}
theorem LoopS.listIter {Q : Flow → Shared → Prop} {x : Str} {body orelse : List Stmt} {I l : Addr} {items : Array Value} {m : Str → Option Value} {news : List (Addr × Obj)}
    (hh : A.handled = none) (hI : s.heap.IsListIter I l 0) (hl : h₀.IsList l items) (hIn : h₀.get? I = none) (hIL : I ≠ env.locals)
    (F : Fr h₀ env.locals s.heap m) (N : News h₀ env.locals s.heap news) (hnI : ∀ p ∈ news, p.1 ≠ I) (J : Nat → (Str → Option Value) → List (Addr × Obj) → Prop) (h0 : J 0 m news)
    (step : ∀ i v m₁ news₁ h tk own, items[i]? = some v → news₁.map (·.1) = news.map (·.1) → OwnOff own (news.map (·.1)) → J i m₁ news₁ → Fr h₀ env.locals h (fun y => if y = x then some v else m₁ y) → News h₀ env.locals h (news₁ ++ own) →
      wpAny (model prog w) A (execs body env) (InvPostN h₀ env.locals (J (i + 1)) own (news.map (·.1)) { s with heap := h, toks := tk } Q) E { s with heap := h, toks := tk })
    (done : ∀ h' tk m' news', Fr h₀ env.locals h' m' → News h₀ env.locals h' news' → J items.size m' news' → wpAny (model prog w) A (execs orelse env) Q E { s with heap := h', toks := tk }) :
    LoopS prog w A h₀ env x body orelse Q E (.ref I) s := by
  run_tac Mine.mark
  obtain ⟨ol, hol, _⟩ := id hl
  have hlI : l ≠ I := by rintro rfl; rw [hIn] at hol; cases hol
  have hlL : l ≠ env.locals := Nat.ne_of_lt (Nat.lt_of_lt_of_le (Heap.lt_size hol) F.above)
  refine ⟨I, [I, l], [I], items.size, _, _, m, news, J, rfl, Walks.list hh I l hlI items, ?_, ?_, ?_, ⟨hI, hl.at fun o e => F.keep l o e⟩, F, N, h0, fun i v m₁ news₁ h tk own _ hP => step i v m₁ news₁ h tk own hP, done⟩
  · intro hm
    rcases List.mem_cons.mp hm with e | hm
    · exact hIL e.symm
    · exact hlL (List.mem_singleton.mp hm).symm
  · intro b hb; rw [List.mem_singleton.mp hb]; exact hIn
  · intro p hp hm
    rcases List.mem_cons.mp hm with e | hm
    · exact hnI p hp e
    · have := (N p hp).2.2
      rw [List.mem_singleton.mp hm, hol] at this; cases this
  run_tac Mine.shrink

/-- one name but the loop's own is turned -/
def Acc1 (x y : Str) (m₀ : Str → Option Value) (v : Value) (m : Str → Option Value) : Prop := ∃ u, m = fun z => if z = x then u else if z = y then some v else m₀ z
theorem Acc1.start {x y : Str} {m₀ : Str → Option Value} {v : Value} (h : m₀ y = some v) : Acc1 x y m₀ v m₀ := ⟨m₀ x, by
  funext z
  by_cases h1 : z = x
  · simp [h1]
  · by_cases h2 : z = y
    · subst h2; simp [h1, h]
    · simp [h1, h2]⟩
theorem Acc1.next {x y : Str} {m₀ m : Str → Option Value} {v : Value} (h : m y = some v) (hk : ∀ z, z ≠ x → z ≠ y → m z = m₀ z) : Acc1 x y m₀ v m := ⟨m x, by
  funext z
  by_cases h1 : z = x
  · simp [h1]
  · by_cases h2 : z = y
    · subst h2; simp [h1, h]
    · simp [h1, h2, hk z h1 h2]⟩
/-- the loop's own name and one more are turned, and a third that is told -/
def Acc2 (x x' y : Str) (m₀ : Str → Option Value) (v : Value) (m : Str → Option Value) : Prop := ∃ u u', m = fun z => if z = x then u else if z = x' then u' else if z = y then some v else m₀ z
theorem Acc2.next {x x' y : Str} {m₀ m : Str → Option Value} {v : Value} (h : m y = some v) (hk : ∀ z, z ≠ x → z ≠ x' → z ≠ y → m z = m₀ z) : Acc2 x x' y m₀ v m := ⟨m x, m x', by
  funext z
  by_cases h1 : z = x
  · simp [h1]
  · by_cases h2 : z = x'
    · subst h2; simp [h1]
    · by_cases h3 : z = y
      · subst h3; simp [h1, h2, h]
      · simp [h1, h2, h3, hk z h1 h2 h3]⟩
theorem Acc2.ints {x x' y : Str} {m₀ m : Str → Option Value} {z : Int} {t : Tok} (h : m y = some (.int z t)) (hk : ∀ z, z ≠ x → z ≠ x' → z ≠ y → m z = m₀ z) : ∃ t', Acc2 x x' y m₀ (.int z t') m := ⟨t, Acc2.next h hk⟩
theorem Acc1.strs {x y : Str} {m₀ m : Str → Option Value} {z : Str} {t : Tok} (h : m y = some (.str z t)) (hk : ∀ z, z ≠ x → z ≠ y → m z = m₀ z) : ∃ t', Acc1 x y m₀ (.str z t') m := ⟨t, Acc1.next h hk⟩
theorem Acc1.ints {x y : Str} {m₀ m : Str → Option Value} {z : Int} {t : Tok} (h : m y = some (.int z t)) (hk : ∀ z, z ≠ x → z ≠ y → m z = m₀ z) : ∃ t', Acc1 x y m₀ (.int z t') m := ⟨t, Acc1.next h hk⟩
end
section
variable {prog : Program} {w : World} {A : Around} {s : Shared} {env : Env} {h₀ : Heap} {E : Value → Shared → Prop}
theorem LoopS.range {Q : Flow → Shared → Prop} {x : Str} {body orelse : List Stmt} {r : Addr} {a b : Int} {t u v : Tok} {n : Nat} {m : Str → Option Value} {news : List (Addr × Obj)}
    (hh : A.handled = none) (hr : IsRange s.heap r a b 1 t u v) (hsmall : Builtin.Range.small a b 1 = true) (hn : Builtin.Range.rangeSize a b 1 = (n : Int))
    (F : Fr h₀ env.locals s.heap m) (N : News h₀ env.locals s.heap news) (J : Nat → (Str → Option Value) → List (Addr × Obj) → Prop) (h0 : J 0 m news)
    (step : ∀ i t m₁ news₁ h tk own, i < n → news₁.map (·.1) = news.map (·.1) → OwnOff own (news.map (·.1)) → J i m₁ news₁ → Fr h₀ env.locals h (fun y => if y = x then some (.int (a + (i : Int)) t) else m₁ y) → News h₀ env.locals h (news₁ ++ own) →
      wpAny (model prog w) A (execs body env) (InvPostN h₀ env.locals (J (i + 1)) own (news.map (·.1)) { s with heap := h, toks := tk } Q) E { s with heap := h, toks := tk })
    (done : ∀ h' tk m' news', Fr h₀ env.locals h' m' → News h₀ env.locals h' news' → J n m' news' → wpAny (model prog w) A (execs orelse env) Q E { s with heap := h', toks := tk }) :
    wpAny (model prog w) A (pyIter (.ref r)) (fun it s₂ => LoopS prog w A h₀ env x body orelse Q E it s₂) E s := by
  run_tac Mine.mark
  refine wpAny_pyIter_range hr hsmall ?_
  have hL : env.locals ≠ s.heap.objs.size := Nat.ne_of_lt F.ns.lt
  have hb : h₀.get? s.heap.objs.size = none := by
    cases q : h₀.get? s.heap.objs.size with
    | none => rfl
    | some o => exact absurd (Heap.lt_size (F.keep _ _ q)) (Nat.lt_irrefl _)
  refine ⟨_, [s.heap.objs.size], [s.heap.objs.size], n, _, _, m, news, J, rfl, Walks.range hh s.heap.objs.size a 1 n, ?_, ?_, ?_, ?_, F.push _, (fun p hp => ⟨Heap.get?_push_of_some _ (N p hp).1, (N p hp).2⟩), h0, fun i v m₁ news₁ h tk own hi hP => ?_, done⟩
  · intro hm; exact hL (List.mem_singleton.mp hm)
  · intro c hc; rw [List.mem_singleton.mp hc]; exact hb
  · intro p hp hm
    exact absurd (Heap.lt_size (N p hp).1) ((List.mem_singleton.mp hm) ▸ Nat.lt_irrefl _)
  · show IsRangeIter _ _ _ _ _
    have := Heap.get?_push_size s.heap (o := ({ cls := .type "range_iterator", data := .fields #[rawInt a, rawInt (Builtin.Range.rangeSize a b 1), rawInt 1] } : Obj)) rfl
    rw [hn] at this
    rw [hn]
    simpa [IsRangeIter] using this
  · obtain ⟨t, rfl⟩ := hP
    rw [Int.mul_one]
    exact step i t m₁ news₁ h tk own hi
  run_tac Mine.shrink
end
theorem fr_named {h₀ h : Heap} {L : Addr} {m : Str → Option Value} (F : Fr h₀ L h m) : ∃ m₀, m₀ = m ∧ Fr h₀ L h m₀ := ⟨m, rfl, F⟩
theorem Acc2.start {x x' y : Str} {m₀ : Str → Option Value} {v : Value} (h : m₀ y = some v) : Acc2 x x' y m₀ v m₀ := Acc2.next h fun _ _ _ _ => rfl
theorem news_named {h₀ h : Heap} {L D : Addr} {o : Obj} {r : List (Addr × Obj)} (N : News h₀ L h ((D, o) :: r)) : ∃ D', D' = D ∧ News h₀ L h ((D', o) :: r) := ⟨D, rfl, N⟩
theorem inv_end1 {h₀ h' : Heap} {L D : Addr} {o : Obj} {own : List (Addr × Obj)} {J : (Str → Option Value) → List (Addr × Obj) → Prop} {m' : Str → Option Value} {s₁ : Shared} {tk : Nat}
    (F : Fr h₀ L h' m') (N : News h₀ L h' ((D, o) :: own)) (hj : J m' [(D, o)]) : InvEndN h₀ L J own [D] s₁ { s₁ with heap := h', toks := tk } :=
  InvEndN.intro (nx := [(D, o)]) F N hj rfl (fun p hp => by rw [List.mem_singleton.mp hp]; exact .head _) (fun p hp => .tail _ hp)
theorem inv_end0 {h₀ h' : Heap} {L : Addr} {own : List (Addr × Obj)} {J : (Str → Option Value) → List (Addr × Obj) → Prop} {m' : Str → Option Value} {s₁ : Shared} {tk : Nat}
    (F : Fr h₀ L h' m') (N : News h₀ L h' own) (hj : J m' []) : InvEndN h₀ L J own [] s₁ { s₁ with heap := h', toks := tk } :=
  InvEndN.intro (nx := []) F N hj rfl (fun p hp => nomatch hp) (fun p hp => hp)
end Mine
namespace Mine
open Builtin Builtin.Str StrLaws

/-- the numbers of a text's signs -/
abbrev cs (x : Str) : List Nat := x.cps.toList
theorem cs_app (x y : Str) : cs (x ++ y) = cs x ++ cs y := by simp [cs, Str.cps_append]
theorem cs_len (x : Str) : (cs x).length = x.length := by simp [cs, Str.length]
theorem cs_inj {x y : Str} (h : cs x = cs y) : x = y := Str.ext' (Array.toList_inj.mp h)

theorem at_head {x y : Str} {hi k c : Nat} {r : List Nat} (hy : cs y = c :: r) (h : At x y hi k) : (cs x)[k]? = some c := by
  run_tac Mine.mark
  have h2 := h.2
  rw [subAt_eq, beq_iff_eq] at h2
  have hl : y.length = r.length + 1 := by rw [← cs_len, hy]; rfl
  have e : ((cs x).drop k)[0]? = some c := by
    have := congrArg (·[0]?) h2
    rw [show y.cps.toList = c :: r from hy, hl] at this
    simpa using this
  simpa using e
  run_tac Mine.shrink

theorem chain_unique {x y : Str} {hi : Nat} (hw : 1 ≤ y.length) : ∀ {a : Nat} {c₁ c₂ : List Nat} {f₁ f₂ : Nat}, ChainG x y hi a c₁ f₁ → (∀ k, f₁ ≤ k → ¬ At x y hi k) → ChainG x y hi a c₂ f₂ → (∀ k, f₂ ≤ k → ¬ At x y hi k) → c₁ = c₂
  | a, [], [], f₁, f₂, _, _, _, _ => rfl
  | a, [], d :: r, f₁, f₂, h1, n1, h2, _ => by
    have e : f₁ = a := h1
    exact absurd h2.2.1 (n1 d (e ▸ h2.1))
  | a, d :: r, [], f₁, f₂, h1, _, h2, n2 => by
    have e : f₂ = a := h2
    exact absurd h1.2.1 (n2 d (e ▸ h1.1))
  | a, d :: r, d' :: r', f₁, f₂, h1, n1, h2, n2 => by
    have e : d = d' := by
      rcases Nat.lt_trichotomy d d' with h | h | h
      · exact absurd h1.2.1 (h2.2.2.1 d h1.1 h)
      · exact h
      · exact absurd h2.2.1 (h1.2.2.1 d' h2.1 h)
    subst e
    rw [chain_unique hw h1.2.2.2 n1 h2.2.2.2 n2]

theorem chain_join {x y : Str} {c : Nat} {r : List Nat} (hy : cs y = c :: r) : ∀ (xs : List Str) (a : Nat), xs ≠ [] → (∀ p ∈ xs, c ∉ cs p) → (cs x).drop a = cs (Str.join y xs) → a ≤ x.length →
    ∃ cuts f, ChainG x y x.length a cuts f ∧ (∀ k, f ≤ k → ¬ At x y x.length k) ∧ partsFrom x y.length a cuts = xs
  | [], _, h, _, _, _ => absurd rfl h
  | [p], a, _, hf, e, ha => by
    have e' : (cs x).drop a = cs p := e
    refine ⟨[], a, rfl, fun k hk hA => ?_, ?_⟩
    · have := at_head hy hA
      have h2 : (cs p)[k - a]? = some c := by rw [← e', List.getElem?_drop]; rw [show a + (k - a) = k by omega]; exact this
      exact hf p (List.mem_singleton.mpr rfl) (List.mem_of_getElem? h2)
    · show [strSub x a x.length] = [p]
      congr 1
      apply cs_inj
      show (strSub x a x.length).cps.toList = _
      rw [strSub_toList, List.take_of_length_le]
      · exact e'
      · rw [List.length_drop]
        have := cs_len x
        show x.cps.toList.length - a ≤ _
        have h3 : x.cps.toList.length = x.length := this
        omega
  | p :: q :: t, a, _, hf, e, ha => by
    have e' : (cs x).drop a = cs p ++ (cs y ++ cs (Str.join y (q :: t))) := by
      rw [e]
      show cs (p ++ y ++ Str.join y (q :: t)) = _
      rw [cs_app, cs_app, List.append_assoc]
    have hlen : (cs x).length - a = p.length + (y.length + (Str.join y (q :: t)).length) := by
      have := congrArg List.length e'
      rw [List.length_drop, List.length_append, List.length_append] at this
      rwa [cs_len p, cs_len y, cs_len (Str.join y (q :: t))] at this
    have hx := cs_len x
    have e2 : (cs x).drop (a + p.length) = cs y ++ cs (Str.join y (q :: t)) := by
      rw [← List.drop_drop, e', ← cs_len p, List.drop_left]
    have e3 : (cs x).drop (a + p.length + y.length) = cs (Str.join y (q :: t)) := by
      rw [← List.drop_drop, e2, ← cs_len y, List.drop_left]
    obtain ⟨cuts, f, h1, h2, h3⟩ := chain_join (x := x) hy (q :: t) (a + p.length + y.length) (by simp) (fun z hz => hf z (.tail _ hz)) e3 (by omega)
    refine ⟨(a + p.length) :: cuts, f, ⟨by omega, ⟨by omega, ?_⟩, fun k hk1 hk2 hA => ?_, h1⟩, h2, ?_⟩
    · rw [subAt_eq, beq_iff_eq]
      show ((cs x).drop (a + p.length)).take y.length = cs y
      rw [e2, ← cs_len y, List.take_left]
    · have := at_head hy hA
      have h4 : (cs p)[k - a]? = some c := by
        have h5 : ((cs x).drop a)[k - a]? = some c := by rw [List.getElem?_drop, show a + (k - a) = k by omega]; exact this
        rw [e', List.getElem?_append_left (by rw [cs_len]; omega)] at h5
        exact h5
      exact hf p (.head _) (List.mem_of_getElem? h4)
    · show strSub x a (a + p.length) :: partsFrom x y.length (a + p.length + y.length) cuts = _
      rw [h3]
      congr 1
      apply cs_inj
      show (strSub x a (a + p.length)).cps.toList = _
      rw [strSub_toList]
      show ((cs x).drop a).take (a + p.length - a) = cs p
      rw [e', show a + p.length - a = (cs p).length by rw [cs_len]; omega, List.take_left]

theorem kind_pos (x : Str) : 1 ≤ Builtin.Str.strKind x := by
  unfold Builtin.Str.strKind
  repeat' split
  all_goals omega

/-- a text that is glued together falls into what it was glued of -/
theorem split_join {y : Str} {c : Nat} {r : List Nat} (hy : cs y = c :: r) (hk : Builtin.Str.strKind y = 1) (xs : List Str) (hne : xs ≠ []) (hf : ∀ p ∈ xs, c ∉ cs p) : Txt.split (Str.join y xs) y = xs := by
  run_tac Mine.mark
  have hw : 1 ≤ y.length := by rw [← cs_len, hy]; simp
  obtain ⟨cuts, f, h1, h2, h3⟩ := chain_join (x := Str.join y xs) hy xs 0 hne hf (by simp) (Nat.zero_le _)
  obtain ⟨f', h4, h5⟩ := occ_tight (Str.join y xs) y hw
  have e := chain_unique hw h4 h5 h1 h2
  unfold Txt.split
  have k1 := kind_pos (Str.join y xs)
  rw [hk]
  rw [e]
  cases cuts with
  | nil =>
    have : [strSub (Str.join y xs) 0 (Str.join y xs).length] = xs := h3
    rw [sub_whole] at this
    simp [this]
  | cons d q =>
    have hd := h1.2.1.1
    rw [if_neg (by simp; omega)]
    simp only [List.isEmpty_cons, Bool.false_eq_true, if_false]
    rw [partsBetween_eq]
    exact h3
  run_tac Mine.shrink

/-- the words of dis for the flags, by their place -/
def flagName (i : Nat) : Str :=
  if i < 10 then (["OPTIMIZED", "NEWLOCALS", "VARARGS", "VARKEYWORDS", "NESTED", "GENERATOR", "NOFREE", "COROUTINE", "ITERABLE_COROUTINE", "ASYNC_GENERATOR"].map Str.ofString).getD i Str.empty
  else baseText "0x" 16 (2 ^ i : Nat)
def flagsUpTo (n i : Nat) : List Str := ((List.range i).filter fun k => n.testBit k).map flagName
def flagNames (n : Nat) : List Str := if n = 0 then [Str.ofString "0x0"] else flagsUpTo n 32
theorem flagsUpTo_succ (n i : Nat) : flagsUpTo n (i + 1) = flagsUpTo n i ++ (if n.testBit i then [flagName i] else []) := by
  run_tac Mine.mark
  unfold flagsUpTo
  rw [List.range_succ, List.filter_append, List.map_append]
  congr 1
  cases h : n.testBit i <;> simp [h]
  run_tac Mine.shrink

def dTab : List (Int × PyData) := [(1, .str "OPTIMIZED"), (2, .str "NEWLOCALS"), (4, .str "VARARGS"), (8, .str "VARKEYWORDS"), (16, .str "NESTED"), (32, .str "GENERATOR"), (64, .str "NOFREE"), (128, .str "COROUTINE"), (256, .str "ITERABLE_COROUTINE"), (512, .str "ASYNC_GENERATOR")]
theorem hex_len : ∀ i, i < 32 → (baseText "0x" 16 ((2 ^ i : Nat) : Int)).length ≤ 16 := by decide +kernel
theorem tab_at' : ∀ i, i < 32 → (match KTD.datumAt ((2 ^ i : Nat) : Int) dTab with | some (.str x) => x == flagName i | none => baseText "0x" 16 ((2 ^ i : Nat) : Int) == flagName i | _ => false) = true := by decide +kernel
theorem tab_at (i : Nat) (hi : i < 32) : (KTD.datumAt ((2 ^ i : Nat) : Int) dTab).getD (.str (baseText "0x" 16 ((2 ^ i : Nat) : Int))) = .str (flagName i) := by
  have h := tab_at' i hi
  split at h
  · rename_i x e; rw [e]; exact congrArg PyData.str (eq_of_beq h)
  · rename_i e; rw [e]; exact congrArg PyData.str (eq_of_beq h)
  · cases h
theorem key_eq (i : Nat) : (1 : Int) * 2 ^ (0 + (i : Int)).toNat = ((2 ^ i : Nat) : Int) := by
  have : (0 + (i : Int)).toNat = i := by omega
  rw [this, Int.one_mul]; norm_cast
section
variable {prog : Program} {w : World} {A : Around} {E : Value → Shared → Prop} {s : Shared} {h₀ : Heap} {L a : Addr} {m : Str → Option Value} {i : Nat}
theorem hex_flag {t : Tok} {Q : Value → Shared → Prop} (hi : i < 32) (h : ∀ tk tk', Q (.str (baseText "0x" 16 ((2 ^ i : Nat) : Int)) tk) { s with toks := tk' }) :
    wpAny (model prog w) A (call (.builtin "hex") [.int (1 * 2 ^ (0 + (i : Int)).toNat) t]) Q E s := by
  rw [key_eq]
  exact P.hex_of_int (h _ _) (Nat.le_trans (hex_len i hi) (by decide))
theorem get_flag {t u : Tok} {Q : Value → Shared → Prop} (hi : i < 32) (Kd : KTD.Keyed h₀ a dTab) (F : Fr h₀ L s.heap m) (h : ∀ tk tk', Q (.str (flagName i) tk) { s with toks := tk' }) :
    wpAny (model prog w) A (call (.builtin "dict.get") [.ref a, .int (1 * 2 ^ (0 + (i : Int)).toNat) t, .str (baseText "0x" 16 ((2 ^ i : Nat) : Int)) u]) Q E s := by
  run_tac Mine.mark
  rw [key_eq]
  refine call_get2_intTab (Kd.keep F.keep prog w) (PyProof.V.Flat.str _ _) fun v hv => ?_
  rw [KTD.lookup_keyed, tab_at i hi] at hv
  obtain ⟨t', rfl⟩ := PyProof.V.Flat.str_inv hv
  exact h _ _
  run_tac Mine.shrink
end

theorem flagsUpTo_len (n i : Nat) : (flagsUpTo n i).length ≤ i := by
  unfold flagsUpTo
  rw [List.length_map]
  exact Nat.le_trans (List.length_filter_le _ _) (by simp)
theorem strs_size {vs : Array Value} {ys : List Str} (h : StrsAre vs.toList ys) : vs.size = ys.length := by
  have := StrsAre.length h
  simpa using this

theorem bitAnd_nat (a b : Nat) : Builtin.bitAnd (a : Int) (b : Int) = ((a &&& b : Nat) : Int) := by
  unfold Builtin.bitAnd
  simp
theorem div_succ (n i : Nat) : n / 2 ^ (i + 1) = n / 2 ^ i / 2 := by rw [Nat.pow_succ, Nat.div_div_eq_div_mul]
theorem bit_div (n i : Nat) : n.testBit i = decide (n / 2 ^ i % 2 = 1) := Nat.testBit_eq_decide_div_mod_eq
theorem and_pow (a i : Nat) : a &&& 2 ^ i = if a.testBit i then 2 ^ i else 0 := by
  run_tac Mine.mark
  apply Nat.eq_of_testBit_eq
  intro j
  rw [Nat.testBit_and, Nat.testBit_two_pow]
  by_cases h : i = j
  · subst h
    cases h2 : a.testBit i <;> simp [Nat.testBit_two_pow]
  · cases h2 : a.testBit i <;> simp [Nat.testBit_two_pow, h]
  run_tac Mine.shrink
theorem and_flag (n i : Nat) : Builtin.bitAnd ((n / 2 ^ i * 2 ^ i : Nat) : Int) (1 * 2 ^ (0 + (i : Int)).toNat) = if n.testBit i then ((2 ^ i : Nat) : Int) else 0 := by
  run_tac Mine.mark
  rw [key_eq, bitAnd_nat, and_pow]
  have e : (n / 2 ^ i * 2 ^ i).testBit i = n.testBit i := by
    rw [bit_div, bit_div, Nat.mul_div_cancel _ (Nat.two_pow_pos i)]
  rw [e]
  cases n.testBit i <;> simp
  run_tac Mine.shrink
theorem xor_flag (n i : Nat) (h : n.testBit i = true) : Builtin.bitXor ((n / 2 ^ i * 2 ^ i : Nat) : Int) (1 * 2 ^ (0 + (i : Int)).toNat) = ((n / 2 ^ (i + 1) * 2 ^ (i + 1) : Nat) : Int) := by
  run_tac Mine.mark
  rw [bitXor_and, and_flag, if_pos h, key_eq, div_succ, Nat.pow_succ]
  rw [bit_div, decide_eq_true_eq] at h
  generalize n / 2 ^ i = q at h
  generalize 2 ^ i = P
  have e : q = q / 2 * 2 + 1 := by omega
  generalize q / 2 = r at e
  subst e
  have e2 : (r * 2 + 1) * P = r * (P * 2) + P := by rw [Nat.add_mul, Nat.one_mul, Nat.mul_assoc, Nat.mul_comm 2 P]
  rw [e2]
  omega
  run_tac Mine.shrink
theorem no_flag (n i : Nat) (h : n.testBit i = false) : n / 2 ^ i * 2 ^ i = n / 2 ^ (i + 1) * 2 ^ (i + 1) := by
  run_tac Mine.mark
  rw [div_succ, Nat.pow_succ]
  rw [bit_div, decide_eq_false_iff_not] at h
  generalize n / 2 ^ i = q at h
  generalize 2 ^ i = P
  have e : q = q / 2 * 2 := by omega
  generalize q / 2 = r at e
  subst e
  rw [Nat.mul_assoc, Nat.mul_comm 2 P]
  run_tac Mine.shrink
theorem flagsUpTo_done {n i : Nat} (h : n / 2 ^ i = 0) : ∀ j, i ≤ j → flagsUpTo n j = flagsUpTo n i := by
  run_tac Mine.mark
  intro j hj
  induction j with
  | zero => have : i = 0 := by omega
            rw [this]
  | succ j ih =>
    by_cases e : i = j + 1
    · rw [e]
    · rw [flagsUpTo_succ, ih (by omega)]
      have : n.testBit j = false := by
        rw [bit_div, decide_eq_false_iff_not]
        have h1 : n / 2 ^ j = 0 := by
          rw [show j = i + (j - i) by omega, Nat.pow_add, ← Nat.div_div_eq_div_mul, h, Nat.zero_div]
        omega
      rw [this]; simp
  run_tac Mine.shrink
theorem flagName_len : ∀ i, i < 32 → (flagName i).length ≤ 18 := by decide +kernel
theorem flagsUpTo_weight (n : Nat) : ∀ i, i ≤ 32 → ((flagsUpTo n i).map (·.length)).sum ≤ 18 * i
  | 0, _ => by simp [flagsUpTo]
  | i + 1, h => by
    rw [flagsUpTo_succ, List.map_append, List.sum_append]
    have h1 := flagsUpTo_weight n i (by omega)
    have h2 := flagName_len i (by omega)
    cases n.testBit i <;> simp <;> omega
section
variable {prog : Program} {w : World} {A : Around} {E : Value → Shared → Prop} {s : Shared} {h₀ : Heap} {L D : Addr} {news : List (Addr × Obj)}
theorem join_news {x : Str} {t : Tok} {its : Array Value} {k : Nat} {ys : List Str} {Q : Value → Shared → Prop} (N : News h₀ L s.heap news) (hm : (D, W.listOf its k) ∈ news) (hi : StrsAre its.toList ys) (hsep : x.length ≤ 16)
    (hw : (ys.map (·.length)).sum + ys.length ≤ 1048576) (h : ∀ tk tk', Q (.str (Str.join x ys) tk) { s with toks := tk' }) :
    wpAny (model prog w) A (call (.builtin "str.join") [.str x t, .ref D]) Q E s := by
  run_tac Mine.mark
  refine join_listW (ys := ys) ⟨_, N.get hm, rfl, k, rfl⟩ hi hsep hw ?_
  intro t' k'
  have := h t' k'
  rw [← StrLaws.glued_eq_join] at this
  exact this
  run_tac Mine.shrink
end
end Mine
namespace Mine
open Builtin Builtin.Str StrLaws

def joinStr (x y : Str) : Str := if Txt.endswith x (Str.ofString "/") then x ++ y else x ++ (Str.ofString "/" ++ y)
theorem out_str {x y : Str} {t : Tok} (h : x = y) : ∃ t', Value.str x t = Value.str y t' := ⟨t, h ▸ rfl⟩

/-- a part of a path -/
structure GoodW (x : Str) : Prop where
  pos : 0 < x.length
  len : x.length ≤ 18
  slash : 47 ∉ cs x
  comma : 44 ∉ cs x
  dot : x ≠ Str.ofString "."
def goodB (x : Str) : Bool := decide (0 < x.length) && decide (x.length ≤ 18) && !(cs x).contains 47 && !(cs x).contains 44 && !(x == Str.ofString ".")
theorem GoodW.of {x : Str} (h : goodB x = true) : GoodW x := by
  simp only [goodB, Bool.and_eq_true, decide_eq_true_eq, Bool.not_eq_true', List.contains_eq_mem, decide_eq_false_iff_not, beq_eq_false_iff_ne] at h
  obtain ⟨⟨⟨⟨a, b⟩, c⟩, d⟩, e⟩ := h
  exact ⟨a, b, c, d, e⟩
theorem flagName_good' : ∀ i, i < 32 → goodB (flagName i) = true := by decide +kernel
theorem flagName_good (i : Nat) (h : i < 32) : GoodW (flagName i) := .of (flagName_good' i h)
theorem zero_good : GoodW (Str.ofString "0x0") := .of (by decide +kernel)
theorem flagsUpTo_good (n i : Nat) (h : i ≤ 32) : ∀ w ∈ flagsUpTo n i, GoodW w := by
  run_tac Mine.mark
  intro w hw
  unfold flagsUpTo at hw
  obtain ⟨k, hk, rfl⟩ := List.mem_map.mp hw
  have := List.mem_range.mp (List.mem_filter.mp hk).1
  exact flagName_good k (by omega)
  run_tac Mine.shrink
theorem flagNames_good (n : Nat) : ∀ w ∈ flagNames n, GoodW w := by
  run_tac Mine.mark
  unfold flagNames
  split
  · intro w hw; rw [List.mem_singleton.mp hw]; exact zero_good
  · exact flagsUpTo_good n 32 (Nat.le_refl _)
  run_tac Mine.shrink
theorem testBit_some {n : Nat} (h : n ≠ 0) : ∃ i, n.testBit i = true := by
  run_tac Mine.mark
  apply Classical.byContradiction
  intro hn
  apply h
  apply Nat.eq_of_testBit_eq
  intro i
  rw [Nat.zero_testBit]
  cases e : n.testBit i with
  | false => rfl
  | true => exact absurd ⟨i, e⟩ hn
  run_tac Mine.shrink
theorem flagNames_ne (n : Nat) (h : n < 2 ^ 32) : flagNames n ≠ [] := by
  run_tac Mine.mark
  unfold flagNames
  split
  · simp
  · rename_i h0
    obtain ⟨i, hi⟩ := testBit_some h0
    have h32 : i < 32 := by
      rcases Nat.lt_or_ge i 32 with q | q
      · exact q
      · rw [Nat.testBit_lt_two_pow (Nat.lt_of_lt_of_le h (Nat.pow_le_pow_right (by decide) q))] at hi; cases hi
    intro e
    have : flagName i ∈ flagsUpTo n 32 := List.mem_map.mpr ⟨i, List.mem_filter.mpr ⟨List.mem_range.mpr h32, hi⟩, rfl⟩
    rw [e] at this; cases this
  run_tac Mine.shrink
theorem flagNames_len (n : Nat) : (flagNames n).length ≤ 32 := by
  run_tac Mine.mark
  unfold flagNames
  split
  · simp
  · exact flagsUpTo_len n 32
  run_tac Mine.shrink

theorem slash_cs : cs (Str.ofString "/") = [47] := by decide +kernel
theorem slash_len : (Str.ofString "/").length = 1 := by decide +kernel
theorem ends_false {x p : Str} (hp : 0 < p.length) (hf : 47 ∉ cs p) : Txt.endswith (x ++ p) (Str.ofString "/") = false := by
  cases h : Txt.endswith (x ++ p) (Str.ofString "/") with
  | false => rfl
  | true =>
    unfold Txt.endswith at h
    rw [Bool.and_eq_true] at h
    have h2 := h.2
    rw [subAt_eq, beq_iff_eq, slash_len] at h2
    have e : (x ++ p).length = x.length + p.length := Str.length_append x p
    rw [e] at h2
    have h3 : (cs (x ++ p)).drop (x.length + p.length - 1) = (cs p).drop (p.length - 1) := by
      rw [cs_app, List.drop_append, List.drop_eq_nil_of_le (by rw [cs_len]; omega), List.nil_append, cs_len]
      congr 1; omega
    have h4 : ((cs p).drop (p.length - 1)).take 1 = [47] := by
      rw [← h3]; exact h2.trans slash_cs
    exact absurd (List.mem_of_mem_drop (List.mem_of_mem_take (h4 ▸ List.mem_singleton.mpr rfl))) hf
theorem starts_false {y : Str} (hf : 47 ∉ cs y) : Txt.startswith y (Str.ofString "/") = false := by
  run_tac Mine.mark
  cases h : Txt.startswith y (Str.ofString "/") with
  | false => rfl
  | true =>
    unfold Txt.startswith at h
    rw [Bool.and_eq_true] at h
    have h2 := h.2
    rw [subAt_eq, beq_iff_eq, slash_len] at h2
    have h4 : ((cs y).drop 0).take 1 = [47] := h2.trans slash_cs
    exact absurd (List.mem_of_mem_drop (List.mem_of_mem_take (h4 ▸ List.mem_singleton.mpr rfl))) hf
  run_tac Mine.shrink

def tailStr : List Str → Str
  | [] => Str.empty
  | w :: r => Str.ofString "/" ++ (w ++ tailStr r)
theorem join_tail : ∀ (w : Str) (r : List Str), Str.join (Str.ofString "/") (w :: r) = w ++ tailStr r
  | w, [] => (Str.append_empty w).symm
  | w, v :: r => by
    show w ++ Str.ofString "/" ++ Str.join (Str.ofString "/") (v :: r) = _
    rw [join_tail v r, Str.append_assoc]; rfl
theorem fold_tail : ∀ (ws : List Str) (x p : Str), 0 < p.length → 47 ∉ cs p → (∀ w ∈ ws, GoodW w) → ws.foldl joinStr (x ++ p) = (x ++ p) ++ tailStr ws
  | [], x, p, _, _, _ => (Str.append_empty _).symm
  | w :: r, x, p, hp, hf, hg => by
    have g := hg w (.head _)
    rw [List.foldl_cons, show joinStr (x ++ p) w = (x ++ p ++ Str.ofString "/") ++ w by unfold joinStr; rw [ends_false hp hf]; simp [Str.append_assoc]]
    rw [fold_tail r _ w g.pos g.slash fun v hv => hg v (.tail _ hv)]
    simp only [tailStr, Str.append_assoc]
/-- a path of parts -/
def pathOf (ws : List Str) : Str := Str.ofString "/" ++ Str.join (Str.ofString "/") ws
theorem fold_path {ws : List Str} (hn : ws ≠ []) (hg : ∀ w ∈ ws, GoodW w) : ws.foldl joinStr (Str.ofString "/") = pathOf ws := by
  run_tac Mine.mark
  cases ws with
  | nil => exact absurd rfl hn
  | cons w r =>
    have g := hg w (.head _)
    have e : joinStr (Str.ofString "/") w = Str.ofString "/" ++ w := by
      unfold joinStr
      rw [show Txt.endswith (Str.ofString "/") (Str.ofString "/") = true by decide +kernel, if_pos rfl]
    rw [List.foldl_cons, e, fold_tail r _ w g.pos g.slash fun v hv => hg v (.tail _ hv)]
    unfold pathOf
    rw [join_tail, Str.append_assoc]
  run_tac Mine.shrink
theorem joinStr_len (x y : Str) : x.length ≤ (joinStr x y).length ∧ (joinStr x y).length ≤ x.length + y.length + 1 := by
  run_tac Mine.mark
  unfold joinStr
  split
  · rw [Str.length_append]; omega
  · rw [Str.length_append, Str.length_append, slash_len]; omega
  run_tac Mine.shrink
theorem fold_len : ∀ (ws : List Str) (x : Str), x.length ≤ (ws.foldl joinStr x).length ∧ (ws.foldl joinStr x).length ≤ x.length + (ws.map (·.length)).sum + ws.length
  | [], x => by simp
  | w :: r, x => by
    have h1 := joinStr_len x w
    have h2 := fold_len r (joinStr x w)
    simp only [List.foldl_cons, List.map_cons, List.sum_cons, List.length_cons]
    omega
theorem good_sum {ws : List Str} (hg : ∀ w ∈ ws, GoodW w) : (ws.map (·.length)).sum ≤ 18 * ws.length := by
  run_tac Mine.mark
  induction ws with
  | nil => simp
  | cons w r ih =>
    have := (hg w (.head _)).len
    have := ih fun v hv => hg v (.tail _ hv)
    simp only [List.map_cons, List.sum_cons, List.length_cons]
    omega
  run_tac Mine.shrink
theorem fold_ok {ws : List Str} (hg : ∀ w ∈ ws, GoodW w) (hl : ws.length ≤ 32) : ∀ i, i < ws.length → ((ws.take i).foldl joinStr (Str.ofString "/")).length ≤ 1000000 ∧ 0 < ((ws.take i).foldl joinStr (Str.ofString "/")).length := by
  run_tac Mine.mark
  intro i hi
  have h1 := fold_len (ws.take i) (Str.ofString "/")
  have h2 := good_sum (ws := ws.take i) fun w hw => hg w (List.mem_of_mem_take hw)
  rw [slash_len] at h1
  rw [List.length_take] at h1 h2
  omega
  run_tac Mine.shrink
theorem split_names {ws : List Str} (hn : ws ≠ []) (hg : ∀ w ∈ ws, GoodW w) : Txt.split (Str.join (Str.ofString ", ") ws) (Str.ofString ", ") = ws :=
  split_join (c := 44) (r := [32]) (by decide +kernel) (by decide +kernel) ws hn fun p hp => (hg p hp).comma
theorem split_path {ws : List Str} (hn : ws ≠ []) (hg : ∀ w ∈ ws, 47 ∉ cs w) : Txt.split (Str.join (Str.ofString "/") ws) (Str.ofString "/") = ws :=
  split_join (c := 47) (r := []) (by decide +kernel) (by decide +kernel) ws hn fun p hp => hg p hp
theorem good_red {ws : List Str} (hg : ∀ w ∈ ws, GoodW w) : ∀ y ∈ ws, y.length ≤ 1000000 ∧ Txt.startswith y (Str.ofString "/") = false := fun y hy => ⟨Nat.le_trans (hg y hy).len (by decide), starts_false (hg y hy).slash⟩
theorem len_join_le (sep : Str) : ∀ ws : List Str, (Str.join sep ws).length ≤ (ws.map (·.length)).sum + ws.length * sep.length := StrLaws.join_length_le sep
theorem good_join_len {ws : List Str} {sep : Str} (hg : ∀ w ∈ ws, GoodW w) (hl : ws.length ≤ 40) (hs : sep.length ≤ 2) : (Str.join sep ws).length ≤ 1000 := by
  have h1 := len_join_le sep ws
  have h2 := good_sum hg
  have h3 : ws.length * sep.length ≤ 40 * 2 := Nat.mul_le_mul hl hs
  omega
section
variable {prog : Program} {w : World} {A : Around} {E : Value → Shared → Prop} {s : Shared} {h₀ : Heap} {L : Addr} {m : Str → Option Value} {news : List (Addr × Obj)} {x y : Str} {t u : Tok} {Q : Value → Shared → Prop}
theorem split_news {ys : List Str} (hF : Fr h₀ L s.heap m) (hN : News h₀ L s.heap news) (hy : (y.length == 0) = false) (hsz : x.length ≤ 1000000) (e : Txt.split x y = ys)
    (h : ∀ D vs h' k, StrsAre vs ys → Fr h₀ L h' m → News h₀ L h' ((D, W.listOf vs.toArray 0) :: news) → (∀ p ∈ news, p.1 < D) → Q (.ref D) { s with heap := h', toks := k }) :
    wpAny (model prog w) A (call (.builtin "str.split") [.str x t, .str y u]) Q E s := by
  refine KSpl.split1 hF hN hy (fun D l h' k e' a F N l1 => h D _ h' k ?_ F N l1) (Nat.le_trans (Nat.add_le_add_right hsz 2) (by decide))
  rw [e', e] at a
  exact a
end
section
variable {prog : Program} {w : World} {A : Around} {E : Value → Shared → Prop} {s : Shared} {x y : Str} {t u : Tok} {Q : Value → Shared → Prop}
/-- a text's parts are a new list, right at the heap's end -/
theorem split_push {ys : List Str} (hy : (y.length == 0) = false) (hsz : x.length ≤ 1000000) (e : Txt.split x y = ys)
    (h : ∀ vs k, StrsAre vs ys → Q (.ref s.heap.objs.size) { s with heap := s.heap.push (W.listOf vs.toArray 0), toks := k }) :
    wpAny (model prog w) A (call (.builtin "str.split") [.str x t, .str y u]) Q E s := by
  run_tac Mine.mark
  have hs : x.length ≤ sizeLine := Nat.le_trans hsz (by decide)
  have hn : (partsBetween x (occurrences x y 0 x.length (x.length + 1)) y.length).length ≤ sizeLine := by
    have e1 := StrLaws.occ_length_le x y 0 x.length (x.length + 1)
    have e2 : 1000002 ≤ sizeLine := by decide
    rw [length_partsBetween]; omega
  cases h1 : (decide (x.length < y.length) || decide (Builtin.Str.strKind x < Builtin.Str.strKind y))
  · cases hf : (occurrences x y 0 x.length (x.length + 1)).isEmpty
    · refine call_meets F.slot_str_split (typeIs_str _ _ _) F.entry_str_split (F.args_str_split_2 _ _) (meets_str_split_sep x y t u h1 hy hf hs hn) ?_
      show wants Q E _ { s with toks := _, heap := s.heap.push { cls := .type "list", data := .seq (strsFrom s.toks (partsBetween x (occurrences x y 0 x.length (x.length + 1)) y.length)).toArray } }
      rw [strsFrom_eq]
      refine h _ _ ?_
      have := strsAre_of_values (numbered s.toks (partsBetween x (occurrences x y 0 x.length (x.length + 1)) y.length))
      rw [numbered_texts] at this
      rw [← e]
      unfold Txt.split
      rw [if_neg (by rw [h1]; exact Bool.false_ne_true), if_neg (by rw [hf]; exact Bool.false_ne_true)]
      exact this
    · refine call_meets F.slot_str_split (typeIs_str _ _ _) F.entry_str_split (F.args_str_split_2 _ _) (meets_str_split_not_found x y t u h1 hy hf) (h [.str x t] s.toks ?_)
      rw [← e]
      unfold Txt.split
      rw [if_neg (by rw [h1]; exact Bool.false_ne_true), if_pos hf]
      exact .cons _ _ .nil
  · refine call_meets F.slot_str_split (typeIs_str _ _ _) F.entry_str_split (F.args_str_split_2 _ _) (meets_str_split_cannot_occur x y t u h1) (h [.str x t] s.toks ?_)
    rw [← e]
    unfold Txt.split
    rw [if_pos h1]
    exact .cons _ _ .nil
  run_tac Mine.shrink
end
end Mine
namespace Mine
open PyProof.Rows.LCg

/-- a turn of a comprehension has ended: its own objects stand, the rest of the ledger is as told -/
def EndJ (h₀ : Heap) (L : Addr) (m : Str → Option Value) (s₁ : Shared) (own : List (Addr × Obj)) (S J : List (Addr × Obj) → Prop) (s₂ : Shared) : Prop :=
  ∃ h' tk news', s₂ = { s₁ with heap := h', toks := tk } ∧ Fr h₀ L h' m ∧ News h₀ L h' (own ++ news') ∧ (∀ p ∈ news', ∀ q ∈ own, p.1 ≠ q.1) ∧ S news' ∧ J news'

/-- the block's own name, as a name of its frame or as a cell -/
def Tgt (scope : Scope) (cl cl' : List (Str × Addr)) (x : Str) (C : Addr) (v : Option Value) (led : List (Addr × Obj)) : Prop :=
  (∃ oC m₂, scope.names.lookup x = some .local ∧ cl' = cl ∧ led = [(C, oC)] ∧ NsObj oC m₂ ∧ (∀ w, v = some w → m₂ x = some w)) ∨
  (∃ c oC m₂ oc u, scope.names.lookup x = some .cell ∧ cl' = (x, c) :: cl ∧ led = [(C, oC), (c, oc)] ∧ C ≠ c ∧ NsObj oC m₂ ∧ oc.data = .cell u ∧ (∀ w, v = some w → u = some w))

section
variable {prog : Program} {w : World} {A : Around} {E : Value → Shared → Prop} {s : Shared} {h₀ : Heap} {L : Addr} {m : Str → Option Value} {env : Env}

/-- what a turn must do -/
def TurnJ (prog : Program) (w : World) (A : Around) (h₀ : Heap) (L : Addr) (m : Str → Option Value) (env : Env) (elt : Expr) (ifs : List Expr) (x : Str) (scope : Scope) (cl : List (Str × Addr)) (s : Shared) (S : List (Addr × Obj) → Prop) (n : Nat) (P : Nat → Value → Prop)
    (J : Nat → List Value → List (Addr × Obj) → Prop) : Prop :=
  ∀ i ys news v I oI C cl' led D h tk (E' : Value → Shared → Prop), i < n → P i v → J i ys news → S news → Tgt scope cl cl' x C (some v) led → Fr h₀ L h m → News h₀ L h ((I, oI) :: (led ++ (D, lst ys) :: news)) →
    (∀ p ∈ news, ∀ q ∈ (I, oI) :: (led ++ [(D, lst ys)]), p.1 ≠ q.1) → (@Ne Nat I D) →
    wpAny (model prog w) A (forIn ifs true fun c r => if r = true then do let ok ← isTrue c (compEnvC scope cl' C env) (eval c (compEnvC scope cl' C env)); pure (ForInStep.yield ok) else pure (ForInStep.yield r))
      (fun ok s₃ => if ok = true then
          wpAny (model prog w) A (eval elt (compEnvC scope cl' C env)) (fun y s₄ => EndJ h₀ L m { s with heap := h, toks := tk } ((I, oI) :: (led ++ [(D, lst ys)])) S (J (i + 1) (ys ++ [y])) s₄) E' s₃
        else EndJ h₀ L m { s with heap := h, toks := tk } ((I, oI) :: (led ++ [(D, lst ys)])) S (J (i + 1) ys) s₃) E' { s with heap := h, toks := tk }

theorem mem_own {a : Addr × Obj} {led : List (Addr × Obj)} {d : Addr × Obj} {news : List (Addr × Obj)} {p : Addr × Obj} (h : p ∈ a :: (led ++ d :: news)) : p ∈ a :: (led ++ [d]) ++ news := by
  simpa using h
theorem own_mem {a : Addr × Obj} {led : List (Addr × Obj)} {d : Addr × Obj} {news : List (Addr × Obj)} {p : Addr × Obj} (h : p ∈ a :: (led ++ [d]) ++ news) : p ∈ a :: (led ++ d :: news) := by
  simpa using h

theorem loop_J {elt iter : Expr} {ifs : List Expr} {x : Str} {px : Pos} {scope : Scope} {cl cl' : List (Str × Addr)} {pos : Pos} {s₂ : Shared} {I C D : Addr} {fp : List Addr} {n : Nat} {P : Nat → Value → Prop} {St : Nat → Heap → Prop} {S : List (Addr × Obj) → Prop} {news : List (Addr × Obj)}
    {J : Nat → List Value → List (Addr × Obj) → Prop} {R : Result → Shared → Prop} {led₀ : List (Addr × Obj)} {h₁ : Heap} {tk₁ : Nat}
    (W : Walks prog w A I fp [I] n P St) (hsz : n ≤ sizeLine) (hIo : ∀ i h, St i h → ∃ o, h.get? I = some o)
    (hSt : ∀ i h h' o nw, St i h → h.get? I = some o → h'.get? I = some o → (∀ b o, h₀.get? b = some o → h'.get? b = some o) → News h₀ L h' nw → S nw → St i h')
    (hkind : scope.kind = .function) (hT : Tgt scope cl cl' x C none led₀)
    (F : Fr h₀ L h₁ m) (N : News h₀ L h₁ (led₀ ++ (D, lst []) :: news)) (hst : St 0 h₁)
    (hIL : L ≠ I) (hI₀ : h₀.get? I = none) (hCI : ∀ p ∈ led₀, p.1 ≠ I) (hCf : ∀ p ∈ led₀, p.1 ∉ fp) (hDI : D ≠ I) (hDf : D ∉ fp) (hDC : ∀ p ∈ led₀, p.1 ≠ D)
    (off : ∀ p ∈ news, p.1 ≠ I ∧ p.1 ≠ D ∧ ∀ q ∈ led₀, p.1 ≠ q.1) (hS : S news) (hJ : J 0 [] news)
    (turn : TurnJ prog w A h₀ L m env elt ifs x scope cl s₂ S n P J)
    (hR : ∀ h tk ys news' led', Tgt scope cl cl' x C none led' → Fr h₀ L h m → News h₀ L h (led' ++ (D, lst ys) :: news') → (∀ p ∈ news', p.1 ≠ D ∧ p.1 ≠ C) → J n ys news' → R (.ok .next) { s₂ with heap := h, toks := tk }) :
    codeAny (model prog w) A (.compLoop (.ListComp elt [⟨.Name x px, iter, ifs, 0⟩] scope pos) 0 (.ref I) (.ref D) (compEnvC scope cl' C env)) R { s₂ with heap := h₁, toks := tk₁ } := by
  run_tac Mine.mark
  have adr : ∀ {v led}, Tgt scope cl cl' x C v led → led.map (·.1) = led₀.map (·.1) := by
    intro v led h
    rcases hT with ⟨oC, m₂, hl, hc, rfl, _, _⟩ | ⟨c, oC, m₂, oc, u, hl, hc, rfl, _, _, _, _⟩
    · rcases h with ⟨oC', m', hl', hc', rfl, _, _⟩ | ⟨c', oC', m', oc', u', hl', hc', rfl, _, _, _, _⟩
      · rfl
      · rw [hl] at hl'; cases hl'
    · rcases h with ⟨oC', m', hl', hc', rfl, _, _⟩ | ⟨c', oC', m', oc', u', hl', hc', rfl, _, _, _, _⟩
      · rw [hl] at hl'; cases hl'
      · rw [hc] at hc'
        have : c = c' := by injection hc' with e _; exact (Prod.mk.inj e).2
        subst this; rfl
  have inLed : ∀ {v led}, Tgt scope cl cl' x C v led → ∀ p ∈ led, ∃ q ∈ led₀, p.1 = q.1 := fun h p hp => by
    have h1 : p.1 ∈ (_ : List (Addr × Obj)).map (·.1) := List.mem_map.mpr ⟨p, hp, rfl⟩
    rw [adr h] at h1
    obtain ⟨q, hq, e⟩ := List.mem_map.mp h1
    exact ⟨q, hq, e.symm⟩
  have atC : ∀ {v led}, Tgt scope cl cl' x C v led → ∃ q ∈ led, q.1 = C := by
    intro v led h
    rcases h with ⟨oC', m', hl', hc', rfl, _, _⟩ | ⟨c', oC', m', oc', u', hl', hc', rfl, _, _, _, _⟩
    · exact ⟨_, .head _, rfl⟩
    · exact ⟨_, .head _, rfl⟩
  -- the item is stored
  have store : ∀ {v₀ : Option Value} {led : List (Addr × Obj)} (v : Value) (h : Heap) (tk : Nat) (Q : Unit → Shared → Prop) (E : Value → Shared → Prop), Tgt scope cl cl' x C v₀ led → (∀ p ∈ led, h.get? p.1 = some p.2) →
      (∀ h' tk' led', Tgt scope cl cl' x C (some v) led' → (∀ p ∈ led', h'.get? p.1 = some p.2) → (∀ b o, (∀ q ∈ led₀, b ≠ q.1) → h.get? b = some o → h'.get? b = some o) → Q () { s₂ with heap := h', toks := tk' }) →
      wpAny (model prog w) A (assign (.Name x px) (compEnvC scope cl' C env) v) Q E { s₂ with heap := h, toks := tk } := by
    intro v₀ led v h tk Q E hT' hin hQ
    have ad := adr hT'
    rcases hT' with ⟨oC, m₂, hl, hc, rfl, hns, _⟩ | ⟨c, oC, m₂, oc, u, hl, hc, rfl, hne, hns, hcd, _⟩
    · have hn := hns.ns (hin _ (.head _))
      refine wpAny_assign_Name (wpAny_storeName_local (lookup_relabel_local hl) hn (fun h' hn' hs' => ?_) (by simp [compEnvC, relabel, hkind]))
      obtain ⟨oC', e', ho'⟩ := ns_obj hn'
      refine hQ h' _ [(C, oC')] (.inl ⟨oC', _, hl, hc, rfl, ho', fun w hw => by rw [← hw]; simp⟩) (fun p hp => by rw [List.mem_singleton.mp hp]; exact e') fun b o hb e => hs'.extBut b o (fun q => ?_) e
      have h1 : C ∈ led₀.map (·.1) := by rw [← ad]; exact .head _
      obtain ⟨q', hq', e''⟩ := List.mem_map.mp h1
      exact hb q' hq' (q.trans e''.symm)
    · have hcx : (compEnvC scope cl' C env).kindOf x = some .cell := by
        show (scope.names.map fun (n, k) => if (k == NameKind.free && env.scope.kind == .function && env.kindOf n == some .cell) = true then (n, NameKind.cell) else (n, k)).lookup x = some .cell
        revert hl
        generalize scope.names = nms
        intro hl
        induction nms with
        | nil => cases hl
        | cons q r ih =>
          obtain ⟨n', k'⟩ := q
          rw [List.map_cons]
          rw [List.lookup_cons] at hl
          cases hx' : x == n' with
          | true =>
            rw [hx'] at hl
            have hk' : k' = .cell := Option.some.inj hl
            subst hk'
            show List.lookup x ((if (NameKind.cell == NameKind.free && env.scope.kind == .function && env.kindOf n' == some .cell) = true then (n', NameKind.cell) else (n', NameKind.cell)) :: _) = _
            rw [if_neg (by simp), List.lookup_cons, hx']
          | false =>
            rw [hx'] at hl
            have := ih hl
            show List.lookup x ((if (k' == NameKind.free && env.scope.kind == .function && env.kindOf n' == some .cell) = true then (n', NameKind.cell) else (n', k')) :: _) = _
            by_cases hcnd : (k' == NameKind.free && env.scope.kind == .function && env.kindOf n' == some .cell) = true
            · rw [if_pos hcnd, List.lookup_cons, hx']; exact this
            · rw [if_neg hcnd, List.lookup_cons, hx']; exact this
      refine wpAny_assign_Name (wpAny_storeName_cell (by simp [compEnvC, relabel, hkind]) hcx (c := c) (by show cl'.lookup x = some c; rw [hc, List.lookup_cons]; simp) ⟨oc, hin _ (.tail _ (.head _)), hcd⟩ fun h' hv hs' => ?_)
      obtain ⟨oc', e', hd'⟩ := hv
      refine hQ h' _ [(C, oC), (c, oc')] (.inr ⟨c, oC, m₂, oc', _, hl, hc, rfl, hne, hns, hd', fun w hw => hw⟩) (fun p hp => ?_) fun b o hb e => hs'.extBut b o (fun q => ?_) e
      · rcases List.mem_cons.mp hp with rfl | hp
        · exact hs'.extBut _ _ hne (hin _ (.head _))
        · rw [List.mem_singleton.mp hp]; exact e'
      · have h1 : c ∈ led₀.map (·.1) := by rw [← ad]; exact .tail _ (.head _)
        obtain ⟨q', hq', e''⟩ := List.mem_map.mp h1
        exact hb q' hq' (q.trans e''.symm)
  refine codeAny_compLoop_tests
    (fun k s' => ∃ h' tk i ys news' led v, s' = { s₂ with heap := h', toks := tk } ∧ i ≤ n ∧ k = n + 1 - i ∧ ys.length ≤ i ∧ St i h' ∧ Fr h₀ L h' m ∧ Tgt scope cl cl' x C v led ∧ News h₀ L h' (led ++ (D, lst ys) :: news') ∧
      (∀ p ∈ news', p.1 ≠ I ∧ p.1 ≠ D ∧ ∀ q ∈ led₀, p.1 ≠ q.1) ∧ S news' ∧ J i ys news') ?_ (n + 1)
    ⟨h₁, tk₁, 0, [], news, led₀, none, rfl, Nat.zero_le _, rfl, Nat.le_refl _, hst, F, hT, N, off, hS, hJ⟩
  rintro k s' ⟨h', tk, i, ys, news', led, v₀, rfl, hi, rfl, hyl, hst', F', hT', N', off', hS', hJ'⟩
  have hledI : ∀ p ∈ led, p.1 ≠ I := fun p hp => by obtain ⟨q, hq, e⟩ := inLed hT' p hp; rw [e]; exact hCI q hq
  have nI : ∀ p ∈ led ++ (D, lst ys) :: news', p.1 ≠ I := fun p hp => by
    rcases List.mem_append.mp hp with hp | hp
    · exact hledI p hp
    · rcases List.mem_cons.mp hp with rfl | hp
      · exact hDI
      · exact (off' p hp).1
  by_cases hlt : i < n
  · refine W.item i _ _ _ hlt hst' fun v h₂ tk₂ hPv hst₂ hk₂ => ?_
    have N₂ : News h₀ L h₂ (led ++ (D, lst ys) :: news') := news_but N' hk₂ nI
    refine store v h₂ _ _ _ hT' (fun p hp => (N₂ p (List.mem_append_left _ hp)).1) fun h₃ tk₃ led₃ hT₃ hin₃ hk₃ => ?_
    have hst₃ : St (i + 1) h₃ := W.frame _ _ _ hst₂ fun b hb o e => hk₃ b o (fun q hq e' => hCf q hq (e' ▸ hb)) e
    obtain ⟨oI, heI⟩ := hIo _ _ hst₃
    have led₀none : ∀ q ∈ led₀, h₀.get? q.1 = none ∧ q.1 ≠ L := fun q hq => ⟨(N q (List.mem_append_left _ hq)).2.2, (N q (List.mem_append_left _ hq)).2.1⟩
    have F₃ : Fr h₀ L h₃ m := by
      have F₂ := fr_but F' hk₂ hIL hI₀
      exact ⟨F₂.ns.at' fun o e => hk₃ _ o (fun q hq => Ne.symm (led₀none q hq).2) e, fun b o e => hk₃ b o (fun q hq e' => by rw [e', (led₀none q hq).1] at e; cases e) (F₂.keep b o e), F₂.above⟩
    have N₃ : News h₀ L h₃ ((I, oI) :: (led₃ ++ (D, lst ys) :: news')) := fun p hp => by
      rcases List.mem_cons.mp hp with rfl | hp
      · exact ⟨heI, Ne.symm hIL, hI₀⟩
      · rcases List.mem_append.mp hp with hp | hp
        · obtain ⟨q, hq, e⟩ := inLed hT₃ p hp
          exact ⟨hin₃ p hp, by rw [e]; exact (led₀none q hq).2, by rw [e]; exact (led₀none q hq).1⟩
        · have z := N₂ p (List.mem_append_right _ hp)
          refine ⟨hk₃ _ _ (fun q hq => ?_) z.1, z.2⟩
          rcases List.mem_cons.mp hp with rfl | hp
          · exact Ne.symm (hDC q hq)
          · exact (off' p hp).2.2 q hq
    have ownOff : ∀ p ∈ news', ∀ q ∈ (I, oI) :: (led₃ ++ [(D, lst ys)]), p.1 ≠ q.1 := fun p hp q hq => by
      rcases List.mem_cons.mp hq with rfl | hq
      · exact (off' p hp).1
      · rcases List.mem_append.mp hq with hq | hq
        · obtain ⟨q', hq', e⟩ := inLed hT₃ q hq
          rw [e]; exact (off' p hp).2.2 q' hq'
        · rw [List.mem_singleton.mp hq]; exact (off' p hp).2.1
    have go := turn i ys news' v I oI C cl' led₃ D h₃ tk₃ (notedBy (model prog w) A (compEnvC scope cl' C env) fun e s' => R (.error e) s') hlt hPv hJ' hS' hT₃ F₃ N₃ ownOff (Ne.symm hDI)
    -- what stands behind a turn
    have back : ∀ {ys' : List Value} {s₄ : Shared}, ys'.length ≤ ys.length → EndJ h₀ L m { s₂ with heap := h₃, toks := tk₃ } ((I, oI) :: (led₃ ++ [(D, lst ys)])) S (J (i + 1) ys') s₄ →
        ∃ h₄ tk₄ news₄, s₄ = { s₂ with heap := h₄, toks := tk₄ } ∧ St (i + 1) h₄ ∧ Fr h₀ L h₄ m ∧ News h₀ L h₄ (led₃ ++ (D, lst ys) :: news₄) ∧ (∀ p ∈ news₄, p.1 ≠ I ∧ p.1 ≠ D ∧ ∀ q ∈ led₀, p.1 ≠ q.1) ∧ S news₄ ∧ J (i + 1) ys' news₄ := by
      rintro ys' s₄ _ ⟨h₄, tk₄, news₄, rfl, F₄, N₄, off₄, hS₄, hJ₄⟩
      have zI := (N₄ (I, oI) (.head _)).1
      have N₄' : News h₀ L h₄ news₄ := fun p hp => N₄ p (List.mem_append_right _ hp)
      refine ⟨h₄, tk₄, news₄, rfl, hSt _ _ _ _ _ hst₃ heI zI F₄.keep N₄' hS₄, F₄, fun p hp => N₄ p (mem_own (.tail _ hp)), fun p hp => ⟨off₄ p hp (I, oI) (.head _), off₄ p hp (D, lst ys) (.tail _ (List.mem_append_right _ (.head _))), fun q hq => ?_⟩, hS₄, hJ₄⟩
      have h1 : q.1 ∈ led₃.map (·.1) := by rw [adr hT₃]; exact List.mem_map.mpr ⟨q, hq, rfl⟩
      obtain ⟨q', hq', e⟩ := List.mem_map.mp h1
      rw [← e]
      exact off₄ p hp q' (.tail _ (List.mem_append_left _ hq'))
    refine wpAny_mono go (fun ok s₄ h₄ => ?_) fun _ _ e => e
    cases ok with
    | false =>
      simp only [Bool.false_eq_true, if_false] at h₄ ⊢
      obtain ⟨h₄', tk₄, news₄, rfl, hst₄, F₄, N₄, off₄, hS₄, hJ₄⟩ := back (Nat.le_refl _) h₄
      exact ⟨n + 1 - (i + 1), by omega, h₄', tk₄, i + 1, ys, news₄, led₃, _, rfl, hlt, rfl, by omega, hst₄, F₄, hT₃, N₄, off₄, hS₄, hJ₄⟩
    | true =>
      simp only [if_true] at h₄ ⊢
      refine wpAny_mono h₄ (fun y s₅ h₅ => ?_) fun _ _ e => e
      obtain ⟨h₅', tk₅, news₅, rfl, F₅, N₅, off₅, hS₅, hJ₅⟩ := h₅
      have zI := (N₅ (I, oI) (.head _)).1
      have zD := (N₅ (D, lst ys) (own_mem (news := news₅) (by simp) |> mem_own)).1
      have N₅' : News h₀ L h₅' news₅ := fun p hp => N₅ p (List.mem_append_right _ hp)
      have hst₅ : St (i + 1) h₅' := hSt _ _ _ _ _ hst₃ heI zI F₅.keep N₅' hS₅
      refine append_at (hsz := by show ys.toArray.size ≤ sizeLine; rw [List.size_toArray]; omega) zD fun h₆ hs₆ hD₆ => ?_
      have hDL : D ≠ L := (N₅ (D, lst ys) (own_mem (news := news₅) (by simp) |> mem_own)).2.1
      have hD₀ : h₀.get? D = none := (N₅ (D, lst ys) (own_mem (news := news₅) (by simp) |> mem_own)).2.2
      have offLed : ∀ p ∈ news₅, ∀ q ∈ led₀, p.1 ≠ q.1 := fun p hp q hq => by
        have h1 : q.1 ∈ led₃.map (·.1) := by rw [adr hT₃]; exact List.mem_map.mpr ⟨q, hq, rfl⟩
        obtain ⟨q', hq', e⟩ := List.mem_map.mp h1
        rw [← e]
        exact off₅ p hp q' (.tail _ (List.mem_append_left _ hq'))
      refine ⟨n + 1 - (i + 1), by omega, h₆, tk₅, i + 1, ys ++ [y], news₅, led₃, _, rfl, hlt, rfl, by rw [List.length_append, List.length_singleton]; omega, W.frame _ _ _ hst₅ fun b hb o e => hs₆.extBut b o (fun q => hDf (q ▸ hb)) e, F₅.change hs₆ hDL hD₀, hT₃, fun p hp => ?_,
        fun p hp => ⟨off₅ p hp (I, oI) (.head _), off₅ p hp (D, lst ys) (.tail _ (List.mem_append_right _ (.head _))), offLed p hp⟩, hS₅, hJ₅⟩
      rcases List.mem_append.mp hp with hp | hp
      · have z := N₅ p (mem_own (.tail _ (List.mem_append_left _ hp)))
        refine ⟨hs₆.extBut _ _ ?_ z.1, z.2⟩
        obtain ⟨q, hq, e⟩ := inLed hT₃ p hp
        rw [e]; exact hDC q hq
      · rcases List.mem_cons.mp hp with rfl | hp
        · exact ⟨hD₆.trans (congrArg some (lst_snoc ys y)), hDL, hD₀⟩
        · exact ⟨hs₆.extBut _ _ (off₅ p hp (D, lst ys) (.tail _ (List.mem_append_right _ (.head _)))) (N₅' p hp).1, (N₅' p hp).2⟩
  · obtain rfl : i = n := Nat.le_antisymm hi (Nat.not_lt.mp hlt)
    refine W.done _ _ _ hst' fun h₂ tk₂ hk₂ => ?_
    refine hR h₂ tk₂ ys news' led ?_ (fr_but F' hk₂ hIL hI₀) (news_but N' hk₂ nI) (fun p hp => ⟨(off' p hp).2.1, ?_⟩) hJ'
    · rcases hT' with ⟨oC, m₂, hl, hc, rfl, hns, _⟩ | ⟨c, oC, m₂, oc, u, hl, hc, rfl, hne, hns, hcd, _⟩
      · exact .inl ⟨oC, m₂, hl, hc, rfl, hns, fun _ e => nomatch e⟩
      · exact .inr ⟨c, oC, m₂, oc, u, hl, hc, rfl, hne, hns, hcd, fun _ e => nomatch e⟩
    · obtain ⟨q, hq, e⟩ := atC hT
      rw [← e]; exact (off' p hp).2.2 q hq
  run_tac Mine.shrink
end
section
variable {prog : Program} {w : World} {A : Around} {E : Value → Shared → Prop} {s : Shared} {h₀ : Heap} {L : Addr} {m : Str → Option Value} {env : Env}

/-- a block's frame that has one cell, the loop's own name -/
theorem newEnv_cell {scope : Scope} {cl : List (Str × Addr)} {n₀ x z : Str} {Q : Env → Shared → Prop} (hn : scope.names = [(n₀, .local), (x, .cell), (z, .free)])
    (h : ∀ C c h', C = s.heap.objs.size → c = s.heap.objs.size + 1 → (∀ b o, s.heap.get? b = some o → h'.get? b = some o) → h'.get? C = some { cls := .type "dict", data := .dict #[] } → h'.get? c = some { cls := .type "cell", data := .cell none } →
      Q { scope := scope, locals := C, globals := env.globals, cells := (x, c) :: cl, qual := env.qual, func := none, code := env.code, frame := env.frame, builtins := env.builtins } { s with heap := h' }) :
    wpAny (model prog w) A (newFunctionEnv scope env.globals cl [] env.qual none .none (some env)) Q E s := by
  run_tac Mine.mark
  unfold newFunctionEnv
  rw [hn]
  refine wpAny_bind (wpAny_alloc ?_)
  have hq := h s.heap.objs.size (s.heap.objs.size + 1) ((s.heap.push { cls := .type "dict", data := .dict #[] }).push { cls := .type "cell", data := .cell none }) rfl rfl
    (fun b o e => Heap.get?_push_of_some _ (Heap.get?_push_of_some _ e)) (Heap.get?_push_of_some _ (Heap.get?_push_size _ rfl)) (by
      have := Heap.get?_push_size (s.heap.push ({ cls := .type "dict", data := .dict #[] } : Obj)) (o := ({ cls := .type "cell", data := .cell none } : Obj)) rfl
      rwa [Heap.size_push] at this)
  have b1 : (NameKind.local == NameKind.cell) = false := by decide
  have b2 : (NameKind.cell == NameKind.cell) = true := by decide
  have b3 : (NameKind.free == NameKind.cell) = false := by decide
  refine wpAny_bind ?_
  rw [List.forIn_cons]
  simp only [b1, Bool.false_eq_true, if_false]
  refine wpAny_bind (wpAny_pure ?_)
  dsimp only
  rw [List.forIn_cons]
  simp only [b2, if_true]
  refine wpAny_bind (wpAny_bind (wpAny_alloc (wpAny_pure ?_)))
  dsimp only
  rw [List.forIn_cons]
  simp only [b3, Bool.false_eq_true, if_false]
  refine wpAny_bind (wpAny_pure ?_)
  dsimp only
  rw [List.forIn_nil]
  refine wpAny_pure ?_
  show wpAny _ _ (forIn [] PUnit.unit _ >>= _) _ _ _
  rw [List.forIn_nil]
  refine wpAny_bind (wpAny_pure (wpAny_pure ?_))
  have e : (s.heap.push ({ cls := .type (if (some env).isSome = true then "dict" else "frame"), data := .dict #[] } : Obj)).objs.size = s.heap.objs.size + 1 := Heap.size_push ..
  rw [e]
  exact hq
  run_tac Mine.shrink
end
section
variable {prog : Program} {w : World} {A : Around} {E : Value → Shared → Prop} {s : Shared} {h₀ : Heap} {L : Addr} {m : Str → Option Value} {env : Env}

/-- where a comprehension's own name is kept -/
def Names1 (scope : Scope) (x : Str) : Prop :=
  ((∀ y ∈ scope.names, y.2 ≠ .cell) ∧ scope.names.lookup x = some .local) ∨ (∃ n₀ z, scope.names = [(n₀, .local), (x, .cell), (z, .free)] ∧ n₀ ≠ x)

theorem block_J {elt iter : Expr} {ifs : List Expr} {x : Str} {px : Pos} {scope : Scope} {cl : List (Str × Addr)} {pos : Pos} {s₂ : Shared} {I : Addr} {fp : List Addr} {n : Nat} {P : Nat → Value → Prop} {St : Nat → Heap → Prop} {S : List (Addr × Obj) → Prop} {news : List (Addr × Obj)}
    {J : Nat → List Value → List (Addr × Obj) → Prop} {RR : Value → Addr → Result → Shared → Prop}
    (W : Walks prog w A I fp [I] n P St) (hsz : n ≤ sizeLine) (hIo : ∀ i h, St i h → ∃ o, h.get? I = some o)
    (hSt : ∀ i h h' o nw, St i h → h.get? I = some o → h'.get? I = some o → (∀ b o, h₀.get? b = some o → h'.get? b = some o) → News h₀ L h' nw → S nw → St i h')
    (hx : Names1 scope x) (hkind : scope.kind = .function) (hst : St 0 s₂.heap) (hfp : ∀ b ∈ fp, b < s₂.heap.objs.size)
    (F : Fr h₀ L s₂.heap m) (N : News h₀ L s₂.heap news) (hIL : L ≠ I) (hI₀ : h₀.get? I = none) (off : ∀ p ∈ news, p.1 ≠ I) (hS : S news) (hJ : J 0 [] news)
    (turn : TurnJ prog w A h₀ L m env elt ifs x scope cl s₂ S n P J)
    (hRR : ∀ D C h tk m' ys news', Fr h₀ L h m → News h₀ L h ((D, lst ys) :: news') → (∀ p ∈ news', p.1 ≠ D) → h.Ns C m' → h₀.get? C = none → h₀.get? D = none → C ≠ L → D ≠ L → C ≠ D → (∀ p ∈ news', p.1 ≠ C) → J n ys news' → RR (.ref D) C (.ok .next) { s₂ with heap := h, toks := tk }) :
    wpAny (model prog w) A (newList []) (fun acc s₃ => wpAny (model prog w) A (newFunctionEnv scope env.globals cl [] env.qual none .none (some env)) (fun cenv s₄ =>
      codeAny (model prog w) A (.compStart (.ListComp elt [⟨.Name x px, iter, ifs, 0⟩] scope pos) 0 (.ref I) acc { cenv with scope := relabel scope env }) (RR acc cenv.locals) s₄) E s₃) E s₂ := by
  run_tac Mine.mark
  have hIf : I ∈ fp := W.sub I (List.mem_singleton.mpr rfl)
  have hIlt : I < s₂.heap.objs.size := hfp I hIf
  have hLlt : L < s₂.heap.objs.size := F.ns.lt
  have fresh₀ : ∀ a, s₂.heap.objs.size ≤ a → h₀.get? a = none := fun a ha => by
    cases e : h₀.get? a with
    | none => rfl
    | some o' => exact absurd (Heap.lt_size (F.keep a o' e)) (Nat.not_lt.mpr ha)
  refine wpAny_newObj_type ?_
  generalize hH2 : s₂.heap.push { cls := .type "list", dict := none, data := .seq ([] : List Value).toArray } = H2
  have hH2s : H2.objs.size = s₂.heap.objs.size + 1 := by rw [← hH2, Heap.size_push]
  have hD2 : H2.get? s₂.heap.objs.size = some (lst []) := by rw [← hH2]; exact Heap.get?_push_size _ rfl
  have k2 : ∀ b o, s₂.heap.get? b = some o → H2.get? b = some o := fun b o e => by rw [← hH2]; exact Heap.get?_push_of_some _ e
  generalize hDe : s₂.heap.objs.size = D at hIlt hLlt fresh₀ hH2s hD2 hfp
  -- the loop, once the block's frame stands
  have run : ∀ (C : Addr) (cl' : List (Str × Addr)) (led : List (Addr × Obj)) (h₁ : Heap) (tk : Nat), C = D + 1 → Tgt scope cl cl' x C none led → (∀ p ∈ led, D < p.1) → (∀ p ∈ led, h₁.get? p.1 = some p.2) → (∀ b o, H2.get? b = some o → h₁.get? b = some o) →
      codeAny (model prog w) A (.compStart (.ListComp elt [⟨.Name x px, iter, ifs, 0⟩] scope pos) 0 (.ref I) (.ref D) (compEnvC scope cl' C env)) (RR (.ref D) C) { s₂ with heap := h₁, toks := tk } := by
    intro C cl' led h₁ tk hC hT hgt hin hk₁
    have old : ∀ b o, s₂.heap.get? b = some o → h₁.get? b = some o := fun b o e => hk₁ b o (k2 b o e)
    have hst₁ : St 0 h₁ := W.frame _ _ _ hst fun b _ o e => old b o e
    have ltD : ∀ p ∈ news, p.1 < D := fun p hp => hDe ▸ Heap.lt_size (N p hp).1
    have loop : codeAny (model prog w) A (.compLoop (.ListComp elt [⟨.Name x px, iter, ifs, 0⟩] scope pos) 0 (.ref I) (.ref D) (compEnvC scope cl' C env)) (RR (.ref D) C) { s₂ with heap := h₁, toks := tk } := by
      refine loop_J (led₀ := led) W hsz hIo hSt hkind hT (F.keeps old) (fun p hp => ?_) hst₁ hIL hI₀ (fun p hp => ?_) (fun p hp hm => ?_) (Nat.ne_of_gt hIlt) (fun hm => Nat.lt_irrefl _ (hfp _ hm)) (fun p hp => Nat.ne_of_gt (hgt p hp)) (fun p hp => ⟨off p hp, Nat.ne_of_lt (ltD p hp), fun q hq => Nat.ne_of_lt (Nat.lt_trans (ltD p hp) (hgt q hq))⟩) hS hJ turn ?_
      · rcases List.mem_append.mp hp with hp | hp
        · exact ⟨hin p hp, Nat.ne_of_gt (Nat.lt_trans hLlt (hgt p hp)), fresh₀ _ (Nat.le_of_lt (hgt p hp))⟩
        · rcases List.mem_cons.mp hp with rfl | hp
          · exact ⟨hk₁ _ _ hD2, Nat.ne_of_gt hLlt, fresh₀ _ (Nat.le_refl _)⟩
          · exact ⟨old _ _ (N p hp).1, (N p hp).2⟩
      · exact Nat.ne_of_gt (Nat.lt_trans hIlt (hgt p hp))
      · exact Nat.lt_irrefl _ (Nat.lt_trans (hgt p hp) (hfp _ hm))
      · intro h tk' ys news' led' hT' F' N' off' hJ'
        have hCD : C ≠ D := by rw [hC]; exact Nat.ne_of_gt (Nat.lt_succ_self _)
        have hns : ∃ m', h.Ns C m' := by
          rcases hT' with ⟨oC, m₂, _, _, rfl, hns, _⟩ | ⟨c, oC, m₂, oc, u, _, _, rfl, _, hns, _, _⟩
          · exact ⟨m₂, hns.ns (N' _ (.head _)).1⟩
          · exact ⟨m₂, hns.ns (N' _ (.head _)).1⟩
        obtain ⟨m', hns⟩ := hns
        exact hRR D C h tk' m' ys news' F' (fun p hp => N' p (List.mem_append_right _ hp)) (fun p hp => (off' p hp).1) hns (fresh₀ _ (by rw [hC]; exact Nat.le_succ _)) (fresh₀ _ (Nat.le_refl _)) (by rw [hC]; exact Nat.ne_of_gt (Nat.lt_succ_of_lt hLlt)) (Nat.ne_of_gt hLlt) hCD (fun p hp => (off' p hp).2) hJ'
    exact codeAny_compStart_list loop (W.self 0 _ _ _ hst₁ loop)
  rcases hx with ⟨hcell, hl⟩ | ⟨n₀, z, hn, hne⟩
  · refine wpAny_newFunctionEnv hcell (by intro y hy; simp at hy) (fun h₁ hns₁ hsb₁ => ?_) hkind
    dsimp only at hns₁ hsb₁ ⊢
    have hext : ∀ b o, H2.get? b = some o → h₁.get? b = some o := fun b o e => hsb₁.extBut b o (Nat.ne_of_lt (Heap.lt_size e)) (Heap.get?_push_of_some _ e)
    obtain ⟨oC, eC, hoC⟩ := ns_obj hns₁
    have := run H2.objs.size cl [(H2.objs.size, oC)] h₁ (s₂.toks + ([] : List (Str × Value)).length) hH2s (.inl ⟨oC, _, hl, rfl, rfl, hoC, fun _ e => nomatch e⟩) (fun p hp => by rw [List.mem_singleton.mp hp, hH2s]; exact Nat.lt_succ_self _) (fun p hp => by rw [List.mem_singleton.mp hp]; exact eC) hext
    exact this
  · refine newEnv_cell hn fun C c h' hC hc hk hgC hgc => ?_
    dsimp only at hC hc hk ⊢
    have hlx : scope.names.lookup x = some .cell := by
      rw [hn, List.lookup_cons]
      have : (x == n₀) = false := by simpa using Ne.symm hne
      rw [this]; simp
    have := run C ((x, c) :: cl) [(C, { cls := .type "dict", data := .dict #[] }), (c, { cls := .type "cell", data := .cell none })] h' s₂.toks (hC.trans hH2s)
      (.inr ⟨c, _, fun _ => none, _, none, hlx, rfl, rfl, by rw [hC, hc]; exact Nat.ne_of_lt (Nat.lt_succ_self _), ⟨#[], 0, rfl, fun e he => by simp at he, fun _ => rfl⟩, rfl, fun _ e => nomatch e⟩)
      (fun p hp => by
        rcases List.mem_cons.mp hp with rfl | hp
        · show D < C; rw [hC, hH2s]; exact Nat.lt_succ_self _
        · rw [List.mem_singleton.mp hp]; show D < c; rw [hc, hH2s]; exact Nat.lt_succ_of_lt (Nat.lt_succ_self _))
      (fun p hp => by
        rcases List.mem_cons.mp hp with rfl | hp
        · exact hgC
        · rw [List.mem_singleton.mp hp]; exact hgc) hk
    exact this
  run_tac Mine.shrink
end
section
variable {prog : Program} {w : World} {A : Around} {E : Value → Shared → Prop} {s : Shared} {h₀ : Heap} {L : Addr} {m : Str → Option Value} {env : Env}

/-- the source of a comprehension, its turns, and what is wanted behind it -/
def SrcJ (prog : Program) (w : World) (A : Around) (h₀ : Heap) (L : Addr) (m : Str → Option Value) (env : Env) (elt : Expr) (ifs : List Expr) (x : Str) (scope : Scope) (cl : List (Str × Addr)) (up : Addr → Str → Option Value) (K : Addr → Shared → Prop) (it : Value) (s₂ : Shared) : Prop :=
  ∃ I fp n P St S news J, it = .ref I ∧ Walks prog w A I fp [I] n P St ∧ n ≤ sizeLine ∧ (∀ i h, St i h → ∃ o, h.get? I = some o) ∧
    (∀ i h h' o nw, St i h → h.get? I = some o → h'.get? I = some o → (∀ b o, h₀.get? b = some o → h'.get? b = some o) → News h₀ L h' nw → S nw → St i h') ∧
    St 0 s₂.heap ∧ (∀ b ∈ fp, b < s₂.heap.objs.size) ∧ Fr h₀ L s₂.heap m ∧ News h₀ L s₂.heap news ∧ L ≠ I ∧ h₀.get? I = none ∧ (∀ p ∈ news, p.1 ≠ I) ∧ S news ∧ J 0 [] news ∧ TurnJ prog w A h₀ L m env elt ifs x scope cl s₂ S n P J ∧
    ∀ D h tk ys news', Fr h₀ L h (up D) → News h₀ L h ((D, lst ys) :: news') → (∀ p ∈ news', p.1 ≠ D) → J n ys news' → K D { s₂ with heap := h, toks := tk }

theorem ListComp_J {elt iter : Expr} {ifs : List Expr} {x : Str} {px : Pos} {scope : Scope} {cl : List (Str × Addr)} {pos : Pos} {Q : Value → Shared → Prop} (_F₀ : Fr h₀ L s.heap m)
    (hclos : closureFor scope env = pure cl) (hx : Names1 scope x) (hkind : scope.kind = .function)
    (hnames : ∀ y ∈ scope.names, y.2 = .local → scope.names.lookup y.1 = some .local)
    (h : wpAny (model prog w) A (eval iter env) (fun xv s₁ => wpAny (model prog w) A (pyIter xv) (SrcJ prog w A h₀ L m env elt ifs x scope cl (fun _ => m) (fun D s' => Q (.ref D) s')) E s₁) E s)
    (hs : ∀ x, foldedSetIterable iter env x = pure x := by intro _; rfl) :
    wpAny (model prog w) A (eval (.ListComp elt [⟨.Name x px, iter, ifs, 0⟩] scope pos) env) Q E s := by
  run_tac Mine.mark
  rw [eval_ListComp]
  refine wpAny_comprehension_free (use := none) rfl hs hclos hkind hnames (wpAny_mono h (fun xv s₁ h₁ => wpAny_mono h₁ (fun it s₂ h₂ => ?_) fun _ _ e => e) fun _ _ e => e)
  obtain ⟨I, fp, n, P, St, S, news, J, rfl, W, hsz, hIo, hSt, hst, hfp, F, N, hIL, hI₀, off, hS, hJ, turn, fin⟩ := h₂
  refine block_J W hsz hIo hSt hx hkind hst hfp F N hIL hI₀ off hS hJ turn fun D C h tk m' ys news' F' N' o1 hn hC₀ hD₀ hCL hDL hCD offC hJ' => ?_
  refine ⟨m', hn, fun h'' hs'' => fin D h'' tk ys news' (F'.change hs'' hCL hC₀) (fun p hp => ?_) o1 hJ'⟩
  refine ⟨hs''.extBut _ _ ?_ (N' p hp).1, (N' p hp).2⟩
  rcases List.mem_cons.mp hp with rfl | hp
  · exact Ne.symm hCD
  · exact offC p hp
  run_tac Mine.shrink

theorem Assign_ListComp_J {elt iter : Expr} {ifs : List Expr} {x y : Str} {px py : Pos} {scope : Scope} {cl : List (Str × Addr)} {pos spos : Pos} {Q : Flow → Shared → Prop} (_F₀ : Fr h₀ L s.heap m) (hLe : env.locals = L)
    (hsw : swapsWith (.ListComp elt [⟨.Name x px, iter, ifs, 0⟩] scope pos) (some (.Name y py)) spos.line env = pure true)
    (hclos : closureFor scope env = pure cl) (hx : Names1 scope x) (hkind : scope.kind = .function)
    (hnames : ∀ z ∈ scope.names, z.2 = .local → scope.names.lookup z.1 = some .local)
    (hy : env.kindOf y = some .local) (hp : (env.scope.kind == .class || (env.scope.kind == .module && env.locals != env.globals)) = false)
    (h : wpAny (model prog w) A (eval iter env) (fun xv s₁ => wpAny (model prog w) A (pyIter xv) (SrcJ prog w A h₀ L m env elt ifs x scope cl (fun D z => if z = y then some (.ref D) else m z) (fun _ s' => Q .next s')) E s₁) E s)
    (hs : ∀ x, foldedSetIterable iter env x = pure x := by intro _; rfl) :
    wpAny (model prog w) A (exec (.Assign [.Name y py] (.ListComp elt [⟨.Name x px, iter, ifs, 0⟩] scope pos) spos) env) Q E s := by
  run_tac Mine.mark
  subst hLe
  rw [exec_Assign_Name_used _ _ _ _ hsw]
  refine wpAny_bind (wpAny_standAt (wpAny_bind ?_))
  show wpAny _ A (do let _ ← comprehension (.ListComp elt [⟨.Name x px, iter, ifs, 0⟩] scope pos) scope env _ (newList []) false (eval iter env) (some (assign (.Name y py) env))) _ _ s
  refine wpAny_bind (wpAny_mono (wpAny_comprehension_free (use := some (assign (.Name y py) env)) (Q := fun _ s' => Q .next s') rfl hs hclos hkind hnames
    (wpAny_mono h (fun xv s₁ h₁ => wpAny_mono h₁ (fun it s₂ h₂ => ?_) fun _ _ e => e) fun _ _ e => e)) (fun _ s' hq => wpAny_pure (wpAny_pure hq)) fun _ _ e => e)
  obtain ⟨I, fp, n, P, St, S, news, J, rfl, W, hsz, hIo, hSt, hst, hfp, F, N, hIL, hI₀, off, hS, hJ, turn, fin⟩ := h₂
  refine block_J W hsz hIo hSt hx hkind hst hfp F N hIL hI₀ off hS hJ turn fun D C h tk m' ys news' F' N' o1 hn hC₀ hD₀ hCL hDL hCD offC hJ' => ?_
  show wpAny _ A (assign (.Name y py) env (.ref D)) _ _ _
  refine wpAny_assign_Name (wpAny_storeName_local hy F'.ns (fun h₂ hn₂ hs₂ => ?_) hp)
  have hL₀ : h₀.get? env.locals = none := Heap.get?_none_of_le F'.above
  have F₂ : Fr h₀ env.locals h₂ (fun z => if z = y then some (.ref D) else m z) := ⟨hn₂, fun b o e => hs₂.extBut b o (fun q => by rw [q, hL₀] at e; cases e) (F'.keep b o e), F'.above⟩
  refine ⟨m', hn.sameBut hs₂ hCL, fun h'' hs'' => fin D h'' _ ys news' (F₂.change hs'' hCL hC₀) (fun p hp => ?_) o1 hJ'⟩
  have z : h₂.get? p.1 = some p.2 := hs₂.extBut _ _ (N' p hp).2.1 (N' p hp).1
  refine ⟨hs''.extBut _ _ ?_ z, (N' p hp).2⟩
  rcases List.mem_cons.mp hp with rfl | hp
  · exact Ne.symm hCD
  · exact offC p hp
  run_tac Mine.shrink

section
variable {elt : Expr} {ifs : List Expr} {x : Str} {scope : Scope} {cl : List (Str × Addr)} {up : Addr → Str → Option Value} {K : Addr → Shared → Prop} {news : List (Addr × Obj)}
theorem SrcJ.list {ax : Addr} {its : Array Value} (hh : A.handled = none) (F : Fr h₀ L s.heap m) (N : News h₀ L s.heap news) (S : SrcAt h₀ ax its news) (hsz : its.size ≤ sizeLine) (J : Nat → List Value → List (Addr × Obj) → Prop) (hJ : J 0 [] news)
    (turn : TurnJ prog w A h₀ L m env elt ifs x scope cl s (SrcAt h₀ ax its) its.size (fun i v => its[i]? = some v) J)
    (fin : ∀ D h tk ys news', Fr h₀ L h (up D) → News h₀ L h ((D, lst ys) :: news') → (∀ p ∈ news', p.1 ≠ D) → J its.size ys news' → K D { s with heap := h, toks := tk }) :
    wpAny (model prog w) A (pyIter (.ref ax)) (SrcJ prog w A h₀ L m env elt ifs x scope cl up K) E s := by
  run_tac Mine.mark
  have hl := S.list F.keep N
  have hlt : ax < s.heap.objs.size := by obtain ⟨_, e, _⟩ := hl; exact Heap.lt_size e
  refine wpAny_pyIter_list hl ?_
  have up' : ∀ b o, s.heap.get? b = some o → (s.heap.push { cls := .type "list_iterator", data := .fields #[.ref ax, .int 0 0] }).get? b = some o := fun b o e => Heap.get?_push_of_some _ e
  refine ⟨s.heap.objs.size, _, _, _, _, _, news, J, rfl, Walks.list hh s.heap.objs.size ax (Nat.ne_of_lt hlt) its, hsz, (fun i h st => by obtain ⟨o, e, _⟩ := st.1; exact ⟨o, e⟩), list_st, ⟨⟨_, Heap.get?_push_size _ rfl, rfl, rfl⟩, hl.push _⟩, (fun b hb => ?_),
    F.keeps up', N.grown up', Nat.ne_of_lt F.ns.lt, next_is_new F, (fun p hp => Nat.ne_of_lt (Heap.lt_size (N p hp).1)), S, hJ, turn, fin⟩
  show b < (s.heap.push _).objs.size
  rw [Heap.size_push]
  rcases List.mem_cons.mp hb with rfl | hb
  · exact Nat.lt_succ_self _
  · rw [List.mem_singleton.mp hb]; exact Nat.lt_succ_of_lt hlt
  run_tac Mine.shrink
theorem SrcJ.range {r : Addr} {a b : Int} {t u v : Tok} {n : Nat} (hh : A.handled = none) (F : Fr h₀ L s.heap m) (N : News h₀ L s.heap news) (hr : IsRange s.heap r a b 1 t u v) (hsm : Builtin.Range.small a b 1 = true) (hn : Builtin.Range.rangeSize a b 1 = ((n : Nat) : Int)) (hsz : n ≤ sizeLine)
    (J : Nat → List Value → List (Addr × Obj) → Prop) (hJ : J 0 [] news)
    (turn : TurnJ prog w A h₀ L m env elt ifs x scope cl s (fun _ => True) n (fun i v => ∃ t, v = .int (a + (i : Int)) t) J)
    (fin : ∀ D h tk ys news', Fr h₀ L h (up D) → News h₀ L h ((D, lst ys) :: news') → (∀ p ∈ news', p.1 ≠ D) → J n ys news' → K D { s with heap := h, toks := tk }) :
    wpAny (model prog w) A (pyIter (.ref r)) (SrcJ prog w A h₀ L m env elt ifs x scope cl up K) E s := by
  run_tac Mine.mark
  refine wpAny_pyIter_range hr hsm ?_
  refine ⟨s.heap.objs.size, _, _, _, _, _, news, J, rfl, range_walks hh a n, hsz, (fun i h st => ⟨_, st⟩), range_st, (by show IsRangeIter _ _ _ _ _; rw [hn]; simpa using Heap.get?_push_size _ rfl), (fun b hb => ?_),
    F.keeps fun _ _ e => Heap.get?_push_of_some _ e, N.grown fun _ _ e => Heap.get?_push_of_some _ e, Nat.ne_of_lt F.ns.lt, next_is_new F, (fun p hp => Nat.ne_of_lt (Heap.lt_size (N p hp).1)), trivial, hJ, turn, fin⟩
  rw [List.mem_singleton.mp hb]
  show s.heap.objs.size < (s.heap.push _).objs.size
  rw [Heap.size_push]; exact Nat.lt_succ_self _
  run_tac Mine.shrink
end

theorem turn_nil {elt : Expr} {x : Str} {scope : Scope} {cl : List (Str × Addr)} {S : List (Addr × Obj) → Prop} {n : Nat} {P : Nat → Value → Prop} {J : Nat → List Value → List (Addr × Obj) → Prop}
    (h : ∀ i ys news v I oI C cl' led D h tk (E' : Value → Shared → Prop), i < n → P i v → J i ys news → S news → Tgt scope cl cl' x C (some v) led → Fr h₀ L h m → News h₀ L h ((I, oI) :: (led ++ (D, lst ys) :: news)) →
      (∀ p ∈ news, ∀ q ∈ (I, oI) :: (led ++ [(D, lst ys)]), p.1 ≠ q.1) → (@Ne Nat I D) →
      wpAny (model prog w) A (eval elt (compEnvC scope cl' C env)) (fun y s₄ => EndJ h₀ L m { s with heap := h, toks := tk } ((I, oI) :: (led ++ [(D, lst ys)])) S (J (i + 1) (ys ++ [y])) s₄) E' { s with heap := h, toks := tk }) :
    TurnJ prog w A h₀ L m env elt [] x scope cl s S n P J := by
  run_tac Mine.mark
  intro i ys news v I oI C cl' led D h' tk E' a b c d e f g o p
  refine wpAny_tests_nil ?_
  simp only [if_true]
  exact h i ys news v I oI C cl' led D h' tk E' a b c d e f g o p
  run_tac Mine.shrink
theorem turn_one {elt c : Expr} {x : Str} {scope : Scope} {cl : List (Str × Addr)} {S : List (Addr × Obj) → Prop} {n : Nat} {P : Nat → Value → Prop} {J : Nat → List Value → List (Addr × Obj) → Prop}
    (h : ∀ i ys news v I oI C cl' led D h tk (E' : Value → Shared → Prop), i < n → P i v → J i ys news → S news → Tgt scope cl cl' x C (some v) led → Fr h₀ L h m → News h₀ L h ((I, oI) :: (led ++ (D, lst ys) :: news)) →
      (∀ p ∈ news, ∀ q ∈ (I, oI) :: (led ++ [(D, lst ys)]), p.1 ≠ q.1) → (@Ne Nat I D) →
      wpAny (model prog w) A (isTrue c (compEnvC scope cl' C env) (eval c (compEnvC scope cl' C env))) (fun ok s₃ => if ok = true then
          wpAny (model prog w) A (eval elt (compEnvC scope cl' C env)) (fun y s₄ => EndJ h₀ L m { s with heap := h, toks := tk } ((I, oI) :: (led ++ [(D, lst ys)])) S (J (i + 1) (ys ++ [y])) s₄) E' s₃
        else EndJ h₀ L m { s with heap := h, toks := tk } ((I, oI) :: (led ++ [(D, lst ys)])) S (J (i + 1) ys) s₃) E' { s with heap := h, toks := tk }) :
    TurnJ prog w A h₀ L m env elt [c] x scope cl s S n P J := by
  intro i ys news v I oI C cl' led D h' tk E' a b c d e f g o p
  exact wpAny_tests_one (h i ys news v I oI C cl' led D h' tk E' a b c d e f g o p)
end

/-- a list of lists of texts, told over the ledger -/
inductive RowsIn (news : List (Addr × Obj)) : List Value → List (List Str) → Prop
  | nil : RowsIn news [] []
  | cons {T : Addr} {its : Array Value} {n : Nat} {ws : List Str} {ys : List Value} {rows : List (List Str)} (hm : (T, W.listOf its n) ∈ news) (hi : StrsAre its.toList ws) (h : RowsIn news ys rows) : RowsIn news (.ref T :: ys) (ws :: rows)
theorem RowsIn.mono {news news' : List (Addr × Obj)} {ys : List Value} {rows : List (List Str)} (h : RowsIn news ys rows) (hs : ∀ p ∈ news, p ∈ news') : RowsIn news' ys rows := by
  induction h with
  | nil => exact .nil
  | cons hm hi _ ih => exact .cons (hs _ hm) hi ih
theorem RowsIn.snoc {news : List (Addr × Obj)} {ys : List Value} {rows : List (List Str)} {T : Addr} {its : Array Value} {n : Nat} {ws : List Str} (h : RowsIn news ys rows) (hm : (T, W.listOf its n) ∈ news) (hi : StrsAre its.toList ws) : RowsIn news (ys ++ [.ref T]) (rows ++ [ws]) := by
  induction h with
  | nil => exact .cons hm hi .nil
  | cons hm' hi' _ ih => exact .cons hm' hi' ih
theorem RowsIn.length {news : List (Addr × Obj)} {ys : List Value} {rows : List (List Str)} (h : RowsIn news ys rows) : ys.length = rows.length := by
  induction h with
  | nil => rfl
  | cons _ _ _ ih => simp [ih]
theorem RowsIn.get {news : List (Addr × Obj)} {ys : List Value} {rows : List (List Str)} (h : RowsIn news ys rows) : ∀ (i : Nat) (ws : List Str), rows[i]? = some ws → ∃ (T : Addr) (its : Array Value) (n : Nat), ys[i]? = some (Value.ref T) ∧ (T, W.listOf its n) ∈ news ∧ StrsAre its.toList ws := by
  run_tac Mine.mark
  induction h with
  | nil => intro i ws e; cases e
  | cons hm hi _ ih =>
    intro i ws e
    cases i with
    | zero => simp at e; subst e; exact ⟨_, _, _, rfl, hm, hi⟩
    | succ i => simpa using ih i ws (by simpa using e)
  run_tac Mine.shrink

theorem endJ_cons {h₀ h' : Heap} {L D' : Addr} {o : Obj} {m : Str → Option Value} {s₁ : Shared} {own news : List (Addr × Obj)} {S J : List (Addr × Obj) → Prop} {tk : Nat}
    (F : Fr h₀ L h' m) (N : News h₀ L h' ((D', o) :: (own ++ news))) (hlt : AllLt D' (own ++ news)) (off : ∀ p ∈ news, ∀ q ∈ own, p.1 ≠ q.1) (hS : S ((D', o) :: news)) (hJ : J ((D', o) :: news)) :
    EndJ h₀ L m s₁ own S J { s₁ with heap := h', toks := tk } := by
  run_tac Mine.mark
  refine ⟨h', tk, (D', o) :: news, rfl, F, fun p hp => N p ?_, fun p hp q hq => ?_, hS, hJ⟩
  · rcases List.mem_append.mp hp with hp | hp
    · exact .tail _ (List.mem_append_left _ hp)
    · rcases List.mem_cons.mp hp with rfl | hp
      · exact .head _
      · exact .tail _ (List.mem_append_right _ hp)
  · rcases List.mem_cons.mp hp with rfl | hp
    · exact Nat.ne_of_gt (ktn_ltOf hlt q (List.mem_append_left _ hq))
    · exact off p hp q hq
  run_tac Mine.shrink
theorem endJ_same {h₀ h' : Heap} {L : Addr} {m : Str → Option Value} {s₁ : Shared} {own news : List (Addr × Obj)} {S J : List (Addr × Obj) → Prop} {tk : Nat}
    (F : Fr h₀ L h' m) (N : News h₀ L h' (own ++ news)) (off : ∀ p ∈ news, ∀ q ∈ own, p.1 ≠ q.1) (hS : S news) (hJ : J news) :
    EndJ h₀ L m s₁ own S J { s₁ with heap := h', toks := tk } := ⟨h', tk, news, rfl, F, N, off, hS, hJ⟩
end Mine
namespace Mine
open Builtin Builtin.Str StrLaws

/-- the parts of a path that is met here -/
structure GoodRow (r : List Str) : Prop where
  ne : r ≠ []
  good : ∀ w ∈ r, GoodW w
  few : r.length ≤ 32
theorem goodRow_names (n : Nat) (h : n < 2 ^ 32) : GoodRow (flagNames n) := ⟨flagNames_ne n h, flagNames_good n, flagNames_len n⟩

theorem slice_from {x : Str} {i : Nat} (h : i ≤ x.length) : cs (Txt.slice x (some (i : Int)) none) = (cs x).drop i := by
  run_tac Mine.mark
  rw [slice_from_eq (b := x.length) (by omega) (by omega) rfl]
  show ((cs x).drop (i : Int).toNat).take _ = _
  rw [Int.toNat_natCast]
  apply List.take_of_length_le
  rw [List.length_drop, cs_len]; omega
  run_tac Mine.shrink
theorem pathOf_cs (ws : List Str) : cs (pathOf ws) = 47 :: cs (Str.join (Str.ofString "/") ws) := by
  unfold pathOf; rw [cs_app, slash_cs]; rfl
theorem pathOf_len {ws : List Str} (h : GoodRow ws) : (pathOf ws).length ≤ 1001 := by
  run_tac Mine.mark
  unfold pathOf
  rw [Str.length_append, slash_len]
  have := good_join_len (sep := Str.ofString "/") h.good (by have := h.few; omega) (by decide)
  omega
  run_tac Mine.shrink
theorem join_len {ws : List Str} (h : GoodRow ws) : (Str.join (Str.ofString "/") ws).length ≤ 1000000 :=
  Nat.le_trans (good_join_len (sep := Str.ofString "/") h.good (by have := h.few; omega) (by decide)) (by decide)
theorem slice_path_eq (ws : List Str) : Txt.slice (pathOf ws) (some 1) none = Str.join (Str.ofString "/") ws := by
  run_tac Mine.mark
  apply cs_inj
  have h := slice_from (x := pathOf ws) (i := 1) (by unfold pathOf; rw [Str.length_append, slash_len]; omega)
  rw [show ((1 : Nat) : Int) = 1 from rfl] at h
  rw [h, pathOf_cs]; rfl
  run_tac Mine.shrink
theorem split_good {ws : List Str} (h : GoodRow ws) : Txt.split (Str.join (Str.ofString "/") ws) (Str.ofString "/") = ws := split_path h.ne fun p hp => (h.good p hp).slash
theorem pathOf_join {ws : List Str} (h : ws ≠ []) : pathOf ws = Str.join (Str.ofString "/") (Str.empty :: ws) := by
  run_tac Mine.mark
  cases ws with
  | nil => exact absurd rfl h
  | cons w r =>
    show _ = Str.empty ++ Str.ofString "/" ++ Str.join (Str.ofString "/") (w :: r)
    rw [Str.empty_append]; rfl
  run_tac Mine.shrink
theorem split_whole {ws : List Str} (h : GoodRow ws) : Txt.split (pathOf ws) (Str.ofString "/") = Str.empty :: ws := by
  run_tac Mine.mark
  rw [pathOf_join h.ne]
  refine split_path (by simp) fun p hp => ?_
  rcases List.mem_cons.mp hp with rfl | hp
  · simp [cs, Str.empty]
  · exact (h.good p hp).slash
  run_tac Mine.shrink

section
variable {prog : Program} {w : World} {A : Around} {E : Value → Shared → Prop} {s : Shared} {h₀ : Heap} {L : Addr} {m : Str → Option Value} {news : List (Addr × Obj)} {t : Tok} {value slice : Expr} {Q : Value → Shared → Prop}
theorem slice_path {ws : List Str} {ui : Tok} (hg : GoodRow ws) (hF : Fr h₀ L s.heap m) (hN : News h₀ L s.heap news) (h : ∀ h' t' k, Fr h₀ L h' m → News h₀ L h' news → Q (.str (Str.join (Str.ofString "/") ws) t') { s with heap := h', toks := k })
    (hs : subscripted slice false (.str (pathOf ws) t) (.ref s.heap.objs.size) = operate [.ref s.heap.objs.size, .str (pathOf ws) t] (getItem (.str (pathOf ws) t) (.ref s.heap.objs.size)) := by with_unfolding_all rfl)
    (ht : ∀ r, letTemporaryGo value (.str (pathOf ws) t) r = pure () := by intro _; with_unfolding_all rfl) :
    wpAny (model prog w) A (subscriptTail value slice (.str (pathOf ws) t) (.ref s.heap.objs.size)) Q E { s with heap := s.heap.push { cls := .type "slice", data := .fields #[.int 1 ui, .none, .none] } } := by
  refine slice_strN_sn hF hN (fun h' t' k F' N' => ?_) hs ht (Nat.le_trans (pathOf_len hg) (by decide))
  rw [slice_path_eq]
  exact h h' t' k F' N'
end

theorem range_facts (n : Nat) (h : n ≤ 1000000) : Builtin.Range.small 0 (n : Int) 1 = true ∧ Builtin.Range.rangeSize 0 (n : Int) 1 = (n : Int) := by
  refine ⟨small_one (by omega) (by omega) (by omega) (by omega), ?_⟩
  rw [rangeSize_one]
  split <;> omega
section
variable {prog : Program} {w : World} {A : Around} {E : Value → Shared → Prop} {s : Shared} {h₀ : Heap} {L a : Addr} {m : Str → Option Value} {news : List (Addr × Obj)}
theorem len_news {its : Array Value} {ws : List Str} {Q : Value → Shared → Prop} (N : News h₀ L s.heap news) (hm : ∃ n, (a, W.listOf its n) ∈ news) (hi : StrsAre its.toList ws) (hl : ws.length ≤ 1000000)
    (h : ∀ t tk, Q (.int (ws.length : Nat) t) { s with toks := tk }) : wpAny (model prog w) A (call (.builtin "len") [.ref a]) Q E s := by
  have e := strs_size hi
  obtain ⟨n, hm⟩ := hm
  exact len_list (News.isList N hm) (by omega) (by rw [e]; exact h _ _)
end
end Mine
namespace Mine
open Builtin Builtin.Str StrLaws PySem.SeqAt

theorem strsAre_pick_upto {its : Array Value} {ws : List Str} (hi : StrsAre its.toList ws) {j : Int} (h : 0 ≤ j) : StrsAre (kms_pick its.toList none (some j)) (ws.take j.toNat) := by
  run_tac Mine.mark
  unfold kms_pick kms_lo kms_hi
  dsimp only
  rw [if_neg (by omega), List.drop_zero, Nat.sub_zero, kmk_take_min]
  exact StrsAre.take' hi _
  run_tac Mine.shrink
section
variable {prog : Program} {w : World} {A : Around} {E : Value → Shared → Prop} {s : Shared} {h₀ : Heap} {L l : Addr} {m : Str → Option Value} {news : List (Addr × Obj)} {value slice : PySem.Expr} {its : Array Value} {ws : List Str} {j : Int} {u : Tok} {Q : Value → Shared → Prop}
theorem slice_strs (F : Fr h₀ L s.heap m) (N : News h₀ L s.heap news) (hm : ∃ n, (l, W.listOf its n) ∈ news) (hi : StrsAre its.toList ws) (hj : 0 ≤ j) (hl : ws.length ≤ 1000000)
    (h : ∀ D vs h', StrsAre vs (ws.take j.toNat) → Fr h₀ L h' m → News h₀ L h' ((D, W.listOf vs.toArray 0) :: news) → (∀ p ∈ news, p.1 < D) → Q (.ref D) { s with heap := h' })
    (hs : subscripted slice false (.ref l) (.ref s.heap.objs.size) = operate [.ref s.heap.objs.size, .ref l] (getItem (.ref l) (.ref s.heap.objs.size)) := by with_unfolding_all rfl) (ht : ∀ r, letTemporaryGo value (.ref l) r = pure () := by intro _; with_unfolding_all rfl) :
    wpAny (model prog w) A (subscriptTail value slice (.ref l) (.ref s.heap.objs.size)) Q E { s with heap := s.heap.push { cls := .type "slice", data := .fields #[.none, .int j u, .none] } } := by
  run_tac Mine.mark
  obtain ⟨n, hm⟩ := hm
  have e := strs_size hi
  have k : (1000000 : Nat) ≤ sizeLine := by decide
  exact kms_slice_lit F N (News.isList N hm) .none (.int j u) rfl (fun D h' F' N' l1 => h D _ h' (strsAre_pick_upto hi hj) F' N' l1) hs ht (by omega)
  run_tac Mine.shrink
theorem item_strs {k : Int} (N : News h₀ L s.heap news) (hm : ∃ n, (l, W.listOf its n) ∈ news) (hi : StrsAre its.toList ws) (hk : 0 ≤ k) (hlt : k.toNat < ws.length) (hl : ws.length ≤ 1000000)
    (h : ∀ t, Q (.str (ws.getD k.toNat Str.empty) t) s)
    (hs : subscripted slice false (.ref l) (.int k u) = operate [.ref l, .int k u] (getItem (.ref l) (.int k u)) := by with_unfolding_all rfl) (hg : ∀ r, letTemporaryGo value (.ref l) r = pure () := by intro _; with_unfolding_all rfl) :
    wpAny (model prog w) A (subscriptTail value slice (.ref l) (.int k u)) Q E s := by
  obtain ⟨n, hm⟩ := hm
  obtain ⟨t, e⟩ := StrsAre.get hi k.toNat (ws.getD k.toNat Str.empty) (by simp [List.getD, hlt])
  exact item_list (News.isList N hm) hk (by omega) (by rw [← Array.getElem?_toList]; exact e) (h t) hs hg
end

section
variable {prog : Program} {w : World} {A : Around} {E : Value → Shared → Prop} {s : Shared} {h₀ : Heap} {L l : Addr} {news : List (Addr × Obj)} {value slice : PySem.Expr} {ys : List Value} {u : Tok} {Q : Value → Shared → Prop}
theorem item_lst {k : Int} {v : Value} (N : News h₀ L s.heap news) (hm : (l, PyProof.Rows.LCg.lst ys) ∈ news) (hk : 0 ≤ k) (hfit : k < 2 ^ 63) (hv : ys[k.toNat]? = some v) (h : Q v s)
    (hs : subscripted slice false (.ref l) (.int k u) = operate [.ref l, .int k u] (getItem (.ref l) (.int k u)) := by with_unfolding_all rfl) (hg : ∀ r, letTemporaryGo value (.ref l) r = pure () := by intro _; with_unfolding_all rfl) :
    wpAny (model prog w) A (subscriptTail value slice (.ref l) (.int k u)) Q E s :=
  item_listL ⟨_, N.get hm, rfl, _, rfl⟩ hk hfit hv h hs hg
end
theorem all_eq_strs {its its2 : Array Value} {xs ys : List Str} (h1 : xs.length = ys.length) : (List.range xs.length).all (fun j => xs.getD j Str.empty == ys.getD j Str.empty) = (xs == ys) := by
  run_tac Mine.mark
  rw [Bool.eq_iff_iff, List.all_eq_true, beq_iff_eq]
  constructor
  · intro h
    refine List.ext_getElem h1 fun i h2 h3 => ?_
    have := h i (List.mem_range.mpr h2)
    simpa [List.getD, h2, h3] using this
  · rintro rfl j _; simp
  run_tac Mine.shrink
section
variable {prog : Program} {w : World} {A : Around} {E : Value → Shared → Prop} {s : Shared} {h₀ : Heap} {L a b : Addr} {news : List (Addr × Obj)} {its its2 : Array Value} {xs ys : List Str} {Q : Value → Shared → Prop}
theorem strs_eqAt {A : Around} {s : Shared} {its its2 : Array Value} {xs ys : List Str} (hi : StrsAre its.toList xs) (hi2 : StrsAre its2.toList ys) (hsz : its.size = its2.size) : ∀ j (h1 : j < its.size) (h2 : j < its2.size), EqAt A s its[j] its2[j] ((fun j => xs.getD j Str.empty == ys.getD j Str.empty) j) := by
  run_tac Mine.mark
  intro j h1 h2
  have e1 := strs_size hi
  have e2 := strs_size hi2
  obtain ⟨t, q1⟩ := StrsAre.get hi j (xs.getD j Str.empty) (by simp [List.getD, show j < xs.length by omega])
  obtain ⟨u, q2⟩ := StrsAre.get hi2 j (ys.getD j Str.empty) (by simp [List.getD, show j < ys.length by omega])
  have q1' : its[j] = .str (xs.getD j Str.empty) t := by
    rw [Array.getElem?_toList] at q1; rw [Array.getElem?_eq_getElem h1] at q1; exact Option.some.inj q1
  have q2' : its2[j] = .str (ys.getD j Str.empty) u := by
    rw [Array.getElem?_toList] at q2; rw [Array.getElem?_eq_getElem h2] at q2; exact Option.some.inj q2
  rw [q1', q2']
  exact EqAt.str_str _ _ _ _
  run_tac Mine.shrink
theorem ne_strs (N : News h₀ L s.heap news) (hm : ∃ n, (a, W.listOf its n) ∈ news) (hm2 : ∃ n, (b, W.listOf its2 n) ∈ news) (hi : StrsAre its.toList xs) (hi2 : StrsAre its2.toList ys) (hu : A.units < cLine)
    (h : Q (.bool (!(xs == ys))) s) : wpAny (model prog w) A (compareOp .NotEq (.ref a) (.ref b)) Q E s := by
  run_tac Mine.mark
  obtain ⟨n, hm⟩ := hm
  obtain ⟨n2, hm2⟩ := hm2
  have e1 := strs_size hi
  have e2 := strs_size hi2
  by_cases hsz : its.size = its2.size
  · refine RcNeAt.lists (News.isList N hm) (News.isList N hm2) hsz hu (strs_eqAt hi hi2 hsz) prog w E Q ?_
    rw [e1, all_eq_strs (its := its) (its2 := its2) (by omega)]; exact h
  · refine RcNeAt.lists_lengths (News.isList N hm) (News.isList N hm2) (by simpa using hsz) hu prog w E Q ?_
    have : (xs == ys) = false := by
      rw [beq_eq_false_iff_ne]; rintro rfl; omega
    rw [this] at h; exact h
  run_tac Mine.shrink
theorem eq_strs (N : News h₀ L s.heap news) (hm : ∃ n, (a, W.listOf its n) ∈ news) (hm2 : ∃ n, (b, W.listOf its2 n) ∈ news) (hi : StrsAre its.toList xs) (hi2 : StrsAre its2.toList ys) (hu : A.units < cLine)
    (h : Q (.bool (xs == ys)) s) : wpAny (model prog w) A (compareOp .Eq (.ref a) (.ref b)) Q E s := by
  run_tac Mine.mark
  obtain ⟨n, hm⟩ := hm
  obtain ⟨n2, hm2⟩ := hm2
  have e1 := strs_size hi
  have e2 := strs_size hi2
  by_cases hsz : its.size = its2.size
  · refine eq_listAt (News.isList N hm) (News.isList N hm2) hsz hu (strs_eqAt hi hi2 hsz) ?_
    rw [e1, all_eq_strs (its := its) (its2 := its2) (by omega)]; exact h
  · refine eq_list_lengthsAt (News.isList N hm) (News.isList N hm2) (by simpa using hsz) hu ?_
    have : (xs == ys) = false := by
      rw [beq_eq_false_iff_ne]; rintro rfl; omega
    rw [this] at h; exact h
  run_tac Mine.shrink
/-- is a list empty: told by comparing it with a fresh empty list -/
theorem eq_empty (N : News h₀ L s.heap news) (hm : ∃ n, (a, W.listOf its n) ∈ news) (hm2 : ∃ n, (b, W.listOf #[] n) ∈ news) (hu : A.units < cLine)
    (h : Q (.bool its.isEmpty) s) : wpAny (model prog w) A (compareOp .Eq (.ref a) (.ref b)) Q E s := by
  run_tac Mine.mark
  obtain ⟨n, hm⟩ := hm
  obtain ⟨n2, hm2⟩ := hm2
  by_cases hsz : its.size = 0
  · have e : its = #[] := Array.eq_empty_of_size_eq_zero hsz
    subst e
    refine eq_listAt (e := fun _ => true) (News.isList N hm) (News.isList N hm2) rfl hu (fun j h1 => absurd h1 (Nat.not_lt_zero _)) ?_
    exact h
  · refine eq_list_lengthsAt (News.isList N hm) (News.isList N hm2) (by simpa using hsz) hu ?_
    have : its.isEmpty = false := by simpa [Array.isEmpty] using hsz
    rw [this] at h; exact h
  run_tac Mine.shrink
end

def agreeTo (rows : List (List Str)) (r0 : List Str) (k : Nat) : Bool := rows.all fun r => r.take (k + 1) == r0.take (k + 1)
/-- no address of the first stands in the second -/
abbrev OffL (a b : List (Addr × Obj)) : Prop := ∀ p ∈ a, ∀ q ∈ b, p.1 ≠ q.1
theorem OffL.nil {b : List (Addr × Obj)} : OffL [] b := fun _ h => nomatch h
theorem OffL.cons {D : Addr} {o : Obj} {a b : List (Addr × Obj)} (h : AllLt D b) (k : OffL a b) : OffL ((D, o) :: a) b := fun p hp q hq => by
  rcases List.mem_cons.mp hp with rfl | hp
  · exact Nat.ne_of_gt (ktn_ltOf h q hq)
  · exact k p hp q hq
theorem OffL.cons' {D : Addr} {o : Obj} {a b : List (Addr × Obj)} (h : ∀ q ∈ b, q.1 ≠ D) (k : OffL a b) : OffL ((D, o) :: a) b := fun p hp q hq => by
  rcases List.mem_cons.mp hp with rfl | hp
  · exact Ne.symm (h q hq)
  · exact k p hp q hq
theorem OffL.app {a b c : List (Addr × Obj)} (h : OffL a c) (k : OffL b c) : OffL (a ++ b) c := fun p hp q hq => (List.mem_append.mp hp).elim (fun hp => h p hp q hq) fun hp => k p hp q hq
theorem OffL.one {D : Addr} {o : Obj} {b : List (Addr × Obj)} (h : AllLt D b) : OffL [(D, o)] b := .cons h .nil
theorem OffL.back {D : Addr} {o : Obj} {a b : List (Addr × Obj)} (h : AllLt D (a ++ b)) : OffL [(D, o)] b := fun p hp q hq => by
  rw [List.mem_singleton.mp hp]; exact Nat.ne_of_gt (ktn_ltOf h q (List.mem_append_right _ hq))
theorem nat_k0 (i : Nat) : (0 + (i : Int)).toNat = i := by omega
/-- a ledger that has grown in front of what stood -/
def Made (base : List (Addr × Obj)) (P : List (Addr × Obj) → Prop) (nws : List (Addr × Obj)) : Prop := ∃ made, nws = made ++ base ∧ P made ∧ OffL made base
theorem Made.start {base : List (Addr × Obj)} {P : List (Addr × Obj) → Prop} (h : P []) : Made base P base := ⟨[], rfl, h, .nil⟩
theorem endJ_made {h₀ h' : Heap} {L : Addr} {m : Str → Option Value} {s₁ : Shared} {pre own made base : List (Addr × Obj)} {S : List (Addr × Obj) → Prop} {P : List (Addr × Obj) → Prop} {tk : Nat}
    (F : Fr h₀ L h' m) (N : News h₀ L h' (pre ++ (own ++ (made ++ base)))) (hp : OffL pre (own ++ (made ++ base))) (hm : OffL made base) (off : ∀ p ∈ made ++ base, ∀ q ∈ own, p.1 ≠ q.1) (hS : S (pre ++ made ++ base)) (hP : P (pre ++ made)) :
    EndJ h₀ L m s₁ own S (Made base P) { s₁ with heap := h', toks := tk } := by
  run_tac Mine.mark
  refine ⟨h', tk, pre ++ made ++ base, rfl, F, fun p h => N p ?_, fun p h q hq => ?_, hS, pre ++ made, rfl, hP, fun p h q hq => ?_⟩
  · simp only [List.mem_append] at h ⊢; rcases h with h | (h | h) | h <;> simp [h]
  · rcases List.mem_append.mp h with h | h
    · rcases List.mem_append.mp h with h | h
      · exact hp p h q (List.mem_append_left _ hq)
      · exact off p (List.mem_append_left _ h) q hq
    · exact off p (List.mem_append_right _ h) q hq
  · rcases List.mem_append.mp h with h | h
    · exact hp p h q (List.mem_append_right _ (List.mem_append_right _ hq))
    · exact hm p h q hq
  run_tac Mine.shrink
theorem agreeTo_succ {rows : List (List Str)} {r0 : List Str} {k i : Nat} (h : i < rows.length) : agreeTo (rows.take (i + 1)) r0 k = (agreeTo (rows.take i) r0 k && (rows[i].take (k + 1) == r0.take (k + 1))) := by
  unfold agreeTo
  have e : rows.take (i + 1) = rows.take i ++ [rows[i]] := by rw [List.take_add_one, List.getElem?_eq_getElem h]; rfl
  rw [e, List.all_append, List.all_cons, List.all_nil, Bool.and_true]
theorem nat_k1 (i : Nat) : (0 + (i : Int) + 1).toNat = i + 1 := by omega
theorem front_succ {rows : List (List Str)} {r0 : List Str} {i : Nat} : ((List.range (i + 1)).filter (agreeTo rows r0)).map (r0.getD · Str.empty) = ((List.range i).filter (agreeTo rows r0)).map (r0.getD · Str.empty) ++ (if agreeTo rows r0 i then [r0.getD i Str.empty] else []) := by
  rw [List.range_succ, List.filter_append, List.map_append]
  congr 1
  cases h : agreeTo rows r0 i <;> simp [h]
def frontOf (rows : List (List Str)) : List Str := match rows with
  | [] => []
  | r0 :: rs => ((List.range r0.length).filter (agreeTo (r0 :: rs) r0)).map (r0.getD · Str.empty)
theorem front_mem {rows : List (List Str)} {w : Str} (h : w ∈ frontOf rows) : ∃ r ∈ rows, w ∈ r := by
  run_tac Mine.mark
  cases rows with
  | nil => cases h
  | cons r0 rs =>
    obtain ⟨k, hk, rfl⟩ := List.mem_map.mp h
    have := List.mem_range.mp (List.mem_filter.mp hk).1
    refine ⟨r0, .head _, ?_⟩
    simp [List.getD, this]
  run_tac Mine.shrink
theorem front_good {rows : List (List Str)} (h : ∀ r ∈ rows, GoodRow r) : ∀ w ∈ frontOf rows, GoodW w := fun w hw => by
  obtain ⟨r, hr, hw⟩ := front_mem hw
  exact (h r hr).good w hw
theorem front_len {rows : List (List Str)} (h : ∀ r ∈ rows, GoodRow r) : (frontOf rows).length ≤ 32 := by
  run_tac Mine.mark
  cases rows with
  | nil => simp [frontOf]
  | cons r0 rs =>
    have := (h r0 (.head _)).few
    have e := List.length_filter_le (agreeTo (r0 :: rs) r0) (List.range r0.length)
    rw [List.length_range] at e
    show (List.map _ _).length ≤ 32
    rw [List.length_map]; omega
  run_tac Mine.shrink
theorem front_weight {rows : List (List Str)} (h : ∀ r ∈ rows, GoodRow r) : ((frontOf rows).map (·.length)).sum + (frontOf rows).length ≤ 1048576 := by
  have := good_sum (front_good h)
  have := front_len h
  omega
theorem front_join_len {rows : List (List Str)} (h : ∀ r ∈ rows, GoodRow r) : (Str.join (Str.ofString "/") (frontOf rows)).length ≤ 1000000 :=
  Nat.le_trans (good_join_len (sep := Str.ofString "/") (front_good h) (by have := front_len h; omega) (by decide)) (by decide)
end Mine
namespace Mine

theorem slot_map_init : Slot "map" "__init__" "object.__init__" :=
  .of (owner := "object") (n := "__init__") (by rw [typeLookup_type, builtinLookup_eq_fast]; kernel_rfl) (by decide +kernel) (by decide +kernel) (by decide +kernel)
    (by first | exact .inl (by decide +kernel) | exact .inr (by decide +kernel)) (by rw [isSubtype_type]; kernel_rfl)
theorem slot_map_iter : Slot "map" "__iter__" "map.__iter__" :=
  .of (owner := "map") (n := "__iter__") (by rw [typeLookup_type, builtinLookup_eq_fast]; kernel_rfl) (by decide +kernel) (by decide +kernel) (by decide +kernel)
    (by first | exact .inl (by decide +kernel) | exact .inr (by decide +kernel)) (by rw [isSubtype_type]; kernel_rfl)
theorem slot_map_next : Slot "map" "__next__" "map.__next__" :=
  .of (owner := "map") (n := "__next__") (by rw [typeLookup_type, builtinLookup_eq_fast]; kernel_rfl) (by decide +kernel) (by decide +kernel) (by decide +kernel)
    (by first | exact .inl (by decide +kernel) | exact .inr (by decide +kernel)) (by rw [isSubtype_type]; kernel_rfl)
theorem entry_map_next : entryFor table "map.__next__" = some Builtin.«map.__next__» := entryFor_of_tree (by kernel_rfl)
theorem owner_map : Manifest.owners.lookup (String.ofList ['p', 'a', 'm'].reverse) = some Manifest.sig_map := by kernel_rfl
theorem args_map_iter_1 (a : Value) : argsOk "map.__iter__" ⟨[a], []⟩ := by
  unfold argsOk; rw [signature?_of (id := "map.__iter__") (n := ['_', '_', 'r', 'e', 't', 'i', '_', '_']) (o := ['p', 'a', 'm']) (by kernel_rfl) owner_map]; kernel_rfl
theorem args_map_next_1 (a : Value) : argsOk "map.__next__" ⟨[a], []⟩ := by
  unfold argsOk; rw [signature?_of (id := "map.__next__") (n := ['_', '_', 't', 'x', 'e', 'n', '_', '_']) (o := ['p', 'a', 'm']) (by kernel_rfl) owner_map]; kernel_rfl
theorem entry_map_iter : entryFor table "map.__iter__" = some Builtin.«dict_keyiterator.__iter__» :=
  entryFor_alias (id' := "dict_keyiterator.__iter__") (by kernel_rfl) (by first | rfl | decide +kernel | (unfold String.splitOn; simp +decide [String.splitOnAux])) (by decide +kernel) (by kernel_rfl)
theorem mro_map : mroOf (.type "map") = pure [.type "map", .type "object"] := by rw [mroOf_type]; kernel_rfl
theorem lookup_map_new : typeLookup (.type "map") "__new__" = pure (some (.builtin "map.__new__")) := by rw [typeLookup_type, builtinLookup_eq_fast]; kernel_rfl
theorem called_map : TypeCalled "map" "map.__new__" "object.__init__" :=
  ⟨by decide +kernel, by decide +kernel, ⟨_, _, mro_map⟩, madeBy_type mro_map lookup_map_new (by decide +kernel), by decide +kernel, by rw [isSubtype_type]; kernel_rfl, slot_map_init⟩
theorem typeCall_map_2 (a b : Value) : checkTypeCall "map" ⟨[a, b], []⟩ = pure () := by kernel_rfl
theorem newCall_map_2 (a b : Value) : checkBuiltinCall "map.__new__" ⟨[.type "map", a, b], []⟩ = pure () := by kernel_rfl
theorem entry_map_new : entryFor table "map.__new__" = some Builtin.«map.__new__» := entryFor_of_tree (by kernel_rfl)
theorem map_no_len : typeLookup (.type "map") "__len__" = pure none := by rw [typeLookup_type, builtinLookup_eq_fast]; kernel_rfl
theorem map_no_hint : typeLookup (.type "map") "__length_hint__" = pure none := by rw [typeLookup_type, builtinLookup_eq_fast]; kernel_rfl
theorem sub_map : isSubtype (.type "map") (.type "map") = pure true := by rw [isSubtype_type]; kernel_rfl

abbrev mapObj (TI : Addr) (f : Value) : Obj := { cls := .type "map", data := .fields #[.ref TI, f] }
abbrev mapTI (I : Addr) : Obj := { cls := .type "tuple", data := .seq #[.ref I] }
theorem meets_map_new (f l : Addr) (xs : Array Value) :
    Meets (Builtin.«map.__new__» ⟨[.type "map", .ref f, .ref l], []⟩) (fun _ R s => s.heap.IsList l xs ∧
      R (.ok (.ret (.ref (s.heap.objs.size + 2)))) { s with heap := ((s.heap.push { cls := .type "list_iterator", data := .fields #[.ref l, .int 0 0] }).push (mapTI s.heap.objs.size)).push (mapObj (s.heap.objs.size + 1) (.ref f)) }) :=
  .of_wp fun prog w A R s h => by
    obtain ⟨hp, g, d, tk, os⟩ := s; obtain ⟨hl1, h⟩ := h
    have hsub := sub_map
    have hL1 : Heap.IsList (Shared.heap ⟨hp, g, d, tk, os⟩) l xs := hl1
    have z1 : (hp.push ({ cls := .type "list_iterator", data := .fields #[.ref l, .int 0 0] } : Obj)).objs.size = hp.objs.size + 1 := Heap.size_push ..
    have z2 : ((hp.push ({ cls := .type "list_iterator", data := .fields #[.ref l, .int 0 0] } : Obj)).push (mapTI hp.objs.size)).objs.size = hp.objs.size + 2 := by rw [Heap.size_push, z1]
    wp_walk using wpAny_pyIter_list hL1
    refine ⟨_, rfl, ?_⟩
    rw [← z1, ← z2] at h
    exact h

theorem args_object_init_3' (a b c : Value) : argsOk "object.__init__" ⟨[a, b, c], []⟩ := F.args_object_init_3 a b c
section
variable {prog : Program} {w : World} {A : Around} {E : Value → Shared → Prop} {s : Shared} {h₀ : Heap} {L f l : Addr} {m : Str → Option Value} {news : List (Addr × Obj)}
theorem call_map {items : Array Value} {Q : Value → Shared → Prop} (F : Fr h₀ L s.heap m) (N : News h₀ L s.heap news) (hl : s.heap.IsList l items)
    (h : ∀ I h', I = s.heap.objs.size → Fr h₀ L h' m → News h₀ L h' ((I + 2, mapObj (I + 1) (.ref f)) :: (I + 1, mapTI I) :: (I, listIt l 0) :: news) → (∀ p ∈ news, p.1 < I) → Grow s.heap h' → Q (.ref (I + 2)) { s with heap := h' }) :
    wpAny (model prog w) A (call (.type "map") [.ref f, .ref l]) Q E s := by
  run_tac Mine.mark
  refine callType_new called_map (by decide) (typeCall_map_2 _ _) (newCall_map_2 _ _) (fun obj => args_object_init_3' obj _ _) entry_map_new (meets_map_new f l items) ⟨hl, ?_⟩
  have lt0 : ∀ p ∈ news, p.1 < s.heap.objs.size := fun q hq => Heap.lt_size (N q hq).1
  have F1 := F.push { cls := .type "list_iterator", data := .fields #[.ref l, .int 0 0] }
  have N1 := News.push F N { cls := .type "list_iterator", data := .fields #[.ref l, .int 0 0] } rfl
  have z1 : (s.heap.push ({ cls := .type "list_iterator", data := .fields #[.ref l, .int 0 0] } : Obj)).objs.size = s.heap.objs.size + 1 := Heap.size_push ..
  have F2 := F1.push (mapTI s.heap.objs.size)
  have N2 := News.push F1 N1 (mapTI s.heap.objs.size) rfl
  have z2 : ((s.heap.push ({ cls := .type "list_iterator", data := .fields #[.ref l, .int 0 0] } : Obj)).push (mapTI s.heap.objs.size)).objs.size = s.heap.objs.size + 2 := by rw [Heap.size_push, z1]
  have F3 := F2.push (mapObj (s.heap.objs.size + 1) (.ref f))
  have N3 := News.push F2 N2 (mapObj (s.heap.objs.size + 1) (.ref f)) rfl
  rw [z1, z2] at N3
  show _ ∧ _
  refine ⟨⟨_, (N3 _ (.head _)).1, rfl⟩, h _ _ rfl F3 N3 lt0 fun b o e => Heap.get?_push_of_some _ (Heap.get?_push_of_some _ (Heap.get?_push_of_some _ e))⟩
  run_tac Mine.shrink

/-- the items of a mapped list, as they are drawn -/
theorem Walks.mapped {M TI I : Addr} {vs : List Value} {xs : List Str} {h₁ : Heap} (hh : A.handled = none) (hi : StrsAre vs xs)
    (hM : h₁.get? M = some (mapObj TI (.ref f))) (hTI : h₁.get? TI = some (mapTI I)) (hl : h₁.IsList l vs.toArray) (hMI : M ≠ I) (hTII : TI ≠ I) (hlI : l ≠ I) (hI : I < h₁.objs.size) (hL : ∀ h, (∀ b o, b ≠ I → h₁.get? b = some o → h.get? b = some o) → Fr h₀ L h m)
    (hcall : ∀ (s : Shared) (x : Str) (t : Tok) (Q E : Value → Shared → Prop), Fr h₀ L s.heap m → (∀ h' tk', Grow s.heap h' → Q (.str x t) { s with heap := h', toks := tk' }) → wpAny (model prog w) A.in1 (call (.ref f) [.str x t]) Q E s) :
    Walks prog w A M (List.range h₁.objs.size) [I] vs.length (fun i v => vs[i]? = some v) (fun i h => (∀ b o, b ≠ I → h₁.get? b = some o → h.get? b = some o) ∧ h.IsListIter I l i) where
  sub := fun b hb => by rw [List.mem_singleton.mp hb]; exact List.mem_range.mpr hI
  frame := fun i h h' st hk => ⟨fun b o hb e => hk b (List.mem_range.mpr (Heap.lt_size e)) o (st.1 b o hb e), st.2.at fun o e => hk I (List.mem_range.mpr hI) o e⟩
  item := fun i s Q E hlt st hQ => by
    have hM' := st.1 _ _ hMI hM
    have hTI' := st.1 _ _ hTII hTI
    have hl' : s.heap.IsList l vs.toArray := hl.at fun o e => st.1 _ o hlI e
    have hT : s.TypeIs (.ref M) "map" := ⟨_, hM', rfl⟩
    obtain ⟨x, t, hx, -⟩ := hi.item i vs[i] (List.getElem?_eq_getElem hlt)
    unfold pyNext
    refine wpAny_bind (wpAny_attempt (wpAny_callSpecial?_slot (name := Str.ofString "__next__") hT slot_map_next (wpAny_call_entry slot_map_next hT entry_map_next ?_ (args_map_next_1 _))))
    show wpAny _ _ (field (.ref M) 0 >>= _) _ _ _
    refine wpAny_bind (wpAny_field hM' rfl (x := .ref TI) rfl ?_)
    refine wpAny_bind (wpAny_seqItems hTI' rfl ?_)
    refine wpAny_bind (wpAny_bind (wpAny_bind (wpAny_holding ?_)))
    show wpAny _ _ (Builtin.SmallTypes.nextOf (.ref I)) _ _ _
    refine wpAny_nextOf_list_item st.2 hl' (x := .str x t) (by rw [← hx]; simp [hlt]) fun h1 hit1 hs1 => wpAny_pure ?_
    have k1 : ∀ b o, b ≠ I → h₁.get? b = some o → h1.get? b = some o := fun b o hb e => hs1.extBut b o hb (st.1 b o hb e)
    show wpAny _ _ (pure _) _ _ _
    refine wpAny_pure ?_
    show wpAny _ _ (field (.ref M) 1 >>= _) _ _ _
    refine wpAny_bind (wpAny_field (k1 _ _ hMI hM) rfl (x := .ref f) rfl ?_)
    refine wpAny_bind (wpAny_holding (hcall _ x t _ _ (hL _ k1) fun h2 tk2 g => ?_))
    refine wpAny_bind (wpAny_letGo (wpAny_pure ⟨_, rfl, wpAny_pure (hQ _ _ _ (by rw [← hx]; simp [hlt]) ⟨fun b o hb e => g b o (k1 b o hb e), hit1.at fun o e => g I o e⟩ fun b o hb e => g b o (hs1.extBut b o (fun q => hb (q ▸ List.mem_singleton.mpr rfl)) e))⟩))
  done := fun s Q E st hQ => by
    have hM' := st.1 _ _ hMI hM
    have hTI' := st.1 _ _ hTII hTI
    have hl' : s.heap.IsList l vs.toArray := hl.at fun o e => st.1 _ o hlI e
    have hT : s.TypeIs (.ref M) "map" := ⟨_, hM', rfl⟩
    unfold pyNext
    refine wpAny_bind (wpAny_attempt (wpAny_callSpecial?_slot (name := Str.ofString "__next__") hT slot_map_next (wpAny_call_entry slot_map_next hT entry_map_next ?_ (args_map_next_1 _))))
    show wpAny _ _ (field (.ref M) 0 >>= _) _ _ _
    refine wpAny_bind (wpAny_field hM' rfl (x := .ref TI) rfl ?_)
    refine wpAny_bind (wpAny_seqItems hTI' rfl ?_)
    refine wpAny_bind (wpAny_bind (wpAny_bind (wpAny_holding ?_)))
    show wpAny _ _ (Builtin.SmallTypes.nextOf (.ref I)) _ _ _
    refine wpAny_nextOf_list_end hh st.2 hl' (by simp) fun h' e hk he => ?_
    obtain ⟨o, ho, hc⟩ := he
    refine wpAny_bind (wpAny_isInstance (T := "StopIteration") (b := true) ⟨o, ho, hc⟩ isSubtype_stop ?_)
    exact wpAny_pure (hQ _ _ fun b o hb e => hk b o (fun q => hb (q ▸ List.mem_singleton.mpr rfl)) e)
  self := fun i s Q E st hQ => by
    have hM' := st.1 _ _ hMI hM
    have hT : s.TypeIs (.ref M) "map" := ⟨_, hM', rfl⟩
    refine wpAny_pyIter_slot hT slot_map_iter (wpAny_call_entry slot_map_iter hT entry_map_iter ?_ (args_map_iter_1 _))
    show wpAny _ _ (ret (.ref M)) _ _ s
    exact wpAny_pure ⟨_, rfl, "map", _, hT, slot_map_next.lookup, hQ⟩
end

section
variable {prog : Program} {w : World} {A : Around} {E : Value → Shared → Prop} {s : Shared} {I : Addr} {fp wr : List Addr} {G : Array GenState → Array GenState → Prop} {n : Nat} {P : Nat → Value → Prop} {St : Nat → Shared → Prop}
theorem collect_map {Q : List Value → Shared → Prop} (W : WalksS prog w A.in1 I fp wr G n P St) (hT : ∀ i s, St i s → s.TypeIs (.ref I) "map") (hst : St 0 s) (hfp : ∀ b ∈ fp, b < s.heap.objs.size) (hI : I < s.heap.objs.size)
    (hQ : ∀ s' acc, Moved wr G s s' → ItemsOf P acc n → Q acc.toList s') (hn : n ≤ sizeLine) : wpAny (model prog w) A (collect (.ref I)) Q E s := by
  run_tac Mine.mark
  have hSf : s.heap.objs.size ∉ fp := fun hm => Nat.lt_irrefl _ (hfp _ hm)
  have hSI : s.heap.objs.size ≠ I := Nat.ne_of_gt hI
  unfold collect
  refine wpAny_bind (wpAny_runValue (codeAny_builtin F.entry_proto_collect ?_))
  rw [Around.under_plainId F.plain_proto_collect _]
  show wpAny _ A.in1 (newList [] >>= fun l => again (.builtin "list.__iadd__" ⟨[l, .ref I], []⟩)) _ _ s
  refine wpAny_bind (wpAny_newObj_type ?_)
  refine wpAny_pure ⟨plainId_quiet F.plain_list_iadd _, codeAny_builtin F.entry_list_iadd ?_⟩
  rw [Around.under_plainId F.plain_list_iadd _]
  have hst₁ := W.frame 0 s (s.heap.push { cls := .type "list", data := .seq ([] : List Value).toArray }) s.toks hst (Nat.le_refl _) fun b _ o e => Heap.get?_push_of_some _ e
  show wpAny _ A.in1 (Builtin.List.listExtendWith (.ref s.heap.objs.size) (.ref I) (.ref s.heap.objs.size)) _ _ _
  unfold Builtin.List.listExtendWith
  refine wpAny_bind (wpAny_typeOf (hT 0 _ hst₁) ?_)
  have h1 : Builtin.List.listSameRef (.ref s.heap.objs.size) (.ref I) = false := by simp [Builtin.List.listSameRef, hSI]
  have h2 : (Value.type "map" == Value.type "list") = false := by decide
  have h3 : (Value.type "map" == Value.type "tuple") = false := by decide
  simp only [h1, h2, h3, Bool.or_false, Bool.false_eq_true, if_false]
  refine wpAny_bind (W.self 0 _ _ _ hst₁ ?_)
  refine wpAny_bind (wpAny_holding ?_)
  unfold Builtin.List.listLengthHint
  refine wpAny_bind (wpAny_specialOf (hT 0 _ hst₁) map_no_len ?_)
  show wpAny _ A.in1 (specialOf (Value.ref I) (Str.ofString "__length_hint__") >>= _) _ _ _
  refine wpAny_bind (wpAny_specialOf (hT 0 _ hst₁) map_no_hint ?_)
  refine wpAny_pure ?_
  show wpAny _ A.in1 (rule "list.extend.makes-room" >>= fun _ => Builtin.List.listTouch (.ref s.heap.objs.size) >>= fun _ =>
    again (.builtin "list.extend.loop" ⟨[.ref s.heap.objs.size, .ref I, .ref s.heap.objs.size], []⟩)) _ _ _
  refine wpAny_bind (wpAny_rule ?_)
  have hS₁ : (s.heap.push { cls := .type "list", data := .seq ([] : List Value).toArray }).get? s.heap.objs.size = some { cls := .type "list", data := .seq ([] : List Value).toArray } := Heap.get?_push_size _ rfl
  refine wpAny_bind ?_
  show wpAny _ A.in1 (updateSeq s.heap.objs.size (·.push .none) >>= fun _ => updateSeq s.heap.objs.size (·.pop)) _ _ _
  refine wpAny_bind (wpAny_updateSeq hS₁ rfl ?_)
  have hS₂ := Heap.get?_update_self (Obj.mapSeq (·.push Value.none)) hS₁ rfl
  refine wpAny_updateSeq hS₂ rfl ?_
  have hS₃ := Heap.get?_update_self (Obj.mapSeq (·.pop)) hS₂ rfl
  have oth : ∀ b o, b ≠ s.heap.objs.size → (s.heap.push { cls := .type "list", data := .seq ([] : List Value).toArray }).get? b = some o →
      (((s.heap.push { cls := .type "list", data := .seq ([] : List Value).toArray }).update s.heap.objs.size (Obj.mapSeq (·.push Value.none))).update s.heap.objs.size (Obj.mapSeq (·.pop))).get? b = some o :=
    fun b o hb e => (Heap.get?_update_other _ _ (Ne.symm hb)).trans ((Heap.get?_update_other _ _ (Ne.symm hb)).trans e)
  refine wpAny_pure ⟨plainId_quiet F.plain_extend_loop _, codeAny_extend_loopS W hn _ hSf _ n 0 _ _ _ rfl (Nat.zero_le _)
    (W.frame 0 ({ s with heap := s.heap.push { cls := .type "list", data := .seq ([] : List Value).toArray } } : Shared) _ s.toks hst₁ (Nat.le_refl _) fun b hb o e => oth b o (fun h => hSf (h ▸ hb)) e) hS₃ (ItemsOf.nil P) fun s' acc' c' hm hS' hacc => ?_⟩
  show wpAny _ A (load s.heap.objs.size >>= _) _ _ s'
  refine wpAny_bind (wpAny_load hS' ?_)
  refine wpAny_pure (hQ s' acc' (Moved.drop_new (o := { cls := .type "list", data := .seq ([] : List Value).toArray }) (tk := s.toks) (Moved.trans W.gtrans ((Moved.refl W.grefl).then_heap (by first | exact Nat.le_refl _ | exact Nat.le_succ _ | omega) fun b o hb e => ?_) hm) (Nat.le_refl _)) hacc)
  exact oth b o (fun h => hb (h ▸ List.mem_cons_self)) e
  run_tac Mine.shrink

theorem code_tuple_map {Q₁ : Value → Shared → Prop} (W : WalksS prog w A.in1.in1 I fp wr G n P St) (hT : ∀ i s, St i s → s.TypeIs (.ref I) "map") (hst : St 0 s) (hfp : ∀ b ∈ fp, b < s.heap.objs.size) (hI : I < s.heap.objs.size)
    (h : ∀ s' acc, Moved wr G s s' → ItemsOf P acc n → Q₁ (.ref s'.heap.objs.size) { s' with heap := s'.heap.push { cls := .type "tuple", data := .seq acc } }) (hsz : n ≤ sizeLine) :
    codeAny (model prog w) A (.call (.builtin "tuple.__new__") ⟨[.type "tuple", .ref I], []⟩) (wants Q₁ E) s := by
  run_tac Mine.mark
  refine codeAny_of_tree ?_
  show wpAny _ A.in1 (do checkBuiltinCall "tuple.__new__" ⟨[.type "tuple", .ref I], []⟩; again (.builtin "tuple.__new__" ⟨[.type "tuple", .ref I], []⟩)) _ _ s
  refine wpAny_bind (wpAny_of_eq (F.newCall_tuple_1 _) (wpAny_pure ⟨plainId_quiet F.plain_tuple_new _, codeAny_builtin F.entry_tuple_new ?_⟩))
  rw [Around.under_plainId F.plain_tuple_new _]
  have hsub := sub_tuple_self
  have hinit := init_tuple_lookup
  have hmh := madeHere_tuple
  have hTI := hT 0 s hst
  wp_walk using wpAny_typeOf hTI, collect_map (hn := hsz) W hT hst hfp hI
  intro s' acc hm hacc
  show wpAny _ _ (Builtin.Tuple.tupleExact acc.toList.toArray >>= fun v => ret v) _ _ _
  unfold Builtin.Tuple.tupleExact
  refine wpAny_bind (wpAny_newObj_type ?_ (by show acc.toList.toArray.size ≤ sizeLine; simp only [Array.toArray_toList]; rw [hacc.1]; exact hsz))
  refine wpAny_pure ?_
  have e : acc.toList.toArray = acc := by simp
  rw [e]
  exact h s' acc hm hacc
  run_tac Mine.shrink
theorem call_tuple_map {Q : Value → Shared → Prop} (W : WalksS prog w A.in1.in1.in1 I fp wr G n P St) (hT : ∀ i s, St i s → s.TypeIs (.ref I) "map") (hst : St 0 s) (hfp : ∀ b ∈ fp, b < s.heap.objs.size) (hI : I < s.heap.objs.size)
    (hQ : ∀ s' acc, Moved wr G s s' → ItemsOf P acc n → Q (.ref s'.heap.objs.size) { s' with heap := s'.heap.push { cls := .type "tuple", data := .seq acc } }) (hsz : n ≤ sizeLine) :
    wpAny (model prog w) A (call (.type "tuple") [.ref I]) Q E s := by
  refine callType_codes (Q₁ := fun obj s₁ => s₁.TypeIs obj "tuple" ∧ Q obj s₁) F.called_tuple (F.typeCall_tuple_1 _) F.entry_object_init
    (code_tuple_map (hsz := hsz) W hT hst hfp hI fun s' acc hm hacc => ⟨⟨_, Heap.get?_push_size _ rfl, rfl⟩, hQ s' acc hm hacc⟩) fun obj s₁ h₁ => ?_
  exact ⟨h₁.1, F.args_object_init_2 obj _, object_init_meets F.called_tuple.init.lookup F.called_tuple.made (by decide) prog w A.in1 _ s₁ ⟨h₁.1, rfl, h₁.2⟩⟩
end
theorem ad2 (I : Nat) : @Ne Nat (I + 2) I := by omega
theorem ad1 (I : Nat) : @Ne Nat (I + 1) I := by omega
theorem ad3 {a I D : Nat} (h : a < I) (k : I + 2 < D) : a < D := by omega
abbrev tupOf (vs : List Value) : Obj := { cls := .type "tuple", data := .seq vs.toArray }
section
variable {prog : Program} {w : World} {A : Around} {E : Value → Shared → Prop} {s : Shared} {h₀ : Heap} {L f l : Addr} {m : Str → Option Value} {news : List (Addr × Obj)}
/-- tuple(map(f, l)), where f gives what it is given -/
theorem tuple_mapped {I : Addr} {vs : List Value} {xs : List Str} {Q : Value → Shared → Prop} (hh : A.handled = none) (F : Fr h₀ L s.heap m) (N : News h₀ L s.heap ((I + 2, mapObj (I + 1) (.ref f)) :: (I + 1, mapTI I) :: (I, listIt l 0) :: news)) (hn : ∀ p ∈ news, p.1 < I)
    (hi : StrsAre vs xs) (hl₀ : h₀.IsList l vs.toArray) (hsz : vs.length ≤ sizeLine)
    (hcall : ∀ (s : Shared) (x : Str) (t : Tok) (Q E : Value → Shared → Prop), Fr h₀ L s.heap m → (∀ h' tk', Grow s.heap h' → Q (.str x t) { s with heap := h', toks := tk' }) → wpAny (model prog w) A.in1.in1.in1.in1 (call (.ref f) [.str x t]) Q E s)
    (h : ∀ D h' tk', Fr h₀ L h' m → News h₀ L h' ((D, tupOf vs) :: news) → (∀ p ∈ news, p.1 < D) → Q (.ref D) { s with heap := h', toks := tk' }) :
    wpAny (model prog w) A (call (.type "tuple") [.ref (I + 2)]) Q E s := by
  run_tac Mine.mark
  have hl : s.heap.IsList l vs.toArray := hl₀.at fun o e => F.keep l o e
  have hM := (N _ (.head _))
  have hT := (N _ (.tail _ (.head _)))
  have hI := (N _ (.tail _ (.tail _ (.head _))))
  have hlI : l ≠ I := by
    rintro rfl
    obtain ⟨o, e, _⟩ := hl₀
    rw [hI.2.2] at e; cases e
  have fr : ∀ h, (∀ b o, b ≠ I → s.heap.get? b = some o → h.get? b = some o) → Fr h₀ L h m := fun h k =>
    ⟨F.ns.at' fun o e => k L o (Ne.symm hI.2.1) e, fun b o e => k b o (fun q => by rw [q, hI.2.2] at e; cases e) (F.keep b o e), F.above⟩
  have W := Walks.mapped (A := A.in1.in1.in1) (M := I + 2) (TI := I + 1) (I := I) (f := f) hh hi hM.1 hT.1 hl (ad2 I) (ad1 I) hlI (Heap.lt_size hI.1) fr hcall
  refine call_tuple_map W.toS (fun i s' st => ⟨_, st.1 _ _ (ad2 I) hM.1, rfl⟩) ⟨fun _ _ _ e => e, ⟨_, hI.1, rfl, rfl⟩⟩ (fun b hb => List.mem_range.mp hb) (Heap.lt_size hM.1) ?_ hsz
  rintro ⟨h', g', d', tk', os'⟩ acc hm hacc
  have eg : g' = s.gens := hm.gens
  have ed : d' = s.drawn := hm.drawn
  have eo : os' = s.os := hm.os
  subst eg ed eo
  have k1 : ∀ b o, b ≠ I → s.heap.get? b = some o → h'.get? b = some o := fun b o hb e => hm.heap b o (fun q => hb (List.mem_singleton.mp q)) e
  have e : acc = vs.toArray := by
    refine Array.ext (by rw [hacc.1]; simp) fun j h1 h2 => ?_
    have := hacc.2 j acc[j] (Array.getElem?_eq_getElem h1)
    simp at this h2
    obtain ⟨_, q⟩ := List.getElem?_eq_some_iff.mp this
    simpa using q.symm
  subst e
  have F' := fr h' k1
  have N' : News h₀ L h' ((I + 2, mapObj (I + 1) (.ref f)) :: (I + 1, mapTI I) :: news) := fun p hp => by
    have hp' : p ∈ ((I + 2, mapObj (I + 1) (.ref f)) :: (I + 1, mapTI I) :: (I, listIt l 0) :: news) := by
      rcases List.mem_cons.mp hp with rfl | hp
      · exact .head _
      · rcases List.mem_cons.mp hp with rfl | hp
        · exact .tail _ (.head _)
        · exact .tail _ (.tail _ (.tail _ hp))
    refine ⟨k1 _ _ ?_ (N p hp').1, (N p hp').2⟩
    rcases List.mem_cons.mp hp with rfl | hp
    · exact ad2 I
    · rcases List.mem_cons.mp hp with rfl | hp
      · exact ad1 I
      · exact Nat.ne_of_lt (hn p hp)
  have lt := Heap.lt_size (k1 _ _ (ad2 I) hM.1)
  exact h h'.objs.size _ tk' (F'.push _) (News.push F' (fun p hp => N' p (.tail _ (.tail _ hp))) (tupOf vs) rfl) fun p hp => ad3 (hn p hp) lt
  run_tac Mine.shrink
end
end Mine
namespace Mine
open PyProof.Rows.LCg
section
variable {prog : Program} {w : World} {A : Around} {E : Value → Shared → Prop} {s : Shared} {h₀ : Heap} {L : Addr} {m : Str → Option Value} {env : Env} {news : List (Addr × Obj)}
theorem tup_st {ax I : Addr} {vs : List Value} : ∀ i (h h' : Heap) (o : Obj) (nw : List (Addr × Obj)), (h.IsTupleIter I ax i ∧ h.IsTuple ax vs.toArray) → h.get? I = some o → h'.get? I = some o → (∀ b o, h₀.get? b = some o → h'.get? b = some o) → News h₀ L h' nw → (ax, tupOf vs) ∈ nw → (h'.IsTupleIter I ax i ∧ h'.IsTuple ax vs.toArray) :=
  fun i h h' o nw st e e' k N S => ⟨by obtain ⟨o', q, r⟩ := st.1; rw [e] at q; cases q; exact ⟨o, e', r⟩, ⟨_, (N _ S).1, rfl, _, rfl⟩⟩
theorem SrcJ.tuple {elt : Expr} {ifs : List Expr} {x : Str} {scope : Scope} {cl : List (Str × Addr)} {up : Addr → Str → Option Value} {K : Addr → Shared → Prop} {ax : Addr} {vs : List Value} (hh : A.handled = none) (F : Fr h₀ L s.heap m) (N : News h₀ L s.heap news) (hm : (ax, tupOf vs) ∈ news) (hsz : vs.length ≤ sizeLine) (J : Nat → List Value → List (Addr × Obj) → Prop) (hJ : J 0 [] news)
    (turn : TurnJ prog w A h₀ L m env elt ifs x scope cl s (fun nw => (ax, tupOf vs) ∈ nw) vs.length (fun i v => vs[i]? = some v) J)
    (fin : ∀ D h tk ys news', Fr h₀ L h (up D) → News h₀ L h ((D, lst ys) :: news') → (∀ p ∈ news', p.1 ≠ D) → J vs.length ys news' → K D { s with heap := h, toks := tk }) :
    wpAny (model prog w) A (pyIter (.ref ax)) (SrcJ prog w A h₀ L m env elt ifs x scope cl up K) E s := by
  run_tac Mine.mark
  have hl : s.heap.IsTuple ax vs.toArray := ⟨_, (N _ hm).1, rfl, _, rfl⟩
  have hlt : ax < s.heap.objs.size := Heap.lt_size (N _ hm).1
  refine wpAny_pyIter_tuple hl ?_
  have up' : ∀ b o, s.heap.get? b = some o → (s.heap.push { cls := .type "tuple_iterator", data := .fields #[.ref ax, .int 0 0] }).get? b = some o := fun b o e => Heap.get?_push_of_some _ e
  have W := Walks.tuple (prog := prog) (w := w) hh s.heap.objs.size ax (Nat.ne_of_lt hlt) vs.toArray
  rw [List.size_toArray] at W
  have W' : Walks prog w A s.heap.objs.size [s.heap.objs.size, ax] [s.heap.objs.size] vs.length (fun i v => vs[i]? = some v) (fun i h => h.IsTupleIter s.heap.objs.size ax i ∧ h.IsTuple ax vs.toArray) :=
    { sub := W.sub, frame := W.frame, done := W.done, self := W.self, item := fun i s Q E hi st hQ => W.item i s Q E hi st fun v h' tk hP => hQ v h' tk (by simpa using hP) }
  refine ⟨s.heap.objs.size, _, _, _, _, _, news, J, rfl, W', hsz, (fun i h st => by obtain ⟨o, e, _⟩ := st.1; exact ⟨o, e⟩), tup_st, ⟨⟨_, Heap.get?_push_size _ rfl, rfl, rfl⟩, ⟨_, up' _ _ (N _ hm).1, rfl, _, rfl⟩⟩, (fun b hb => ?_),
    F.keeps up', N.grown up', Nat.ne_of_lt F.ns.lt, next_is_new F, (fun p hp => Nat.ne_of_lt (Heap.lt_size (N p hp).1)), hm, hJ, turn, fin⟩
  show b < (s.heap.push _).objs.size
  rw [Heap.size_push]
  rcases List.mem_cons.mp hb with rfl | hb
  · exact Nat.lt_succ_self _
  · rw [List.mem_singleton.mp hb]; exact Nat.lt_succ_of_lt hlt
  run_tac Mine.shrink
theorem truthy_tup {a : Addr} {v : Value} {vs : List Value} {Q : Bool → Shared → Prop} (N : News h₀ L s.heap news) (hm : (a, tupOf (v :: vs)) ∈ news) (hsz : (v :: vs).length ≤ sizeLine) (h : ∀ tk, Q true { s with toks := tk }) : wpAny (model prog w) A (truthy (.ref a)) Q E s := by
  have k : ((sizeLine : Nat) : Int) < 2 ^ 63 := by decide +kernel
  refine truthy_tuple ⟨_, N.get hm, rfl, _, rfl⟩ (by rw [List.size_toArray]; omega) ?_
  exact h _
theorem item0_tup {value slice : Expr} {a : Addr} {v : Value} {vs : List Value} {u : Tok} {Q : Value → Shared → Prop} (N : News h₀ L s.heap news) (hm : (a, tupOf (v :: vs)) ∈ news) (h : Q v s)
    (hs : subscripted slice false (.ref a) (.int 0 u) = operate [.ref a, .int 0 u] (getItem (.ref a) (.int 0 u)) := by with_unfolding_all rfl) (hg : ∀ r, letTemporaryGo value (.ref a) r = pure () := by intro _; with_unfolding_all rfl) :
    wpAny (model prog w) A (subscriptTail value slice (.ref a) (.int 0 u)) Q E s :=
  item_tupleL (l := v :: vs) (j := 0) ⟨_, N.get hm, rfl, _, rfl⟩ (by decide) (by decide) (by simp [seqIndex?]) rfl h hs hg
end
end Mine
namespace Mine
open PyProof.Rows.LCg
def T1 (led : Bool) : SetTable := { mask := 7, place := #[1], dummies := #[], finger := 0, led := led, moves := 0, plain := true }
def S0 (led : Bool) : Obj := { cls := .type "set", dict := none, data := .set #[] 0 (.fresh 0 0 led) }
def S1 (led : Bool) : Obj := { cls := .type "set", dict := none, data := .set #[(1, .bool true)] 1 (T1 led) }
def setLed (w : World) : Bool := !w.params.followText "set-order"
section
variable {prog : Program} {w : World} {A : Around} {E : Value → Shared → Prop} {s : Shared}
theorem pyHash_true {Q : Int → Shared → Prop} (h : Q 1 { s with toks := s.toks + 1 }) : wpAny (model prog w) A (pyHash (.bool true)) Q E s := by
  run_tac Mine.mark
  show wpAny _ _ (pyHashByItsType (.bool true)) _ _ _
  unfold pyHashByItsType
  have hv : [Value.bool true].any Value.onHeap = false := rfl
  refine wpAny_bind ?_
  rw [cRoomFor, if_neg (by rw [hv]; exact Bool.false_ne_true)]; refine wpAny_pure ?_
  refine wpAny_bind (wpAny_specialOf (PySem.typeIs_bool s true) F.slot_bool_hash.lookup ?_)
  show wpAny _ _ (if (some (Value.builtin "int.__hash__") == some Value.none) = true then _ else _) Q E s
  rw [if_neg (by rw [beq_builtin_none]; exact Bool.false_ne_true)]
  refine wpAny_bind (wpAny_specialOf (PySem.typeIs_bool s true) F.slot_bool_hash.lookup ?_)
  show wpAny _ _ (callSpecialIfBoundUnlessNone? (.bool true) "__hash__" _ >>= _) Q E s
  refine wpAny_bind (wpAny_callSpecialIfBoundUnlessNone?_slot (PySem.typeIs_bool s true) F.slot_bool_hash
    (wpAny_call_entry F.slot_bool_hash (PySem.typeIs_bool s true) entry_int_hash
      (show wpAny _ _ (do ret (← mkInt (rawHash 1))) _ _ s from wpAny_ret_mkInt ?_) (args_int_hash _)))
  have hr := rawHash_range 1
  show wpAny _ _ (if (decide (-(2 : Int) ^ 63 ≤ rawHash 1) && decide (rawHash 1 < 2 ^ 63)) = true then _ else _) Q E _
  rw [if_pos (by rw [decide_eq_true hr.1, decide_eq_true hr.2]; rfl)]
  refine wpAny_pure ?_
  have : rawHash 1 = 1 := by decide +kernel
  rw [this]; exact h
  run_tac Mine.shrink
theorem newSet_led {Q : Value → Shared → Prop} (h : Q (.ref s.heap.objs.size) { s with heap := s.heap.push (S0 (setLed w)) }) : wpAny (model prog w) A (newSet (.type "set")) Q E s := by
  run_tac Mine.mark
  unfold newSet setsByText
  refine wpAny_bind (wpAny_bind (wpAny_askSetting (wpAny_pure ?_)))
  dsimp only
  simp only [newObj]
  exact wpAny_bind (wpAny_alloc (wpAny_pure h))
  run_tac Mine.shrink
theorem setState_S {a : Addr} {led : Bool} {Q : (Array (Int × Value) × Nat × SetTable) → Shared → Prop} (ho : s.heap.get? a = some (S1 led)) (h : Q (#[(1, .bool true)], 1, T1 led) s) : wpAny (model prog w) A (setState a) Q E s :=
  wpAny_setState_of ho rfl rfl h
theorem setState_S0 {a : Addr} {led : Bool} {Q : (Array (Int × Value) × Nat × SetTable) → Shared → Prop} (ho : s.heap.get? a = some (S0 led)) (h : Q (#[], 0, .fresh 0 0 led) s) : wpAny (model prog w) A (setState a) Q E s :=
  wpAny_setState_of ho rfl rfl h
theorem typeIs_set {a : Addr} {led : Bool} (ho : s.heap.get? a = some (S1 led)) : s.TypeIs (.ref a) "set" := ⟨_, ho, rfl⟩
theorem typeIs_set0 {a : Addr} {led : Bool} (ho : s.heap.get? a = some (S0 led)) : s.TypeIs (.ref a) "set" := ⟨_, ho, rfl⟩
theorem add_first {a : Addr} {led : Bool} {Q : Value → Shared → Prop} (ho : s.heap.get? a = some (S0 led)) (h : ∀ h' tk, Heap.SameBut a s.heap h' → h'.get? a = some (S1 led) → Q .none { s with heap := h', toks := tk }) :
    wpAny (model prog w) A (call (.builtin "set.add") [.ref a, .bool true]) Q E s := by
  run_tac Mine.mark
  refine wpAny_call_entry F.slot_set_add (typeIs_set0 ho) F.entry_set_add ?_ (F.args_set_add_2 _ _)
  unfold Builtin.«set.add» Builtin.Frozenset.oneOther
  simp only [List.isEmpty_nil, bind_assoc]
  unfold Builtin.Frozenset.addrOf setAdd
  refine wpAny_bind (wpAny_pure ?_)
  try dsimp only
  refine wpAny_bind (wpAny_pure ?_)
  try dsimp only
  refine wpAny_bind (wpAny_holding ?_)
  refine wpAny_bind (pyHash_true ?_)
  unfold setAddHashed setAddHashedIn
  refine wpAny_holding (wpAny_bind (setState_S0 (s := { s with toks := s.toks + 1 }) ho ?_))
  dsimp only
  rw [show byScan (.bool true) #[] = true by decide +kernel]
  simp only [↓reduceIte]
  unfold setAddByScan
  refine wpAny_bind (wpAny_bind (wpAny_rule ?_))
  rw [show setScan a (.bool true) 1 true #[] = pure .absent from rfl]
  refine wpAny_bind (wpAny_pure ?_)
  dsimp only
  rw [show layNew (.fresh 0 0 led) #[] 1 (.bool true) = (#[(1, .bool true)], T1 led, false, false) by cases led <;> decide +kernel]
  dsimp only
  refine wpAny_bind (wpAny_pure ?_)
  rw [if_pos (show (T1 led).plain = true from rfl)]
  rw [show hashByValue 8 (.bool true) = pure true from rfl]
  refine wpAny_bind (wpAny_pure ?_)
  simp only [↓reduceIte]
  refine wpAny_bind (wpAny_storeSet_of (s := { s with toks := s.toks + 1 }) ho rfl ?_ (by decide))
  rw [if_neg (show ¬ ((!false && (T1 led).tooFull) = true) by cases led <;> decide +kernel)]
  refine wpAny_pure (wpAny_pure ?_)
  show wpAny _ _ (ret Value.none) _ _ _
  refine wpAny_pure ⟨_, rfl, h _ _ (Heap.SameBut.update _ _ _) ?_⟩
  have := Heap.get?_update_self (Obj.putSet #[(1, .bool true)] (T1 led)) ho (by rfl)
  exact this
  run_tac Mine.shrink
theorem scan_S1 {a : Addr} {led : Bool} {Q : ScanMet → Shared → Prop} (ho : s.heap.get? a = some (S1 led)) (h : Q (.found 0) s) :
    wpAny (model prog w) A (setScan a (.bool true) 1 true #[(1, .bool true)]) Q E s := by
  run_tac Mine.mark
  unfold setScan setScanFrom
  dsimp only
  rw [if_pos (by decide)]
  refine wpAny_bind ?_
  unfold setEpoch
  refine wpAny_bind (setState_S ho (wpAny_pure ?_))
  refine wpAny_bind ?_
  unfold eqBool
  rw [if_pos (by decide)]
  refine wpAny_bind (wpAny_rule (wpAny_pure ?_))
  simp only [Bool.and_self, ↓reduceIte]
  exact wpAny_pure h
  run_tac Mine.shrink
theorem add_again {a : Addr} {led : Bool} {Q : Value → Shared → Prop} (ho : s.heap.get? a = some (S1 led)) (h : ∀ tk, Q .none { s with toks := tk }) :
    wpAny (model prog w) A (call (.builtin "set.add") [.ref a, .bool true]) Q E s := by
  run_tac Mine.mark
  refine wpAny_call_entry F.slot_set_add (typeIs_set ho) F.entry_set_add ?_ (F.args_set_add_2 _ _)
  unfold Builtin.«set.add» Builtin.Frozenset.oneOther
  simp only [List.isEmpty_nil, bind_assoc]
  unfold Builtin.Frozenset.addrOf setAdd
  refine wpAny_bind (wpAny_pure ?_)
  try dsimp only
  refine wpAny_bind (wpAny_pure ?_)
  try dsimp only
  refine wpAny_bind (wpAny_holding ?_)
  refine wpAny_bind (pyHash_true ?_)
  unfold setAddHashed setAddHashedIn
  refine wpAny_holding (wpAny_bind (setState_S (s := { s with toks := s.toks + 1 }) ho ?_))
  dsimp only
  rw [show byScan (.bool true) #[(1, .bool true)] = true by decide +kernel]
  simp only [↓reduceIte]
  unfold setAddByScan
  refine wpAny_bind (wpAny_bind (wpAny_rule ?_))
  refine wpAny_bind ?_
  refine scan_S1 (s := { s with toks := s.toks + 1 }) ho ?_
  dsimp only
  refine wpAny_pure (wpAny_pure ?_)
  show wpAny _ _ (ret Value.none) _ _ _
  exact wpAny_pure ⟨_, rfl, h _⟩
  run_tac Mine.shrink

theorem entry_set_iter : entryFor table "set.__iter__" = some Builtin.«frozenset.__iter__» :=
  entryFor_alias (id' := "frozenset.__iter__") (by kernel_rfl) (by first | rfl | decide +kernel) (by decide +kernel) (by kernel_rfl)
theorem slot_setit_next : Slot "set_iterator" "__next__" "set_iterator.__next__" :=
  .of (owner := "set_iterator") (n := "__next__") (by rw [typeLookup_type, builtinLookup_eq_fast]; kernel_rfl) (by decide +kernel) (by decide +kernel) (by decide +kernel)
    (by first | exact .inl (by decide +kernel) | exact .inr (by decide +kernel)) (by rw [isSubtype_type]; kernel_rfl)
theorem entry_setit_next : entryFor table "set_iterator.__next__" = some Builtin.«set_iterator.__next__» := entryFor_of_tree (by kernel_rfl)
theorem args_setit_next_1 (a : Value) : argsOk "set_iterator.__next__" ⟨[a], []⟩ := by
  unfold argsOk; kernel_rfl
abbrev setIt (a : Addr) (slot i : Nat) : Obj := { cls := .type "set_iterator", data := .fields #[.int slot 0, .int i 0, .ref a, .int (1 : Nat) 0, .int (1 : Nat) 0] }
theorem byText {Q : Bool → Shared → Prop} (h : Q (w.params.followText "set-order") s) : wpAny (model prog w) A setsByText Q E s := by
  unfold setsByText
  exact wpAny_bind (wpAny_askSetting (wpAny_pure h))
theorem drawn_S {a : Addr} {led : Bool} {Q : Bool → Shared → Prop} (ho : s.heap.get? a = some (S1 led)) (h : Q false s) : wpAny (model prog w) A (setDrawn a) Q E s := by
  run_tac Mine.mark
  unfold setDrawn
  refine wpAny_bind (setState_S ho ?_)
  dsimp only
  refine wpAny_bind (byText (wpAny_pure ?_))
  have : (!w.params.followText "set-order" && (!(T1 led).plain && decide ((#[((1 : Int), Value.bool true)] : Array (Int × Value)).size > 1))) = false := by
    cases w.params.followText "set-order" <;> rfl
  exact this ▸ h
  run_tac Mine.shrink
theorem epoch_S {a : Addr} {led : Bool} {Q : Nat → Shared → Prop} (ho : s.heap.get? a = some (S1 led)) (h : Q 1 s) : wpAny (model prog w) A (setEpoch a) Q E s := by
  unfold setEpoch
  exact wpAny_bind (setState_S ho (wpAny_pure h))
theorem iter_set {a : Addr} {led : Bool} {Q : Value → Shared → Prop} (ho : s.heap.get? a = some (S1 led)) (h : Q (.ref s.heap.objs.size) { s with heap := s.heap.push (setIt a 0 0) }) : wpAny (model prog w) A (pyIter (.ref a)) Q E s := by
  run_tac Mine.mark
  refine wpAny_pyIter_slot (typeIs_set ho) F.slot_set_iter (wpAny_call_entry F.slot_set_iter (typeIs_set ho) entry_set_iter ?_ (F.args_set_iter_1 _))
  show wpAny _ _ (Builtin.Frozenset.sizeOf a >>= _) _ _ _
  unfold Builtin.Frozenset.sizeOf
  refine wpAny_bind (wpAny_bind (wpAny_setEntries_of ho rfl rfl (wpAny_pure ?_)))
  refine wpAny_bind (drawn_S ho ?_)
  simp only [Bool.false_eq_true, if_false]
  refine wpAny_bind (wpAny_pure ?_)
  refine wpAny_bind (epoch_S ho ?_)
  exact wpAny_bind (wpAny_newObj_type (wpAny_pure ⟨_, rfl, "set_iterator", _, ⟨_, Heap.get?_push_size _ rfl, rfl⟩, slot_setit_next.lookup, h⟩))
  run_tac Mine.shrink
theorem walk_S {a : Addr} {led : Bool} {Q : Array (Int × Value) → Shared → Prop} (ho : s.heap.get? a = some (S1 led)) (ht : w.params.followText "set-order" = true) (h : Q #[(1, .bool true)] s) : wpAny (model prog w) A (setWalk a) Q E s := by
  run_tac Mine.mark
  unfold setWalk
  refine wpAny_bind (setState_S ho ?_)
  dsimp only
  refine wpAny_bind (byText ?_)
  rw [if_pos ht]
  refine wpAny_bind (wpAny_askSetting (wpAny_pure ?_))
  have e : ∀ f : Nat → Nat, pickOrder f #[((1 : Int), Value.bool true)] = #[(1, .bool true)] := by
    intro f
    have : f 0 % 1 = 0 := Nat.mod_one _
    simp [pickOrder, pickOrder.go, this]
  rw [e]; exact h
  run_tac Mine.shrink
theorem setNext_S {a : Addr} {slot given : Nat} {Q : Option (Value × Nat) → Shared → Prop} (ho : s.heap.get? a = some (S1 (setLed w)))
    (h : Q (if w.params.followText "set-order" then ((#[((1 : Int), Value.bool true)] : Array (Int × Value))[given]?).map (fun e => (e.2, slot))
      else match (#[((1 : Int), Value.bool true)] : Array (Int × Value))[SetTable.below #[1] slot]?, (#[1] : Array Nat)[SetTable.below #[1] slot]? with
        | some (_, x), some j => some (x, j + 1)
        | _, _ => none) s) : wpAny (model prog w) A (setNext a slot given 1) Q E s := by
  run_tac Mine.mark
  unfold setNext
  refine wpAny_bind (setState_S ho ?_)
  dsimp only
  refine wpAny_bind (byText ?_)
  cases ht : w.params.followText "set-order" with
  | true =>
    simp only [ht, if_true] at h ⊢
    rw [if_neg (by decide)]
    refine wpAny_bind (walk_S ho ht (wpAny_pure ?_))
    exact h
  | false =>
    simp only [ht, Bool.false_eq_true, if_false] at h ⊢
    have hl : setLed w = true := by unfold setLed; rw [ht]; rfl
    rw [hl]
    rw [if_neg (by decide +kernel)]
    refine wpAny_bind (wpAny_of_eq (a := ()) (by rfl) ?_)
    exact wpAny_pure h
  run_tac Mine.shrink
def slotOf (w : World) : Nat := if w.params.followText "set-order" then 0 else 2
theorem below0 : SetTable.below #[1] 0 = 0 := by decide +kernel
theorem below2 : SetTable.below #[1] 2 = 1 := by decide +kernel
theorem next_set {a I : Addr} {Q : Option Value → Shared → Prop} (ho : s.heap.get? a = some (S1 (setLed w))) (hI : s.heap.get? I = some (setIt a 0 0))
    (h : ∀ h', Heap.SameBut I s.heap h' → h'.get? I = some (setIt a (slotOf w) 1) → Q (some (.bool true)) { s with heap := h' }) : wpAny (model prog w) A (pyNext (.ref I)) Q E s := by
  run_tac Mine.mark
  have hT : s.TypeIs (.ref I) "set_iterator" := ⟨_, hI, rfl⟩
  unfold pyNext
  refine wpAny_bind (wpAny_attempt (wpAny_callSpecial?_slot (name := Str.ofString "__next__") hT slot_setit_next (wpAny_call_entry slot_setit_next hT entry_setit_next ?_ (args_setit_next_1 _))))
  show wpAny _ _ (fieldsOf (.ref I) >>= _) _ _ _
  refine wpAny_bind (wpAny_fieldsOf hI rfl ?_)
  show wpAny _ _ (setEntries a >>= _) _ _ _
  refine wpAny_bind (wpAny_setEntries_of ho rfl rfl ?_)
  rw [if_neg (by decide +kernel)]
  show wpAny _ _ (setNext a _ _ _ >>= _) _ _ _
  refine wpAny_bind (setNext_S ho ?_)
  have e : (if w.params.followText "set-order" = true then Option.map (fun e : Int × Value => (e.snd, (((0 : Nat) : Int)).toNat)) (#[((1 : Int), Value.bool true)] : Array (Int × Value))[(((0 : Nat) : Int)).toNat]?
      else match (#[((1 : Int), Value.bool true)] : Array (Int × Value))[SetTable.below #[1] (((0 : Nat) : Int)).toNat]?, (#[1] : Array Nat)[SetTable.below #[1] (((0 : Nat) : Int)).toNat]? with
        | some (_, x), some j => some (x, j + 1)
        | _, _ => none) = some (.bool true, slotOf w) := by
    unfold slotOf
    cases w.params.followText "set-order" <;> decide +kernel
  rw [e]
  dsimp only
  refine wpAny_bind (wpAny_setField_rec hI (by simp) fun h₁ hI₁ hs₁ => ?_)
  replace hI₁ : h₁.get? I = some (setIt a (slotOf w) 0) := hI₁
  refine wpAny_bind (wpAny_setField_rec hI₁ (by simp) fun h₂ hI₂ hs₂ => ?_)
  exact wpAny_pure ⟨_, rfl, wpAny_pure (h h₂ (hs₁.trans hs₂) hI₂)⟩
  run_tac Mine.shrink
theorem end_set {a I : Addr} {Q : Option Value → Shared → Prop} (hh : A.handled = none) (ho : s.heap.get? a = some (S1 (setLed w))) (hI : s.heap.get? I = some (setIt a (slotOf w) 1))
    (h : ∀ h', Heap.ExtBut I s.heap h' → Q none { s with heap := h' }) : wpAny (model prog w) A (pyNext (.ref I)) Q E s := by
  run_tac Mine.mark
  have hT : s.TypeIs (.ref I) "set_iterator" := ⟨_, hI, rfl⟩
  unfold pyNext
  refine wpAny_bind (wpAny_attempt (wpAny_callSpecial?_slot (name := Str.ofString "__next__") hT slot_setit_next (wpAny_call_entry slot_setit_next hT entry_setit_next ?_ (args_setit_next_1 _))))
  show wpAny _ _ (fieldsOf (.ref I) >>= _) _ _ _
  refine wpAny_bind (wpAny_fieldsOf hI rfl ?_)
  show wpAny _ _ (setEntries a >>= _) _ _ _
  refine wpAny_bind (wpAny_setEntries_of ho rfl rfl ?_)
  rw [if_neg (by decide +kernel)]
  show wpAny _ _ (setNext a _ _ _ >>= _) _ _ _
  refine wpAny_bind (setNext_S ho ?_)
  have e : (if w.params.followText "set-order" = true then Option.map (fun e : Int × Value => (e.snd, (((slotOf w : Nat) : Int)).toNat)) (#[((1 : Int), Value.bool true)] : Array (Int × Value))[(((1 : Nat) : Int)).toNat]?
      else match (#[((1 : Int), Value.bool true)] : Array (Int × Value))[SetTable.below #[1] (((slotOf w : Nat) : Int)).toNat]?, (#[1] : Array Nat)[SetTable.below #[1] (((slotOf w : Nat) : Int)).toNat]? with
        | some (_, x), some j => some (x, j + 1)
        | _, _ => none) = none := by
    unfold slotOf
    cases w.params.followText "set-order" <;> decide +kernel
  rw [e]
  dsimp only
  refine wpAny_bind (wpAny_setField_rec hI (by simp) fun h₁ hI₁ hs₁ => ?_)
  show wpAny _ _ (newExc (.type "StopIteration") [] >>= _) _ _ _
  refine wpAny_bind ?_
  simp only [newExc, newTuple]
  refine wpAny_bind (wpAny_newObj_type ?_ (by size_fits))
  refine wpAny_bind (m := firstArgMember _ _) (wpAny_of_eq (a := Value.none) (by first | rfl | (simp only [firstArgMember]; rfl)) ?_)
  refine wpAny_newObj_type ?_ (by size_fits)
  simp only [raiseNew]
  refine wpAny_bind (wpAny_handled ?_)
  first | rw [show A.in1.handled = none from hh] | rw [hh]
  refine wpAny_bind (wpAny_pure (wpAny_throw ?_))
  refine wpAny_bind (wpAny_isInstance (T := "StopIteration") (b := true) ⟨_, Heap.get?_push_size _ rfl, rfl⟩ isSubtype_stop ?_)
  exact wpAny_pure (h _ ((hs₁.extBut.push _).push _))
  run_tac Mine.shrink
theorem unpack_set {a : Addr} {t : Value → Sem Unit} {Q : Unit → Shared → Prop} (hh : A.handled = none) (ho : s.heap.get? a = some (S1 (setLed w)))
    (h : ∀ h', Grow s.heap h' → wpAny (model prog w) A (t (.bool true)) Q E { s with heap := h' }) : wpAny (model prog w) A (unpack (.ref a) [(false, t)]) Q E s := by
  run_tac Mine.mark
  have hlt : a ≠ s.heap.objs.size := Nat.ne_of_lt (Heap.lt_size ho)
  unfold unpack
  refine wpAny_bind (wpAny_holding ?_)
  show wpAny _ _ (unpackItems (.ref a) 1 none) _ _ _
  unfold unpackItems
  refine wpAny_bind ?_
  unfold notIterableAtAll
  refine wpAny_bind (wpAny_specialOf (typeIs_set ho) F.slot_set_iter.lookup ?_)
  refine wpAny_pure ?_
  simp only [Bool.false_eq_true, if_false]
  refine wpAny_bind (wpAny_holding (iter_set ho ?_))
  have ho₁ : (s.heap.push (setIt a 0 0)).get? a = some (S1 (setLed w)) := Heap.get?_push_of_some _ ho
  refine wpAny_bind (wpAny_holding ?_)
  show wpAny _ _ (pyNext (.ref s.heap.objs.size) >>= _) _ _ _
  refine wpAny_bind (next_set (s := { s with heap := s.heap.push (setIt a 0 0) }) ho₁ (Heap.get?_push_size _ rfl) fun h₁ hs₁ hI₁ => ?_)
  refine wpAny_bind (wpAny_holding (wpAny_pure ?_))
  refine wpAny_pure ?_
  rw [if_neg (by decide)]
  have ho₂ : h₁.get? a = some (S1 (setLed w)) := hs₁.extBut _ _ hlt ho₁
  refine wpAny_bind (wpAny_holding (end_set (s := { s with heap := h₁ }) hh ho₂ hI₁ fun h₂ hx₂ => ?_))
  simp only [Option.isSome_none, Bool.false_eq_true, if_false]
  refine wpAny_pure ?_
  show wpAny _ _ (assignInOrder [t] [.bool true]) _ _ _
  have g : Grow s.heap h₂ := fun b o e => by
    have hb : b ≠ s.heap.objs.size := Nat.ne_of_lt (Heap.lt_size e)
    exact hx₂ b o hb (hs₁.extBut b o hb (Heap.get?_push_of_some _ e))
  show wpAny _ _ (holding [] (t (.bool true)) >>= fun _ => assignInOrder [] []) _ _ _
  refine wpAny_bind (wpAny_holding (wpAny_mono (h h₂ g) (fun _ s' q => wpAny_pure q) fun _ _ x => x))
  run_tac Mine.shrink
end
end Mine
namespace Mine
open PyProof.Rows.LCg
theorem compTurn_set (elt target iter : Expr) (ifs : List Expr) (scope : Scope) (pos : Pos) (it acc : Value) (env : Env) :
    compTurn (.SetComp elt [⟨target, iter, ifs, 0⟩] scope pos) 0 it acc env = (do
      standAt iter.pos
      match ← pyNext it with
      | none => pure (.done .next)
      | some v =>
        letOwnedTupleGo target it v
        assign target env v
        let mut ok := true
        for c in ifs do
          if ok then ok ← isTrue c env (eval c env)
        if ok then
          (do let v ← eval elt env; standAt elt.pos; let _ ← call (.builtin "set.add") [acc, v])
        again (.compLoop (.SetComp elt [⟨target, iter, ifs, 0⟩] scope pos) 0 it acc env)) := by rfl
section
variable {prog : Program} {w : World} {A : Around} {E : Value → Shared → Prop} {R : Result → Shared → Prop} {s : Shared}
theorem codeAny_compLoop_set {elt target iter : Expr} {scope : Scope} {pos : Pos} {it acc : Value} {env : Env} (I : Nat → Shared → Prop)
    (turn : ∀ n s, I n s → wpAny (model prog w) A (pyNext it) (fun r s₁ => match r with
      | none => R (.ok .next) s₁
      | some v => wpAny (model prog w) A (assign target env v) (fun _ s₂ =>
          wpAny (model prog w) A (eval elt env) (fun x s₄ =>
              wpAny (model prog w) A (call (.builtin "set.add") [acc, x]) (fun _ s₅ => ∃ m, m < n ∧ I m s₅) (notedBy (model prog w) A env fun e s' => R (.error e) s') s₄) (notedBy (model prog w) A env fun e s' => R (.error e) s') s₂) (notedBy (model prog w) A env fun e s' => R (.error e) s') s₁) (notedBy (model prog w) A env fun e s' => R (.error e) s') s)
    (n : Nat) (h : I n s) (ht : ∀ v, letOwnedTupleGo target it v = pure () := by intro _; rfl) :
    codeAny (model prog w) A (.compLoop (.SetComp elt [⟨target, iter, [], 0⟩] scope pos) 0 it acc env) R s := by
  run_tac Mine.mark
  refine codeAny_loop rfl I (fun n s hI => ?_) n h
  show wpAny _ A ((compTurn (.SetComp elt [⟨target, iter, [], 0⟩] scope pos) 0 it acc env).onRaise (fun x => do noteFrame x env; theTreesLotGoes x)) _ _ s
  refine wpAny_noted ?_
  rw [compTurn_set]
  refine wpAny_bind (wpAny_standAt (wpAny_bind (wpAny_mono (turn n s hI) (fun r s₁ h₁ => ?_) fun _ _ h' => h')))
  cases r with
  | none => exact wpAny_pure h₁
  | some v =>
    refine wpAny_bind (wpAny_of_eq (ht v) ?_)
    refine wpAny_bind (wpAny_mono h₁ (fun _ s₂ h₂ => wpAny_bind (wpAny_pure ?_)) fun _ _ h' => h')
    exact wpAny_bind (wpAny_bind (wpAny_mono h₂ (fun x s₄ h₄ => wpAny_bind (wpAny_standAt (wpAny_bind (wpAny_mono h₄ (fun _ s₅ h₅ => wpAny_pure (wpAny_pure ⟨rfl, h₅⟩)) fun _ _ h' => h')))) fun _ _ h' => h'))
  run_tac Mine.shrink
theorem codeAny_compStart_set {elt target iter ifs rest scope pos it acc env}
    (h0 : codeAny (model prog w) A (.compLoop (.SetComp elt (⟨target, iter, ifs, 0⟩ :: rest) scope pos) 0 it acc env) R s)
    (h : wpAny (model prog w) A (pyIter it) (fun it' s' => codeAny (model prog w) A (.compLoop (.SetComp elt (⟨target, iter, ifs, 0⟩ :: rest) scope pos) 0 it' acc env) R s')
      (notedBy (model prog w) A env fun x s' => R (.error x) s') s) :
    codeAny (model prog w) A (.compStart (.SetComp elt (⟨target, iter, ifs, 0⟩ :: rest) scope pos) 0 it acc env) R s := by
  run_tac Mine.mark
  refine codeAny_of_tree ?_
  show wpAny _ _ ((compStart (.SetComp elt (⟨target, iter, ifs, 0⟩ :: rest) scope pos) 0 it acc env).onRaise (fun x => do noteFrame x env; standAt theWindowsPlace)) _ _ s
  refine wpAny_notedAt ?_
  unfold compStart
  show wpAny _ _ (ask >>= _) _ _ s
  refine wpAny_bind (wpAny_askSetting (wpAny_ite ?_))
  split
  · first
      | exact wpAny_bind (wpAny_pure (wpAny_pure (And.intro rfl h0)))
      | exact wpAny_pure (And.intro rfl h0)
  · first
      | exact wpAny_bind (wpAny_rule (wpAny_bind (wpAny_standAt (wpAny_bind (wpAny_mono h (fun it' s' h' => wpAny_pure (And.intro rfl h')) fun _ _ x => x)))))
      | (refine wpAny_bind (wpAny_rule ?_); show wpAny _ _ (standAt iter.pos >>= _) _ _ s; exact wpAny_bind (wpAny_standAt (wpAny_bind (wpAny_mono h (fun it' s' h' => wpAny_pure (And.intro rfl h')) fun _ _ x => x))))
  run_tac Mine.shrink
end
section
variable {prog : Program} {w : World} {A : Around} {E : Value → Shared → Prop} {s : Shared} {h₀ : Heap} {L : Addr} {m : Str → Option Value} {env : Env}
/-- what must be shown of the set {test for x in a tuple}, where the test holds of every item -/
def SetSrc (prog : Program) (w : World) (A : Around) (h₀ : Heap) (L : Addr) (m : Str → Option Value) (env : Env) (elt : Expr) (x : Str) (scope : Scope) (cl : List (Str × Addr)) (Q : Value → Shared → Prop) (xv : Value) (s₁ : Shared) : Prop :=
  ∃ (ax : Addr) (vs : List Value) (news : List (Addr × Obj)), xv = .ref ax ∧ A.handled = none ∧ Fr h₀ L s₁.heap m ∧ News h₀ L s₁.heap news ∧ (ax, tupOf vs) ∈ news ∧ 0 < vs.length ∧ vs.length ≤ sizeLine ∧
    (∀ (i : Nat) (v : Value) (I : Addr) (oI : Obj) (C : Addr) (oC : Obj) (m₂ : Str → Option Value) (D : Addr) (oD : Obj) (h : Heap) (tk : Nat) (E' : Value → Shared → Prop), vs[i]? = some v → NsObj oC m₂ → m₂ x = some v → Fr h₀ L h m → News h₀ L h ((I, oI) :: (C, oC) :: (D, oD) :: news) →
      wpAny (model prog w) A (eval elt (compEnvC scope cl C env)) (fun y s₄ => y = .bool true ∧ ∃ tk', s₄ = { s₁ with heap := h, toks := tk' }) E' { s₁ with heap := h, toks := tk }) ∧
    (∀ D h tk, Fr h₀ L h m → News h₀ L h ((D, S1 (setLed w)) :: news) → (∀ p ∈ news, p.1 < D) → Q (.ref D) { s₁ with heap := h, toks := tk })

theorem SetComp_true {elt iter : Expr} {x : Str} {px : Pos} {scope : Scope} {cl : List (Str × Addr)} {pos : Pos} {Q : Value → Shared → Prop} (_F₀ : Fr h₀ L s.heap m)
    (hclos : closureFor scope env = pure cl) (hcell : ∀ y ∈ scope.names, y.2 ≠ .cell) (hx : scope.names.lookup x = some .local) (hkind : scope.kind = .function)
    (hnames : ∀ y ∈ scope.names, y.2 = .local → scope.names.lookup y.1 = some .local)
    (h : wpAny (model prog w) A (eval iter env) (SetSrc prog w A h₀ L m env elt x scope cl Q) E s)
    (hs : ∀ x, foldedSetIterable iter env x = pure x := by intro _; rfl) :
    wpAny (model prog w) A (eval (.SetComp elt [⟨.Name x px, iter, [], 0⟩] scope pos) env) Q E s := by
  run_tac Mine.mark
  rw [arm_eval_SetComp]
  refine wpAny_comprehension_free (use := none) rfl hs hclos hkind hnames (wpAny_mono h (fun xv s₁ h₁ => ?_) fun _ _ e => e)
  obtain ⟨ax, vs, news, rfl, hh, F, N, hm, h0, hsz, turn, fin⟩ := h₁
  have ltN : ∀ p ∈ news, p.1 < s₁.heap.objs.size := fun p hp => Heap.lt_size (N p hp).1
  have hLlt : L < s₁.heap.objs.size := F.ns.lt
  have hax := ltN _ hm
  have fresh₀ : ∀ a, s₁.heap.objs.size ≤ a → h₀.get? a = none := fun a ha => by
    cases e : h₀.get? a with
    | none => rfl
    | some o' => exact absurd (Heap.lt_size (F.keep a o' e)) (Nat.not_lt.mpr ha)
  refine wpAny_pyIter_tuple (t := ax) ⟨_, (N _ hm).1, rfl, _, rfl⟩ ?_
  refine newSet_led ?_
  dsimp only
  generalize hIdef : s₁.heap.objs.size = I at *
  have zI : (s₁.heap.push ({ cls := .type "tuple_iterator", data := .fields #[.ref ax, .int 0 0] } : Obj)).objs.size = I + 1 := by rw [Heap.size_push, hIdef]
  rw [zI]
  generalize hH2 : (s₁.heap.push ({ cls := .type "tuple_iterator", data := .fields #[.ref ax, .int 0 0] } : Obj)).push (S0 (setLed w)) = H2
  have k2 : ∀ b o, s₁.heap.get? b = some o → H2.get? b = some o := fun b o e => by rw [← hH2]; exact Heap.get?_push_of_some _ (Heap.get?_push_of_some _ e)
  have hI2 : H2.get? I = some { cls := .type "tuple_iterator", data := .fields #[.ref ax, .int 0 0] } := by rw [← hH2]; exact Heap.get?_push_of_some _ (by rw [← hIdef]; exact Heap.get?_push_size _ rfl)
  have hD2 : H2.get? (I + 1) = some (S0 (setLed w)) := by rw [← hH2, ← zI]; exact Heap.get?_push_size _ rfl
  have z2 : H2.objs.size = I + 2 := by rw [← hH2, Heap.size_push, zI]
  refine wpAny_newFunctionEnv hcell (by intro y hy; simp at hy) (fun h₁ hns₁ hsb₁ => ?_) hkind
  dsimp only at hns₁ hsb₁ ⊢
  rw [z2] at hns₁ hsb₁ ⊢
  have k1 : ∀ b o, H2.get? b = some o → h₁.get? b = some o := fun b o e => hsb₁.extBut b o (by have := Heap.lt_size e; rw [z2] at this; exact Nat.ne_of_lt this) (Heap.get?_push_of_some _ e)
  obtain ⟨oC, eC, hoC⟩ := ns_obj hns₁
  have W := Walks.tuple (prog := prog) (w := w) hh I ax (Nat.ne_of_lt hax) vs.toArray
  have ne1 : @Ne Nat (I + 1) I := ad1 I
  have ne2 : @Ne Nat (I + 2) I := ad2 I
  have ne3 : @Ne Nat (I + 2) (I + 1) := ad1 (I + 1)
  have hLI : L ≠ I := Nat.ne_of_lt hLlt
  have hL1 : @Ne Nat L (I + 1) := Nat.ne_of_lt (Nat.lt_succ_of_lt hLlt)
  have hL2 : @Ne Nat L (I + 2) := Nat.ne_of_lt (Nat.lt_succ_of_lt (Nat.lt_succ_of_lt hLlt))
  have hI0 := fresh₀ I (Nat.le_refl _)
  have hI1 := fresh₀ (I + 1) (Nat.le_succ _)
  have hI2' := fresh₀ (I + 2) (Nat.le_succ_of_le (Nat.le_succ _))
  have loop : codeAny (model prog w) A (.compLoop (.SetComp elt [⟨.Name x px, iter, [], 0⟩] scope pos) 0 (.ref I) (.ref (I + 1)) (compEnvC scope cl (I + 2) env)) (compPost (model prog w) A E none Q (.ref (I + 1)) (I + 2)) { s₁ with heap := h₁, toks := s₁.toks + ([] : List (Str × Value)).length } := by
    refine codeAny_compLoop_set (fun k s' => ∃ h tk i oC m₂, s' = { s₁ with heap := h, toks := tk } ∧ i ≤ vs.length ∧ k = vs.length + 1 - i ∧ h.IsTupleIter I ax i ∧ NsObj oC m₂ ∧ h.get? (I + 2) = some oC ∧ h.get? (I + 1) = some (if i = 0 then S0 (setLed w) else S1 (setLed w)) ∧ Fr h₀ L h m ∧ News h₀ L h news) ?_ (vs.length + 1)
      ⟨h₁, _, 0, oC, _, rfl, Nat.zero_le _, rfl, ⟨_, k1 _ _ hI2, rfl, rfl⟩, hoC, eC, k1 _ _ hD2, F.keeps fun b o e => k1 b o (k2 b o e), N.grown fun b o e => k1 b o (k2 b o e)⟩
    rintro k s' ⟨h, tk, i, oC, m₂, rfl, hi, rfl, hit, hoC, eC, eD, F', N'⟩
    have htup : h.IsTuple ax vs.toArray := ⟨_, (N' _ hm).1, rfl, _, rfl⟩
    by_cases hlt : i < vs.length
    · refine W.item i _ _ _ (by simpa using hlt) ⟨hit, htup⟩ fun v h' tk' hv hst' hk' => ?_
      have hv : vs[i]? = some v := by simpa using hv
      have kI : ∀ b o, b ≠ I → h.get? b = some o → h'.get? b = some o := fun b o hb e => hk' b o (fun q => hb (List.mem_singleton.mp q)) e
      have F₁ : Fr h₀ L h' m := ⟨F'.ns.at' fun o e => kI L o hLI e, fun b o e => kI b o (fun q => by rw [q, hI0] at e; cases e) (F'.keep b o e), F'.above⟩
      have N₁ : News h₀ L h' news := fun p hp => ⟨kI _ _ (Nat.ne_of_lt (ltN p hp)) (N' p hp).1, (N' p hp).2⟩
      refine wpAny_assign_Name (wpAny_storeName_local (lookup_relabel_local hx) (hoC.ns (kI _ _ ne2 eC)) (fun h₂ hn₂ hs₂ => ?_) (by simp [compEnvC, relabel, hkind]))
      have hs₂ : Heap.SameBut (I + 2) h' h₂ := hs₂
      obtain ⟨oC', eC', hoC'⟩ := ns_obj hn₂
      have eC' : h₂.get? (I + 2) = some oC' := eC'
      have F₂ : Fr h₀ L h₂ m := F₁.change hs₂ (Ne.symm hL2) hI2'
      have N₂ : News h₀ L h₂ news := fun p hp => ⟨hs₂.extBut _ _ (Nat.ne_of_lt (Nat.lt_succ_of_lt (Nat.lt_succ_of_lt (ltN p hp)))) (N₁ p hp).1, (N₁ p hp).2⟩
      obtain ⟨oI, eI, hcI⟩ := hst'.1
      have eI₂ : h₂.get? I = some oI := hs₂.extBut _ _ (Ne.symm ne2) eI
      have eD₂ : h₂.get? (I + 1) = some (if i = 0 then S0 (setLed w) else S1 (setLed w)) := hs₂.extBut _ _ (Ne.symm ne3) (kI _ _ ne1 eD)
      have NN : News h₀ L h₂ ((I, oI) :: (I + 2, oC') :: (I + 1, if i = 0 then S0 (setLed w) else S1 (setLed w)) :: news) := fun p hp => by
        rcases List.mem_cons.mp hp with rfl | hp
        · exact ⟨eI₂, Ne.symm hLI, hI0⟩
        · rcases List.mem_cons.mp hp with rfl | hp
          · exact ⟨eC', Ne.symm hL2, hI2'⟩
          · rcases List.mem_cons.mp hp with rfl | hp
            · exact ⟨eD₂, Ne.symm hL1, hI1⟩
            · exact N₂ p hp
      refine wpAny_mono (turn i v I oI (I + 2) oC' _ (I + 1) _ h₂ _ (notedBy (model prog w) A (compEnvC scope cl (I + 2) env) fun e s' => compPost (model prog w) A E none Q (.ref (I + 1)) (I + 2) (.error e) s') hv hoC' (by simp) F₂ NN) (fun y s₄ h₄ => ?_) fun _ _ e => e
      obtain ⟨rfl, tk₄, rfl⟩ := h₄
      have done : ∀ h₅ tk₅, (∀ b o, b ≠ I + 1 → h₂.get? b = some o → h₅.get? b = some o) → h₅.get? (I + 1) = some (S1 (setLed w)) →
          ∃ q, q < vs.length + 1 - i ∧ ∃ h tk i oC m₂, ({ s₁ with heap := h₅, toks := tk₅ } : Shared) = { s₁ with heap := h, toks := tk } ∧ i ≤ vs.length ∧ q = vs.length + 1 - i ∧ h.IsTupleIter I ax i ∧ NsObj oC m₂ ∧ h.get? (I + 2) = some oC ∧ h.get? (I + 1) = some (if i = 0 then S0 (setLed w) else S1 (setLed w)) ∧ Fr h₀ L h m ∧ News h₀ L h news := by
        intro h₅ tk₅ k₅ e₅
        refine ⟨vs.length + 1 - (i + 1), by omega, h₅, tk₅, i + 1, oC', _, rfl, hlt, rfl, ⟨oI, k₅ _ _ (Ne.symm ne1) eI₂, hcI⟩, hoC', k₅ _ _ ne3 eC', by rw [if_neg (Nat.succ_ne_zero i)]; exact e₅, ?_, ?_⟩
        · exact ⟨F₂.ns.at' fun o e => k₅ L o hL1 e, fun b o e => k₅ b o (fun q => by rw [q, hI1] at e; cases e) (F₂.keep b o e), F₂.above⟩
        · exact fun p hp => ⟨k₅ _ _ (Nat.ne_of_lt (Nat.lt_succ_of_lt (ltN p hp))) (N₂ p hp).1, (N₂ p hp).2⟩
      by_cases hi0 : i = 0
      · rw [if_pos hi0] at eD₂
        refine add_first (s := { s₁ with heap := h₂, toks := tk₄ }) eD₂ fun h₅ tk₅ hs₅ e₅ => done h₅ tk₅ (fun b o hb e => hs₅.extBut b o hb e) e₅
      · rw [if_neg hi0] at eD₂
        exact add_again (s := { s₁ with heap := h₂, toks := tk₄ }) eD₂ fun tk₅ => done h₂ tk₅ (fun b o _ e => e) eD₂
    · obtain rfl : i = vs.length := Nat.le_antisymm hi (Nat.not_lt.mp hlt)
      refine W.done _ _ _ (by rw [List.size_toArray]; exact ⟨hit, htup⟩) fun h' tk' hk' => ?_
      have kI : ∀ b o, b ≠ I → h.get? b = some o → h'.get? b = some o := fun b o hb e => hk' b o (fun q => hb (List.mem_singleton.mp q)) e
      rw [if_neg (Nat.ne_of_gt h0)] at eD
      refine ⟨m₂, hoC.ns (kI _ _ ne2 eC), fun h'' hs'' => ?_⟩
      have hs'' : Heap.SameBut (I + 2) h' h'' := hs''
      have k'' : ∀ b o, b ≠ I → b ≠ I + 2 → h.get? b = some o → h''.get? b = some o := fun b o hb hb2 e => hs''.extBut b o hb2 (kI b o hb e)
      refine fin (I + 1) h'' tk' ⟨F'.ns.at' fun o e => k'' L o hLI hL2 e, fun b o e => k'' b o (fun q => by rw [q, hI0] at e; cases e) (fun q => by rw [q, hI2'] at e; cases e) (F'.keep b o e), F'.above⟩ (fun p hp => ?_) fun p hp => Nat.lt_succ_of_lt (ltN p hp)
      rcases List.mem_cons.mp hp with rfl | hp
      · exact ⟨k'' _ _ ne1 (Ne.symm ne3) eD, Ne.symm hL1, hI1⟩
      · exact ⟨k'' _ _ (Nat.ne_of_lt (ltN p hp)) (Nat.ne_of_lt (Nat.lt_succ_of_lt (Nat.lt_succ_of_lt (ltN p hp)))) (N' p hp).1, (N' p hp).2⟩
  exact codeAny_compStart_set loop (W.self 0 _ _ _ ⟨⟨_, k1 _ _ hI2, rfl, rfl⟩, ⟨_, k1 _ _ (k2 _ _ (N _ hm).1), rfl, _, rfl⟩⟩ loop)
  run_tac Mine.shrink
end

section
variable {prog : Program} {w : World} {A : Around} {E : Value → Shared → Prop} {s : Shared} {h₀ : Heap} {L a : Addr} {m : Str → Option Value} {env : Env} {news : List (Addr × Obj)}
theorem assign_set {x : Str} {px pos : Pos} {x1} {Q : Unit → Shared → Prop} (hh : A.handled = none) (F : Fr h₀ L s.heap m) (N : News h₀ L s.heap news) (hm : (a, S1 (setLed w)) ∈ news)
    (h : ∀ h', Fr h₀ L h' m → News h₀ L h' news → wpAny (model prog w) A (assign (.Name x px) env (.bool true)) Q E { s with heap := h' }) :
    wpAny (model prog w) A (assign (.Tuple [.Name x px] x1 pos) env (.ref a)) Q E s := by
  show wpAny _ _ (standAt pos >>= fun _ => unpack (.ref a) [(false, assign (.Name x px) env)]) _ _ _
  exact wpAny_bind (wpAny_standAt (unpack_set hh (N.get hm) fun h' g => h h' (fr_grow F g) (news_grow N g)))
end
theorem starts_path (ws : List Str) : Txt.startswith (pathOf ws) (Str.ofString "/") = true := by
  run_tac Mine.mark
  unfold Txt.startswith
  rw [Bool.and_eq_true]
  have hl : 1 ≤ (pathOf ws).length := by unfold pathOf; rw [Str.length_append, slash_len]; omega
  refine ⟨by rw [slash_len]; simpa using hl, ?_⟩
  rw [StrLaws.subAt_eq, beq_iff_eq, slash_len]
  show ((cs (pathOf ws)).drop 0).take 1 = cs (Str.ofString "/")
  rw [pathOf_cs, slash_cs]; rfl
  run_tac Mine.shrink
end Mine
namespace Mine
open PyProof.Rows.LCg PySem.SeqAt
open AutoSeq1 (wpAny_loadPart')
open MeetsSeq MeetsSeq2 MeetsSeq3
def ltRows : List Str → List Str → Bool
  | [], [] => false
  | [], _ :: _ => true
  | _ :: _, [] => false
  | x :: xs, y :: ys => if x == y then ltRows xs ys else decide (x.cps.toList < y.cps.toList)
theorem strs_at {its : Array Value} {xs : List Str} (h : StrsAre its.toList xs) {i : Nat} {x : Str} (e : xs[i]? = some x) : ∃ t, its[i]? = some (.str x t) := by
  obtain ⟨t, q⟩ := StrsAre.get h i x e
  exact ⟨t, by rw [← Array.getElem?_toList]; exact q⟩
def gtRows (a b : List Str) : Bool := ltRows b a
theorem lt_loopAt (l b : Addr) (items items2 : Array Value) (n n2 : Nat) (dd dd2 : Option Addr) (sl sl2 : Array (Option Value)) (xs ys : List Str) (h1 : StrsAre items.toList xs) (h2 : StrsAre items2.toList ys) (k : Nat) :
    ∀ i : Nat, items.size - i = k → Meets (Builtin.«list.__eq__.loop» ⟨[.ref l, .ref b, rawInt i, rawInt 0], []⟩)
      (fun A R s => s.heap.get? l = some { cls := .type "list", dict := dd, data := .seq items n, slots := sl } ∧ s.heap.get? b = some { cls := .type "list", dict := dd2, data := .seq items2 n2, slots := sl2 } ∧ i ≤ items.size ∧ i ≤ items2.size ∧
        R (.ok (.ret (.bool (ltRows (xs.drop i) (ys.drop i))))) s) := by
  run_tac Mine.mark
  have e1 := strs_size h1
  have e2 := strs_size h2
  induction k with
  | zero =>
    intro i hk prog w A R s h
    obtain ⟨hp, g, d, tk, os⟩ := s; obtain ⟨hl, hb, hi1', hi2', h⟩ := h
    have hi1 : items[((i : Nat) : Int).toNat]? = none := by simp; omega
    have hd : xs.drop i = [] := List.drop_eq_nil_of_le (by omega)
    have hii : i = items.size := by omega
    wp_walk using wpAny_loadPart' hl, wpAny_loadPart' hb
    rw [hi1]
    wp_walk using wpAny_loadPart' hl, wpAny_loadPart' hb
    show R (.ok (.ret (.bool (decide (items.size < items2.size))))) _
    have e : decide (items.size < items2.size) = ltRows (xs.drop i) (ys.drop i) := by
      rw [hd]
      cases hy : ys.drop i with
      | nil => have := congrArg List.length hy; rw [List.length_drop] at this; simp only [List.length_nil] at this; simp only [ltRows, ltRows, decide_eq_false_iff_not]; omega
      | cons y r => have := congrArg List.length hy; rw [List.length_drop] at this; simp only [List.length_cons] at this; simp only [ltRows, ltRows, decide_eq_true_iff, decide_eq_false_iff_not]; omega
    rw [e]; exact h
  | succ k ih =>
    intro i hk prog w A R s h
    obtain ⟨hp, g, d, tk, os⟩ := s; obtain ⟨hl, hb, hi1', hi2', h⟩ := h
    have hlt : i < xs.length := by omega
    obtain ⟨t, hx⟩ := strs_at h1 (List.getElem?_eq_getElem hlt)
    have hi1 : items[((i : Nat) : Int).toNat]? = some (.str xs[i] t) := by simpa using hx
    have hd : xs.drop i = xs[i] :: xs.drop (i + 1) := List.drop_eq_getElem_cons hlt
    have hc : ((i : Int) + 1) = ((i + 1 : Nat) : Int) := by push_cast; rfl
    by_cases hlt2 : i < ys.length
    · obtain ⟨u, hy⟩ := strs_at h2 (List.getElem?_eq_getElem hlt2)
      have hi2 : items2[((i : Nat) : Int).toNat]? = some (.str ys[i] u) := by simpa using hy
      have hd2 : ys.drop i = ys[i] :: ys.drop (i + 1) := List.drop_eq_getElem_cons hlt2
      rw [hd, hd2] at h
      wp_walk using wpAny_loadPart' hl, wpAny_loadPart' hb
      rw [hi1, hi2]
      refine wpAny_bind (EqAt.str_str xs[i] t ys[i] u prog w _ _ ?_)
      cases hb' : (xs[i] == ys[i]) with
      | true =>
        have he : xs[i] = ys[i] := eq_of_beq hb'
        wp_walk
        rw [hc]
        exact ⟨plainId_quiet plain_eq_loop _, codeAny_builtin entry_eq_loop (by
          rw [Around.under_plainId plain_eq_loop _]
          exact ih (i + 1) (by omega) prog w A R _ ⟨hl, hb, by omega, by omega, by
            have e : ltRows (xs[i] :: xs.drop (i + 1)) (ys[i] :: ys.drop (i + 1)) = ltRows (xs.drop (i + 1)) (ys.drop (i + 1)) := by simp only [ltRows, ltRows, he, beq_self_eq_true, if_true]
            rw [e] at h; exact h⟩)⟩
      | false =>
        wp_walk using wpAny_loadPart' hl, wpAny_loadPart' hb
        rw [hi1, hi2]
        dsimp only
        refine wpAny_bind (lt_str (x := xs[i]) (y := ys[i]) (wpAny_pure ?_))
        have hb2 : (ys[i] == xs[i]) = false := by
          rw [beq_eq_false_iff_ne] at hb' ⊢; exact Ne.symm hb'
        have e : ltRows (xs[i] :: xs.drop (i + 1)) (ys[i] :: ys.drop (i + 1)) = decide (xs[i].cps.toList < ys[i].cps.toList) := by simp only [ltRows, ltRows, hb', hb2, Bool.false_eq_true, if_false]
        rw [e] at h; exact h
    · have hi2 : items2[((i : Nat) : Int).toNat]? = none := by simp; omega
      have hd2 : ys.drop i = [] := List.drop_eq_nil_of_le (by omega)
      wp_walk using wpAny_loadPart' hl, wpAny_loadPart' hb
      rw [hi1, hi2]
      wp_walk using wpAny_loadPart' hl, wpAny_loadPart' hb
      show R (.ok (.ret (.bool (decide (items.size < items2.size))))) _
      have e : decide (items.size < items2.size) = ltRows (xs.drop i) (ys.drop i) := by
        rw [hd, hd2]; simp only [ltRows, ltRows, decide_eq_true_iff, decide_eq_false_iff_not]; omega
      rw [e]; exact h
  run_tac Mine.shrink
theorem list_ltAt (l b : Addr) (items items2 : Array Value) (n n2 : Nat) (dd dd2 : Option Addr) (sl sl2 : Array (Option Value)) (xs ys : List Str) (h1 : StrsAre items.toList xs) (h2 : StrsAre items2.toList ys) :
    Meets (Builtin.«list.__lt__» ⟨[.ref l, .ref b], []⟩)
      (fun _ R s => s.heap.get? l = some { cls := .type "list", dict := dd, data := .seq items n, slots := sl } ∧ s.heap.get? b = some { cls := .type "list", dict := dd2, data := .seq items2 n2, slots := sl2 } ∧
        R (.ok (.ret (.bool (ltRows xs ys)))) s) := by
  run_tac Mine.mark
  intro prog w A R s h
  obtain ⟨hp, g, d, tk, os⟩ := s; obtain ⟨hl, hb, h⟩ := h
  have f3 := AutoSeq1.sub_list_list
  wp_walk using wpAny_loadPart' hl, wpAny_loadPart' hb
  exact ⟨plainId_quiet plain_eq_loop _, codeAny_builtin entry_eq_loop (by
    rw [Around.under_plainId plain_eq_loop _]
    exact lt_loopAt l b items items2 n n2 dd dd2 sl sl2 xs ys h1 h2 _ 0 rfl prog w A R _ ⟨hl, hb, Nat.zero_le _, Nat.zero_le _, h⟩)⟩
  run_tac Mine.shrink
theorem rc_lt_lists {prog : Program} {w : World} {A : Around} {E : Value → Shared → Prop} {s : Shared} {l b : Addr} {items items2 : Array Value} {xs ys : List Str} {Q : Value → Shared → Prop} (hl : s.heap.IsList l items) (hb : s.heap.IsList b items2) (h1 : StrsAre items.toList xs) (h2 : StrsAre items2.toList ys) (hu : A.units < cLine)
    (h : Q (.bool (ltRows xs ys)) s) : wpAny (model prog w) A (richCompare .Lt (.ref l) (.ref b)) Q E s := by
  run_tac Mine.mark
  obtain ⟨⟨cls, dd, data, sl⟩, ho, hc, n, hd⟩ := id hl
  obtain ⟨⟨cls2, dd2, data2, sl2⟩, ho2, hc2, n2, hd2⟩ := id hb
  simp only at hc hd hc2 hd2
  subst hc hd hc2 hd2
  exact richCompare_meets_room (op := .Lt) ⟨_, ho, rfl⟩ ⟨_, ho2, rfl⟩ F.slot_list_lt F.entry_list_lt (F.args_list_lt_2 _ _) (list_ltAt l b items items2 n n2 dd dd2 sl sl2 xs ys h1 h2)
    ⟨ho, ho2, show Value.bool (ltRows xs ys) ≠ Value.notImplemented ∧ Q (.bool (ltRows xs ys)) s from ⟨(fun x => nomatch x), h⟩⟩ hu
  run_tac Mine.shrink
theorem gt_loopAt (l b : Addr) (items items2 : Array Value) (n n2 : Nat) (dd dd2 : Option Addr) (sl sl2 : Array (Option Value)) (xs ys : List Str) (h1 : StrsAre items.toList xs) (h2 : StrsAre items2.toList ys) (k : Nat) :
    ∀ i : Nat, items.size - i = k → Meets (Builtin.«list.__eq__.loop» ⟨[.ref l, .ref b, rawInt i, rawInt 4], []⟩)
      (fun A R s => s.heap.get? l = some { cls := .type "list", dict := dd, data := .seq items n, slots := sl } ∧ s.heap.get? b = some { cls := .type "list", dict := dd2, data := .seq items2 n2, slots := sl2 } ∧ i ≤ items.size ∧ i ≤ items2.size ∧
        R (.ok (.ret (.bool (gtRows (xs.drop i) (ys.drop i))))) s) := by
  run_tac Mine.mark
  have e1 := strs_size h1
  have e2 := strs_size h2
  induction k with
  | zero =>
    intro i hk prog w A R s h
    obtain ⟨hp, g, d, tk, os⟩ := s; obtain ⟨hl, hb, hi1', hi2', h⟩ := h
    have hi1 : items[((i : Nat) : Int).toNat]? = none := by simp; omega
    have hd : xs.drop i = [] := List.drop_eq_nil_of_le (by omega)
    have hii : i = items.size := by omega
    wp_walk using wpAny_loadPart' hl, wpAny_loadPart' hb
    rw [hi1]
    wp_walk using wpAny_loadPart' hl, wpAny_loadPart' hb
    show R (.ok (.ret (.bool (decide (items.size > items2.size))))) _
    have e : decide (items.size > items2.size) = gtRows (xs.drop i) (ys.drop i) := by
      rw [hd]
      cases hy : ys.drop i with
      | nil => have := congrArg List.length hy; rw [List.length_drop] at this; simp only [List.length_nil] at this; simp only [gtRows, ltRows, decide_eq_false_iff_not]; omega
      | cons y r => have := congrArg List.length hy; rw [List.length_drop] at this; simp only [List.length_cons] at this; simp only [gtRows, ltRows, decide_eq_true_iff, decide_eq_false_iff_not]; omega
    rw [e]; exact h
  | succ k ih =>
    intro i hk prog w A R s h
    obtain ⟨hp, g, d, tk, os⟩ := s; obtain ⟨hl, hb, hi1', hi2', h⟩ := h
    have hlt : i < xs.length := by omega
    obtain ⟨t, hx⟩ := strs_at h1 (List.getElem?_eq_getElem hlt)
    have hi1 : items[((i : Nat) : Int).toNat]? = some (.str xs[i] t) := by simpa using hx
    have hd : xs.drop i = xs[i] :: xs.drop (i + 1) := List.drop_eq_getElem_cons hlt
    have hc : ((i : Int) + 1) = ((i + 1 : Nat) : Int) := by push_cast; rfl
    by_cases hlt2 : i < ys.length
    · obtain ⟨u, hy⟩ := strs_at h2 (List.getElem?_eq_getElem hlt2)
      have hi2 : items2[((i : Nat) : Int).toNat]? = some (.str ys[i] u) := by simpa using hy
      have hd2 : ys.drop i = ys[i] :: ys.drop (i + 1) := List.drop_eq_getElem_cons hlt2
      rw [hd, hd2] at h
      wp_walk using wpAny_loadPart' hl, wpAny_loadPart' hb
      rw [hi1, hi2]
      refine wpAny_bind (EqAt.str_str xs[i] t ys[i] u prog w _ _ ?_)
      cases hb' : (xs[i] == ys[i]) with
      | true =>
        have he : xs[i] = ys[i] := eq_of_beq hb'
        wp_walk
        rw [hc]
        exact ⟨plainId_quiet plain_eq_loop _, codeAny_builtin entry_eq_loop (by
          rw [Around.under_plainId plain_eq_loop _]
          exact ih (i + 1) (by omega) prog w A R _ ⟨hl, hb, by omega, by omega, by
            have e : gtRows (xs[i] :: xs.drop (i + 1)) (ys[i] :: ys.drop (i + 1)) = gtRows (xs.drop (i + 1)) (ys.drop (i + 1)) := by simp only [gtRows, ltRows, he, beq_self_eq_true, if_true]
            rw [e] at h; exact h⟩)⟩
      | false =>
        wp_walk using wpAny_loadPart' hl, wpAny_loadPart' hb
        rw [hi1, hi2]
        dsimp only
        refine wpAny_bind (P.gt_str (x := xs[i]) (y := ys[i]) (wpAny_pure ?_))
        have hb2 : (ys[i] == xs[i]) = false := by
          rw [beq_eq_false_iff_ne] at hb' ⊢; exact Ne.symm hb'
        have e : gtRows (xs[i] :: xs.drop (i + 1)) (ys[i] :: ys.drop (i + 1)) = decide (ys[i].cps.toList < xs[i].cps.toList) := by simp only [gtRows, ltRows, hb', hb2, Bool.false_eq_true, if_false]
        rw [e] at h; exact h
    · have hi2 : items2[((i : Nat) : Int).toNat]? = none := by simp; omega
      have hd2 : ys.drop i = [] := List.drop_eq_nil_of_le (by omega)
      wp_walk using wpAny_loadPart' hl, wpAny_loadPart' hb
      rw [hi1, hi2]
      wp_walk using wpAny_loadPart' hl, wpAny_loadPart' hb
      show R (.ok (.ret (.bool (decide (items.size > items2.size))))) _
      have e : decide (items.size > items2.size) = gtRows (xs.drop i) (ys.drop i) := by
        rw [hd, hd2]; simp only [gtRows, ltRows, decide_eq_true_iff, decide_eq_false_iff_not]; omega
      rw [e]; exact h
  run_tac Mine.shrink
theorem list_gtAt (l b : Addr) (items items2 : Array Value) (n n2 : Nat) (dd dd2 : Option Addr) (sl sl2 : Array (Option Value)) (xs ys : List Str) (h1 : StrsAre items.toList xs) (h2 : StrsAre items2.toList ys) :
    Meets (Builtin.«list.__gt__» ⟨[.ref l, .ref b], []⟩)
      (fun _ R s => s.heap.get? l = some { cls := .type "list", dict := dd, data := .seq items n, slots := sl } ∧ s.heap.get? b = some { cls := .type "list", dict := dd2, data := .seq items2 n2, slots := sl2 } ∧
        R (.ok (.ret (.bool (gtRows xs ys)))) s) := by
  run_tac Mine.mark
  intro prog w A R s h
  obtain ⟨hp, g, d, tk, os⟩ := s; obtain ⟨hl, hb, h⟩ := h
  have f3 := AutoSeq1.sub_list_list
  wp_walk using wpAny_loadPart' hl, wpAny_loadPart' hb
  exact ⟨plainId_quiet plain_eq_loop _, codeAny_builtin entry_eq_loop (by
    rw [Around.under_plainId plain_eq_loop _]
    exact gt_loopAt l b items items2 n n2 dd dd2 sl sl2 xs ys h1 h2 _ 0 rfl prog w A R _ ⟨hl, hb, Nat.zero_le _, Nat.zero_le _, h⟩)⟩
  run_tac Mine.shrink
theorem rc_gt_lists {prog : Program} {w : World} {A : Around} {E : Value → Shared → Prop} {s : Shared} {l b : Addr} {items items2 : Array Value} {xs ys : List Str} {Q : Value → Shared → Prop} (hl : s.heap.IsList l items) (hb : s.heap.IsList b items2) (h1 : StrsAre items.toList xs) (h2 : StrsAre items2.toList ys) (hu : A.units < cLine)
    (h : Q (.bool (gtRows xs ys)) s) : wpAny (model prog w) A (richCompare .Gt (.ref l) (.ref b)) Q E s := by
  run_tac Mine.mark
  obtain ⟨⟨cls, dd, data, sl⟩, ho, hc, n, hd⟩ := id hl
  obtain ⟨⟨cls2, dd2, data2, sl2⟩, ho2, hc2, n2, hd2⟩ := id hb
  simp only at hc hd hc2 hd2
  subst hc hd hc2 hd2
  exact richCompare_meets_room (op := .Gt) ⟨_, ho, rfl⟩ ⟨_, ho2, rfl⟩ F.slot_list_gt F.entry_list_gt (F.args_list_gt_2 _ _) (list_gtAt l b items items2 n n2 dd dd2 sl sl2 xs ys h1 h2)
    ⟨ho, ho2, show Value.bool (gtRows xs ys) ≠ Value.notImplemented ∧ Q (.bool (gtRows xs ys)) s from ⟨(fun x => nomatch x), h⟩⟩ hu
  run_tac Mine.shrink
end Mine
namespace Mine
/-- a comparison that may read the heap -/
def CmpHeap (prog : Program) (w : World) (A : Around) (op : CmpOp) (P : Nat → Value → Prop) (bt : Nat → Nat → Bool) (OK : Heap → Prop) : Prop :=
  ∀ i j vi vj (s : Shared) (Q : Value → Shared → Prop) (E : Value → Shared → Prop), OK s.heap → P i vi → P j vj → Q (.bool (bt i j)) s → wpAny (model prog w) A (richCompare op vi vj) Q E s
theorem codeAny_min_heap {prog : Program} {w : World} {A : Around} {R : Result → Shared → Prop} {I S : Addr} {fp wr : List Addr} {n : Nat} {P : Nat → Value → Prop} {St : Nat → Heap → Prop} (W : Walks prog w A.in1 I fp wr n P St) (bt : Nat → Nat → Bool) (OK : Heap → Prop)
    (hOK : ∀ h h', OK h → (∀ b o, b ∉ wr → b ≠ S → h.get? b = some o → h'.get? b = some o) → OK h') (hcmp : CmpHeap prog w A.in1 .Lt P bt OK) (hSf : S ∉ fp) :
    ∀ (k j : Nat) (s : Shared) (vb : Value) (c : Nat), n - (j + 1) = k → j + 1 ≤ n → St (j + 1) s.heap → P (argBest bt j) vb → OK s.heap → s.heap.get? S = some { cls := .type "list", dict := none, data := .seq #[vb, vb] c, slots := #[] } →
    (∀ v h' tk, P (argBest bt (n - 1)) v → (∀ b o, b ∉ wr → b ≠ S → s.heap.get? b = some o → h'.get? b = some o) → R (.ok (.ret v)) { s with heap := h', toks := tk }) →
    codeAny (model prog w) A (.builtin "min.loop" ⟨[.ref I, .none, .ref S], []⟩) R s := by
  run_tac Mine.mark
  have hSw : S ∉ wr := fun h => hSf (W.sub _ h)
  have hname : (toString "min" ++ toString ".loop" : String) = "min.loop" := by decide
  intro k
  induction k with
  | zero =>
    intro j s vb c hk hj hst hPb hok hS hR
    have hin : j + 1 = n := by omega
    refine codeAny_builtin F.entry_min_loop ?_
    rw [Around.under_plainId F.plain_min_loop _]
    show wpAny _ A.in1 (seqItems? (.ref S) >>= _) _ _ s
    refine wpAny_bind (wpAny_seqItems hS rfl ?_)
    show wpAny _ A.in1 (tryCatch (pyNext (.ref I)) _ >>= _) _ _ s
    refine wpAny_bind (wpAny_tryCatch (W.done s _ _ (hin ▸ hst) fun h' tk hk' => ?_))
    have hS' := hk' S _ hSw hS
    show wpAny _ A.in1 (updateSeq S (fun _ => #[]) >>= _) _ _ _
    refine wpAny_bind (wpAny_updateSeq hS' rfl (wpAny_bind (wpAny_letGo (wpAny_pure ?_))))
    exact hR vb _ tk (by rw [← hin]; exact hPb) fun b o hbw hbS e => (Heap.get?_update_other _ _ (Ne.symm hbS)).trans (hk' b o hbw e)
  | succ k ih =>
    intro j s vb c hk hj hst hPb hok hS hR
    refine codeAny_builtin F.entry_min_loop ?_
    rw [Around.under_plainId F.plain_min_loop _]
    show wpAny _ A.in1 (seqItems? (.ref S) >>= _) _ _ s
    refine wpAny_bind (wpAny_seqItems hS rfl ?_)
    show wpAny _ A.in1 (tryCatch (pyNext (.ref I)) _ >>= _) _ _ s
    refine wpAny_bind (wpAny_tryCatch (W.item (j + 1) s _ _ (by omega) hst fun v h' tk hP hst' hk' => ?_))
    have hS' := hk' S _ hSw hS
    have hok' : OK h' := hOK _ _ hok fun b o hb _ e => hk' b o hb e
    show wpAny _ A.in1 (tryCatch (holding [v, v] (richCompare .Lt v vb >>= _)) _ >>= _) _ _ _
    refine wpAny_bind (wpAny_tryCatch (wpAny_holding (wpAny_bind (hcmp (j + 1) (argBest bt j) v vb _ _ _ hok' hP hPb ?_))))
    refine wpAny_bind (wpAny_holding (wpAny_truthy_bool (wpAny_bind (wpAny_letGo (wpAny_pure ?_)))))
    cases hb : bt (j + 1) (argBest bt j) with
    | true =>
      simp only [if_true]
      refine wpAny_bind (wpAny_updateSeq hS' rfl (wpAny_bind (wpAny_letGo ?_)))
      rw [hname]
      have kU : ∀ b o, b ≠ S → h'.get? b = some o → (h'.update S (Obj.mapSeq fun _ => #[v, v])).get? b = some o := fun b o hbS e => (Heap.get?_update_other _ _ (Ne.symm hbS)).trans e
      refine wpAny_pure ⟨plainId_quiet F.plain_min_loop _, ih (j + 1) _ v _ (by omega) (by omega) (W.frame _ _ _ hst' fun b hbf o e => kU b o (fun q => hSf (q ▸ hbf)) e) (by simp only [argBest, hb, if_true]; exact hP) (hOK _ _ hok' fun b o _ hbS e => kU b o hbS e) (Heap.get?_update_self _ hS' rfl) fun v' h'' tk'' hP' hk'' => ?_⟩
      exact hR v' h'' tk'' hP' fun b o hbw hbS e => hk'' b o hbw hbS (kU b o hbS (hk' b o hbw e))
    | false =>
      simp only [Bool.false_eq_true, if_false]
      refine wpAny_bind (wpAny_letGo ?_)
      rw [hname]
      refine wpAny_pure ⟨plainId_quiet F.plain_min_loop _, ih (j + 1) _ vb c (by omega) (by omega) hst' (by simp only [argBest, hb, Bool.false_eq_true, if_false]; exact hPb) hok' hS' fun v' h'' tk'' hP' hk'' => ?_⟩
      exact hR v' h'' tk'' hP' fun b o hbw hbS e => hk'' b o hbw hbS (hk' b o hbw e)
  run_tac Mine.shrink
theorem call_min_list {prog : Program} {w : World} {A : Around} {E : Value → Shared → Prop} {s : Shared} {l : Addr} {its : Array Value} {Q : Value → Shared → Prop} (bt : Nat → Nat → Bool) (OK : Heap → Prop) (hh : A.handled = none) (hl : s.heap.IsList l its) (hn : 0 < its.size) (hok : OK s.heap)
    (hOK : ∀ h h', OK h → (∀ b o, b < s.heap.objs.size → h.get? b = some o → h'.get? b = some o) → OK h') (hcmp : CmpHeap prog w A.in1 .Lt (fun i v => its[i]? = some v) bt OK)
    (h : ∀ v h' tk, its[argBest bt (its.size - 1)]? = some v → Grow s.heap h' → Q v { s with heap := h', toks := tk }) : wpAny (model prog w) A (call (.builtin "min") [.ref l]) Q E s := by
  run_tac Mine.mark
  have hname : (toString "min" ++ toString ".loop" : String) = "min.loop" := by decide
  refine call_function_tree F.kind_min F.plain_min F.entry_min (F.args_min1 _) ?_
  show wpAny _ A.in1 (Builtin.Builtins.bindParams "min" ["key", "default"] 0 ⟨[], []⟩ >>= _) _ _ s
  refine wpAny_bind (wpAny_of_eq (show Builtin.Builtins.bindParams "min" ["key", "default"] 0 ⟨[], []⟩ = pure [none, none] from rfl) ?_)
  refine wpAny_bind (wpAny_pure ?_)
  refine wpAny_bind (wpAny_pyIter_list hl ?_)
  have hlt : l < s.heap.objs.size := by obtain ⟨_, e, _⟩ := hl; exact Heap.lt_size e
  refine wpAny_bind (wpAny_newObj_type ?_)
  rw [hname]
  have zI : (s.heap.push ({ cls := .type "list_iterator", data := .fields #[.ref l, .int 0 0] } : Obj)).objs.size = s.heap.objs.size + 1 := Heap.size_push ..
  generalize hS : (s.heap.push ({ cls := .type "list_iterator", data := .fields #[.ref l, .int 0 0] } : Obj)).objs.size = S at zI
  generalize hH : (s.heap.push ({ cls := .type "list_iterator", data := .fields #[.ref l, .int 0 0] } : Obj)).push { cls := .type "list", data := .seq ([] : List Value).toArray } = H
  have k0 : ∀ b o, s.heap.get? b = some o → H.get? b = some o := fun b o e => by rw [← hH]; exact Heap.get?_push_of_some _ (Heap.get?_push_of_some _ e)
  have hS0 : H.get? S = some { cls := .type "list", data := .seq ([] : List Value).toArray } := by rw [← hH, ← hS]; exact Heap.get?_push_size _ rfl
  have hI0 : H.IsListIter s.heap.objs.size l 0 := ⟨_, by rw [← hH]; exact Heap.get?_push_of_some _ (Heap.get?_push_size _ rfl), rfl, rfl⟩
  have hl0 : H.IsList l its := hl.at fun o e => k0 l o e
  have W := Walks.list (prog := prog) (w := w) (A := A.in1) hh s.heap.objs.size l (Nat.ne_of_lt hlt) its
  have nSI : S ≠ s.heap.objs.size := by rw [zI]; exact Nat.ne_of_gt (Nat.lt_succ_self _)
  have nSl : S ≠ l := by rw [zI]; exact Nat.ne_of_gt (Nat.lt_succ_of_lt hlt)
  have hSf : S ∉ [s.heap.objs.size, l] := fun hm => by
    rcases List.mem_cons.mp hm with e | hm
    · exact nSI e
    · exact nSl (List.mem_singleton.mp hm)
  have old : ∀ b, b < s.heap.objs.size → b ∉ [s.heap.objs.size] ∧ b ≠ S := fun b hb => ⟨fun hm => Nat.ne_of_lt hb (List.mem_singleton.mp hm), by rw [zI]; exact Nat.ne_of_lt (Nat.lt_succ_of_lt hb)⟩
  refine wpAny_pure ⟨plainId_quiet F.plain_min_loop _, codeAny_builtin F.entry_min_loop ?_⟩
  rw [Around.under_plainId F.plain_min_loop _]
  show wpAny _ A.in1 (seqItems? (.ref S) >>= _) _ _ _
  refine wpAny_bind (wpAny_seqItems hS0 rfl ?_)
  show wpAny _ A.in1 (tryCatch (pyNext (.ref s.heap.objs.size)) _ >>= _) _ _ _
  refine wpAny_bind (wpAny_tryCatch (W.item 0 _ _ _ hn ⟨hI0, hl0⟩ fun v h' tk hP hst' hk' => ?_))
  have hS' := hk' S _ (fun hm => nSI (List.mem_singleton.mp hm)) hS0
  show wpAny _ A.in1 (updateSeq S (fun _ => #[v, v]) >>= _) _ _ _
  refine wpAny_bind (wpAny_updateSeq hS' rfl ?_)
  rw [hname]
  have kU : ∀ b o, b ≠ S → h'.get? b = some o → (h'.update S (Obj.mapSeq fun _ => #[v, v])).get? b = some o := fun b o hbS e => (Heap.get?_update_other _ _ (Ne.symm hbS)).trans e
  refine wpAny_pure ⟨plainId_quiet F.plain_min_loop _, codeAny_min_heap W bt OK (fun h h' ho hk => hOK h h' ho fun b o hb e => hk b o (old b hb).1 (old b hb).2 e) hcmp hSf _ 0 _ v _ rfl hn (W.frame _ _ _ hst' fun b hbf o e => kU b o (fun q => hSf (q ▸ hbf)) e) hP
    (hOK _ _ (hOK s.heap h' hok fun b o hb e => hk' b o (old b hb).1 (k0 b o e)) fun b o hb e => kU b o (old b hb).2 e) (Heap.get?_update_self _ hS' rfl) fun v' h'' tk'' hP' hk'' => ?_⟩
  exact h v' h'' tk'' hP' fun b o e => by
    have hb := Heap.lt_size e
    exact hk'' b o (old b hb).1 (old b hb).2 (kU b o (old b hb).2 (hk' b o (old b hb).1 (k0 b o e)))
  run_tac Mine.shrink
theorem codeAny_max_heap {prog : Program} {w : World} {A : Around} {R : Result → Shared → Prop} {I S : Addr} {fp wr : List Addr} {n : Nat} {P : Nat → Value → Prop} {St : Nat → Heap → Prop} (W : Walks prog w A.in1 I fp wr n P St) (bt : Nat → Nat → Bool) (OK : Heap → Prop)
    (hOK : ∀ h h', OK h → (∀ b o, b ∉ wr → b ≠ S → h.get? b = some o → h'.get? b = some o) → OK h') (hcmp : CmpHeap prog w A.in1 .Gt P bt OK) (hSf : S ∉ fp) :
    ∀ (k j : Nat) (s : Shared) (vb : Value) (c : Nat), n - (j + 1) = k → j + 1 ≤ n → St (j + 1) s.heap → P (argBest bt j) vb → OK s.heap → s.heap.get? S = some { cls := .type "list", dict := none, data := .seq #[vb, vb] c, slots := #[] } →
    (∀ v h' tk, P (argBest bt (n - 1)) v → (∀ b o, b ∉ wr → b ≠ S → s.heap.get? b = some o → h'.get? b = some o) → R (.ok (.ret v)) { s with heap := h', toks := tk }) →
    codeAny (model prog w) A (.builtin "max.loop" ⟨[.ref I, .none, .ref S], []⟩) R s := by
  run_tac Mine.mark
  have hSw : S ∉ wr := fun h => hSf (W.sub _ h)
  have hname : (toString "max" ++ toString ".loop" : String) = "max.loop" := by decide
  intro k
  induction k with
  | zero =>
    intro j s vb c hk hj hst hPb hok hS hR
    have hin : j + 1 = n := by omega
    refine codeAny_builtin F.entry_max_loop ?_
    rw [Around.under_plainId F.plain_max_loop _]
    show wpAny _ A.in1 (seqItems? (.ref S) >>= _) _ _ s
    refine wpAny_bind (wpAny_seqItems hS rfl ?_)
    show wpAny _ A.in1 (tryCatch (pyNext (.ref I)) _ >>= _) _ _ s
    refine wpAny_bind (wpAny_tryCatch (W.done s _ _ (hin ▸ hst) fun h' tk hk' => ?_))
    have hS' := hk' S _ hSw hS
    show wpAny _ A.in1 (updateSeq S (fun _ => #[]) >>= _) _ _ _
    refine wpAny_bind (wpAny_updateSeq hS' rfl (wpAny_bind (wpAny_letGo (wpAny_pure ?_))))
    exact hR vb _ tk (by rw [← hin]; exact hPb) fun b o hbw hbS e => (Heap.get?_update_other _ _ (Ne.symm hbS)).trans (hk' b o hbw e)
  | succ k ih =>
    intro j s vb c hk hj hst hPb hok hS hR
    refine codeAny_builtin F.entry_max_loop ?_
    rw [Around.under_plainId F.plain_max_loop _]
    show wpAny _ A.in1 (seqItems? (.ref S) >>= _) _ _ s
    refine wpAny_bind (wpAny_seqItems hS rfl ?_)
    show wpAny _ A.in1 (tryCatch (pyNext (.ref I)) _ >>= _) _ _ s
    refine wpAny_bind (wpAny_tryCatch (W.item (j + 1) s _ _ (by omega) hst fun v h' tk hP hst' hk' => ?_))
    have hS' := hk' S _ hSw hS
    have hok' : OK h' := hOK _ _ hok fun b o hb _ e => hk' b o hb e
    show wpAny _ A.in1 (tryCatch (holding [v, v] (richCompare .Gt v vb >>= _)) _ >>= _) _ _ _
    refine wpAny_bind (wpAny_tryCatch (wpAny_holding (wpAny_bind (hcmp (j + 1) (argBest bt j) v vb _ _ _ hok' hP hPb ?_))))
    refine wpAny_bind (wpAny_holding (wpAny_truthy_bool (wpAny_bind (wpAny_letGo (wpAny_pure ?_)))))
    cases hb : bt (j + 1) (argBest bt j) with
    | true =>
      simp only [if_true]
      refine wpAny_bind (wpAny_updateSeq hS' rfl (wpAny_bind (wpAny_letGo ?_)))
      rw [hname]
      have kU : ∀ b o, b ≠ S → h'.get? b = some o → (h'.update S (Obj.mapSeq fun _ => #[v, v])).get? b = some o := fun b o hbS e => (Heap.get?_update_other _ _ (Ne.symm hbS)).trans e
      refine wpAny_pure ⟨plainId_quiet F.plain_max_loop _, ih (j + 1) _ v _ (by omega) (by omega) (W.frame _ _ _ hst' fun b hbf o e => kU b o (fun q => hSf (q ▸ hbf)) e) (by simp only [argBest, hb, if_true]; exact hP) (hOK _ _ hok' fun b o _ hbS e => kU b o hbS e) (Heap.get?_update_self _ hS' rfl) fun v' h'' tk'' hP' hk'' => ?_⟩
      exact hR v' h'' tk'' hP' fun b o hbw hbS e => hk'' b o hbw hbS (kU b o hbS (hk' b o hbw e))
    | false =>
      simp only [Bool.false_eq_true, if_false]
      refine wpAny_bind (wpAny_letGo ?_)
      rw [hname]
      refine wpAny_pure ⟨plainId_quiet F.plain_max_loop _, ih (j + 1) _ vb c (by omega) (by omega) hst' (by simp only [argBest, hb, Bool.false_eq_true, if_false]; exact hPb) hok' hS' fun v' h'' tk'' hP' hk'' => ?_⟩
      exact hR v' h'' tk'' hP' fun b o hbw hbS e => hk'' b o hbw hbS (hk' b o hbw e)
  run_tac Mine.shrink
theorem call_max_list {prog : Program} {w : World} {A : Around} {E : Value → Shared → Prop} {s : Shared} {l : Addr} {its : Array Value} {Q : Value → Shared → Prop} (bt : Nat → Nat → Bool) (OK : Heap → Prop) (hh : A.handled = none) (hl : s.heap.IsList l its) (hn : 0 < its.size) (hok : OK s.heap)
    (hOK : ∀ h h', OK h → (∀ b o, b < s.heap.objs.size → h.get? b = some o → h'.get? b = some o) → OK h') (hcmp : CmpHeap prog w A.in1 .Gt (fun i v => its[i]? = some v) bt OK)
    (h : ∀ v h' tk, its[argBest bt (its.size - 1)]? = some v → Grow s.heap h' → Q v { s with heap := h', toks := tk }) : wpAny (model prog w) A (call (.builtin "max") [.ref l]) Q E s := by
  run_tac Mine.mark
  have hname : (toString "max" ++ toString ".loop" : String) = "max.loop" := by decide
  refine call_function_tree F.kind_max F.plain_max F.entry_max (F.args_max1 _) ?_
  show wpAny _ A.in1 (Builtin.Builtins.bindParams "max" ["key", "default"] 0 ⟨[], []⟩ >>= _) _ _ s
  refine wpAny_bind (wpAny_of_eq (show Builtin.Builtins.bindParams "max" ["key", "default"] 0 ⟨[], []⟩ = pure [none, none] from rfl) ?_)
  refine wpAny_bind (wpAny_pure ?_)
  refine wpAny_bind (wpAny_pyIter_list hl ?_)
  have hlt : l < s.heap.objs.size := by obtain ⟨_, e, _⟩ := hl; exact Heap.lt_size e
  refine wpAny_bind (wpAny_newObj_type ?_)
  rw [hname]
  have zI : (s.heap.push ({ cls := .type "list_iterator", data := .fields #[.ref l, .int 0 0] } : Obj)).objs.size = s.heap.objs.size + 1 := Heap.size_push ..
  generalize hS : (s.heap.push ({ cls := .type "list_iterator", data := .fields #[.ref l, .int 0 0] } : Obj)).objs.size = S at zI
  generalize hH : (s.heap.push ({ cls := .type "list_iterator", data := .fields #[.ref l, .int 0 0] } : Obj)).push { cls := .type "list", data := .seq ([] : List Value).toArray } = H
  have k0 : ∀ b o, s.heap.get? b = some o → H.get? b = some o := fun b o e => by rw [← hH]; exact Heap.get?_push_of_some _ (Heap.get?_push_of_some _ e)
  have hS0 : H.get? S = some { cls := .type "list", data := .seq ([] : List Value).toArray } := by rw [← hH, ← hS]; exact Heap.get?_push_size _ rfl
  have hI0 : H.IsListIter s.heap.objs.size l 0 := ⟨_, by rw [← hH]; exact Heap.get?_push_of_some _ (Heap.get?_push_size _ rfl), rfl, rfl⟩
  have hl0 : H.IsList l its := hl.at fun o e => k0 l o e
  have W := Walks.list (prog := prog) (w := w) (A := A.in1) hh s.heap.objs.size l (Nat.ne_of_lt hlt) its
  have nSI : S ≠ s.heap.objs.size := by rw [zI]; exact Nat.ne_of_gt (Nat.lt_succ_self _)
  have nSl : S ≠ l := by rw [zI]; exact Nat.ne_of_gt (Nat.lt_succ_of_lt hlt)
  have hSf : S ∉ [s.heap.objs.size, l] := fun hm => by
    rcases List.mem_cons.mp hm with e | hm
    · exact nSI e
    · exact nSl (List.mem_singleton.mp hm)
  have old : ∀ b, b < s.heap.objs.size → b ∉ [s.heap.objs.size] ∧ b ≠ S := fun b hb => ⟨fun hm => Nat.ne_of_lt hb (List.mem_singleton.mp hm), by rw [zI]; exact Nat.ne_of_lt (Nat.lt_succ_of_lt hb)⟩
  refine wpAny_pure ⟨plainId_quiet F.plain_max_loop _, codeAny_builtin F.entry_max_loop ?_⟩
  rw [Around.under_plainId F.plain_max_loop _]
  show wpAny _ A.in1 (seqItems? (.ref S) >>= _) _ _ _
  refine wpAny_bind (wpAny_seqItems hS0 rfl ?_)
  show wpAny _ A.in1 (tryCatch (pyNext (.ref s.heap.objs.size)) _ >>= _) _ _ _
  refine wpAny_bind (wpAny_tryCatch (W.item 0 _ _ _ hn ⟨hI0, hl0⟩ fun v h' tk hP hst' hk' => ?_))
  have hS' := hk' S _ (fun hm => nSI (List.mem_singleton.mp hm)) hS0
  show wpAny _ A.in1 (updateSeq S (fun _ => #[v, v]) >>= _) _ _ _
  refine wpAny_bind (wpAny_updateSeq hS' rfl ?_)
  rw [hname]
  have kU : ∀ b o, b ≠ S → h'.get? b = some o → (h'.update S (Obj.mapSeq fun _ => #[v, v])).get? b = some o := fun b o hbS e => (Heap.get?_update_other _ _ (Ne.symm hbS)).trans e
  refine wpAny_pure ⟨plainId_quiet F.plain_max_loop _, codeAny_max_heap W bt OK (fun h h' ho hk => hOK h h' ho fun b o hb e => hk b o (old b hb).1 (old b hb).2 e) hcmp hSf _ 0 _ v _ rfl hn (W.frame _ _ _ hst' fun b hbf o e => kU b o (fun q => hSf (q ▸ hbf)) e) hP
    (hOK _ _ (hOK s.heap h' hok fun b o hb e => hk' b o (old b hb).1 (k0 b o e)) fun b o hb e => kU b o (old b hb).2 e) (Heap.get?_update_self _ hS' rfl) fun v' h'' tk'' hP' hk'' => ?_⟩
  exact h v' h'' tk'' hP' fun b o e => by
    have hb := Heap.lt_size e
    exact hk'' b o (old b hb).1 (old b hb).2 (kU b o (old b hb).2 (hk' b o (old b hb).1 (k0 b o e)))
  run_tac Mine.shrink
end Mine
namespace Mine
theorem ltRows_trans : ∀ {a b c : List Str}, ltRows a b = true → ltRows b c = true → ltRows a c = true
  | [], [], _, h, _ => by simp [ltRows] at h
  | [], _ :: _, [], _, h => by simp [ltRows] at h
  | [], _ :: _, _ :: _, _, _ => by simp [ltRows]
  | _ :: _, [], _, h, _ => by simp [ltRows] at h
  | _ :: _, _ :: _, [], _, h => by simp [ltRows] at h
  | x :: a, y :: b, z :: c, h, k => by
    simp only [ltRows] at h k ⊢
    by_cases e1 : x = y
    · subst e1
      rw [beq_self_eq_true, if_pos rfl] at h
      by_cases e2 : x = z
      · subst e2
        rw [beq_self_eq_true, if_pos rfl] at k ⊢
        exact ltRows_trans h k
      · rw [if_neg (by simpa using e2)] at k ⊢
        exact k
    · rw [if_neg (by simpa using e1), decide_eq_true_eq] at h
      by_cases e2 : y = z
      · subst e2
        rw [if_neg (by simpa using e1), decide_eq_true_eq]
        exact h
      · rw [if_neg (by simpa using e2), decide_eq_true_eq] at k
        have t := List.lt_trans h k
        have e3 : x ≠ z := by rintro rfl; exact List.lt_irrefl _ t
        rw [if_neg (by simpa using e3), decide_eq_true_eq]
        exact t
theorem str_tri {x y : Str} (h : ¬ x.cps.toList < y.cps.toList) (k : ¬ y.cps.toList < x.cps.toList) : x = y := by
  have h' := List.not_lt.mp h
  have k' := List.not_lt.mp k
  exact cs_inj (List.le_antisymm k' h')
/-- what stands between two rows that begin alike begins so too -/
theorem between : ∀ (k : Nat) {a r b : List Str}, ltRows r a = false → ltRows b r = false → a.take k = b.take k → k ≤ a.length → r.take k = a.take k
  | 0, _, _, _, _, _, _, _ => by simp
  | k + 1, [], _, _, _, _, _, h => by simp at h
  | k + 1, x :: a, r, [], _, _, e, _ => by simp at e
  | k + 1, x :: a, [], y :: b, h, _, _, _ => by simp [ltRows] at h
  | k + 1, x :: a, z :: r, y :: b, h1, h2, e, hl => by
    simp only [List.take_succ_cons, List.cons.injEq] at e ⊢
    obtain ⟨rfl, e⟩ := e
    simp only [ltRows] at h1 h2
    by_cases hz : z = x
    · subst hz
      rw [beq_self_eq_true, if_pos rfl] at h1 h2
      exact ⟨rfl, between k h1 h2 e (by simpa using hl)⟩
    · rw [if_neg (by simpa using hz), decide_eq_false_iff_not] at h1
      rw [if_neg (by simpa using Ne.symm hz), decide_eq_false_iff_not] at h2
      exact absurd (str_tri h1 h2) hz
theorem argBest_le (n : Nat) (bt : Nat → Nat → Bool) : ∀ k, argBest bt k ≤ k
  | 0 => Nat.le_refl _
  | k + 1 => by
    simp only [argBest]
    split
    · exact Nat.le_refl _
    · exact Nat.le_succ_of_le (argBest_le n bt k)
theorem argBest_best (bt : Nat → Nat → Bool) (irr : ∀ i, bt i i = false) (tr : ∀ i j k, bt i j = true → bt j k = true → bt i k = true) : ∀ k j, j ≤ k → bt j (argBest bt k) = false
  | 0, j, h => by rw [Nat.le_zero.mp h]; exact irr 0
  | k + 1, j, h => by
    simp only [argBest]
    cases hb : bt (k + 1) (argBest bt k) with
    | true =>
      simp only [if_true]
      by_cases e : j = k + 1
      · rw [e]; exact irr _
      · have := argBest_best bt irr tr k j (by omega)
        cases q : bt j (k + 1) with
        | false => rfl
        | true => rw [tr _ _ _ q hb] at this; cases this
    | false =>
      simp only [Bool.false_eq_true, if_false]
      by_cases e : j = k + 1
      · rw [e]; exact hb
      · exact argBest_best bt irr tr k j (by omega)
theorem ltRows_irr : ∀ a : List Str, ltRows a a = false
  | [] => rfl
  | x :: a => by simp only [ltRows, beq_self_eq_true, if_true]; exact ltRows_irr a
end Mine
namespace Mine
theorem min_rows {prog : Program} {w : World} {A : Around} {E : Value → Shared → Prop} {s : Shared} {h₀ : Heap} {L D : Addr} {m : Str → Option Value} {news : List (Addr × Obj)} {zs : List Value} {rows : List (List Str)} {Q : Value → Shared → Prop}
    (hh : A.handled = none) (F : Fr h₀ L s.heap m) (N : News h₀ L s.heap news) (hm : (D, PyProof.Rows.LCg.lst zs) ∈ news) (hr : RowsIn news zs rows) (h0 : rows ≠ []) (hu : A.units + 2 < cLine)
    (h : ∀ T its n r h' tk, r ∈ rows → (T, W.listOf its n) ∈ news → StrsAre its.toList r → (∀ r' ∈ rows, ltRows r' r = false) → Fr h₀ L h' m → News h₀ L h' news → Q (.ref T) { s with heap := h', toks := tk }) :
    wpAny (model prog w) A (call (.builtin "min") [.ref D]) Q E s := by
  run_tac Mine.mark
  have hlen := hr.length
  have hpos : 0 < rows.length := List.length_pos_iff.mpr h0
  have hlt : ∀ p ∈ news, p.1 < s.heap.objs.size := fun p hp => Heap.lt_size (N p hp).1
  refine call_min_list (its := zs.toArray) (fun i j => ltRows (rows.getD i []) (rows.getD j [])) (fun h => ∀ p ∈ news, h.get? p.1 = some p.2) hh ⟨_, N.get hm, rfl, _, rfl⟩ (by rw [List.size_toArray]; omega) (fun p hp => (N p hp).1)
    (fun h h' ho hk p hp => hk _ _ (hlt p hp) (ho p hp)) ?_ fun v h' tk hv g => ?_
  · intro i j vi vj s' Q' E' ok hi hj hq
    have hi' : zs[i]? = some vi := by simpa using hi
    have hj' : zs[j]? = some vj := by simpa using hj
    have li : i < rows.length := hlen ▸ (List.getElem?_eq_some_iff.mp hi').1
    have lj : j < rows.length := hlen ▸ (List.getElem?_eq_some_iff.mp hj').1
    obtain ⟨T, it, n, e, hmT, hit⟩ := hr.get i _ (List.getElem?_eq_getElem li)
    obtain ⟨T', it', n', e', hmT', hit'⟩ := hr.get j _ (List.getElem?_eq_getElem lj)
    rw [hi'] at e
    rw [hj'] at e'
    obtain rfl := Option.some.inj e
    obtain rfl := Option.some.inj e'
    have q1 : rows.getD i [] = rows[i] := by simp [List.getD, li]
    have q2 : rows.getD j [] = rows[j] := by simp [List.getD, lj]
    refine rc_lt_lists ⟨_, ok _ hmT, rfl, _, rfl⟩ ⟨_, ok _ hmT', rfl, _, rfl⟩ hit hit' (show A.units + 1 < cLine by omega) ?_
    rw [← q1, ← q2]; exact hq
  · have hv' : zs[argBest (fun i j => ltRows (rows.getD i []) (rows.getD j [])) (zs.toArray.size - 1)]? = some v := by simpa using hv
    generalize hb : argBest (fun i j => ltRows (rows.getD i []) (rows.getD j [])) (zs.toArray.size - 1) = b at hv'
    have lb : b < rows.length := hlen ▸ (List.getElem?_eq_some_iff.mp hv').1
    obtain ⟨T, it, n, e, hmT, hit⟩ := hr.get b _ (List.getElem?_eq_getElem lb)
    rw [hv'] at e
    obtain rfl := Option.some.inj e
    refine h T it n rows[b] h' tk (List.getElem_mem lb) hmT hit (fun r' hr' => ?_) (fr_grow F g) (news_grow N g)
    obtain ⟨j, lj, rfl⟩ := List.getElem_of_mem hr'
    have := argBest_best (fun i j => ltRows (rows.getD i []) (rows.getD j [])) (fun i => ltRows_irr _) (fun i j k x y => ltRows_trans x y) (zs.toArray.size - 1) j (by rw [List.size_toArray]; omega)
    rw [hb] at this
    simpa [List.getD, lj, lb] using this
  run_tac Mine.shrink
theorem max_rows {prog : Program} {w : World} {A : Around} {E : Value → Shared → Prop} {s : Shared} {h₀ : Heap} {L D : Addr} {m : Str → Option Value} {news : List (Addr × Obj)} {zs : List Value} {rows : List (List Str)} {Q : Value → Shared → Prop}
    (hh : A.handled = none) (F : Fr h₀ L s.heap m) (N : News h₀ L s.heap news) (hm : (D, PyProof.Rows.LCg.lst zs) ∈ news) (hr : RowsIn news zs rows) (h0 : rows ≠ []) (hu : A.units + 2 < cLine)
    (h : ∀ T its n r h' tk, r ∈ rows → (T, W.listOf its n) ∈ news → StrsAre its.toList r → (∀ r' ∈ rows, gtRows r' r = false) → Fr h₀ L h' m → News h₀ L h' news → Q (.ref T) { s with heap := h', toks := tk }) :
    wpAny (model prog w) A (call (.builtin "max") [.ref D]) Q E s := by
  run_tac Mine.mark
  have hlen := hr.length
  have hpos : 0 < rows.length := List.length_pos_iff.mpr h0
  have hlt : ∀ p ∈ news, p.1 < s.heap.objs.size := fun p hp => Heap.lt_size (N p hp).1
  refine call_max_list (its := zs.toArray) (fun i j => gtRows (rows.getD i []) (rows.getD j [])) (fun h => ∀ p ∈ news, h.get? p.1 = some p.2) hh ⟨_, N.get hm, rfl, _, rfl⟩ (by rw [List.size_toArray]; omega) (fun p hp => (N p hp).1)
    (fun h h' ho hk p hp => hk _ _ (hlt p hp) (ho p hp)) ?_ fun v h' tk hv g => ?_
  · intro i j vi vj s' Q' E' ok hi hj hq
    have hi' : zs[i]? = some vi := by simpa using hi
    have hj' : zs[j]? = some vj := by simpa using hj
    have li : i < rows.length := hlen ▸ (List.getElem?_eq_some_iff.mp hi').1
    have lj : j < rows.length := hlen ▸ (List.getElem?_eq_some_iff.mp hj').1
    obtain ⟨T, it, n, e, hmT, hit⟩ := hr.get i _ (List.getElem?_eq_getElem li)
    obtain ⟨T', it', n', e', hmT', hit'⟩ := hr.get j _ (List.getElem?_eq_getElem lj)
    rw [hi'] at e
    rw [hj'] at e'
    obtain rfl := Option.some.inj e
    obtain rfl := Option.some.inj e'
    have q1 : rows.getD i [] = rows[i] := by simp [List.getD, li]
    have q2 : rows.getD j [] = rows[j] := by simp [List.getD, lj]
    refine rc_gt_lists ⟨_, ok _ hmT, rfl, _, rfl⟩ ⟨_, ok _ hmT', rfl, _, rfl⟩ hit hit' (show A.units + 1 < cLine by omega) ?_
    rw [← q1, ← q2]; exact hq
  · have hv' : zs[argBest (fun i j => gtRows (rows.getD i []) (rows.getD j [])) (zs.toArray.size - 1)]? = some v := by simpa using hv
    generalize hb : argBest (fun i j => gtRows (rows.getD i []) (rows.getD j [])) (zs.toArray.size - 1) = b at hv'
    have lb : b < rows.length := hlen ▸ (List.getElem?_eq_some_iff.mp hv').1
    obtain ⟨T, it, n, e, hmT, hit⟩ := hr.get b _ (List.getElem?_eq_getElem lb)
    rw [hv'] at e
    obtain rfl := Option.some.inj e
    refine h T it n rows[b] h' tk (List.getElem_mem lb) hmT hit (fun r' hr' => ?_) (fr_grow F g) (news_grow N g)
    obtain ⟨j, lj, rfl⟩ := List.getElem_of_mem hr'
    have := argBest_best (fun i j => gtRows (rows.getD i []) (rows.getD j [])) (fun i => ltRows_irr _) (fun i j k x y => ltRows_trans y x) (zs.toArray.size - 1) j (by rw [List.size_toArray]; omega)
    rw [hb] at this
    simpa [List.getD, lj, lb] using this
  run_tac Mine.shrink
end Mine
namespace Mine
section
variable {prog : Program} {w : World} {A : Around} {E : Value → Shared → Prop} {s : Shared} {env : Env} {h₀ : Heap}
/-- a turn of such a loop has ended -/
def EnumEnd (h₀ : Heap) (L : Addr) (s₁ : Shared) (h : Heap) (J : (Str → Option Value) → Prop) (s₃ : Shared) : Prop :=
  ∃ h' tk'' m₂, s₃ = { s₁ with heap := h', toks := tk'' } ∧ Fr h₀ L h' m₂ ∧ (∀ b o, b ≠ L → h.get? b = some o → h'.get? b = some o) ∧ J m₂
/-- a loop over enumerate of a list of the ledger; the body lets all but the frame stand -/
def EnumS (prog : Program) (w : World) (A : Around) (h₀ : Heap) (env : Env) (xi xv : Str) (body : List Stmt) (Q : Flow → Shared → Prop) (E : Value → Shared → Prop) (xval : Value) (s₁ : Shared) : Prop :=
  ∃ (I l : Addr) (items : Array Value) (n : Nat) (m : Str → Option Value) (news : List (Addr × Obj)) (J : Nat → (Str → Option Value) → Prop),
    xval = .ref (I + 1) ∧ A.handled = none ∧ IsEnum s₁.heap (I + 1) I 0 .none ∧ s₁.heap.IsListIter I l 0 ∧ (l, W.listOf items n) ∈ news ∧ Fr h₀ env.locals s₁.heap m ∧ News h₀ env.locals s₁.heap news ∧ (∀ p ∈ news, p.1 < I) ∧ (@LT.lt Nat _ env.locals I) ∧
    J 0 m ∧
    (∀ i v tk m₁ h tk', items[i]? = some v → J i m₁ → Fr h₀ env.locals h (fun y => if y = xv then some v else if y = xi then some (.int (i : Nat) tk) else m₁ y) → News h₀ env.locals h news →
      wpAny (model prog w) A (execs body env) (fun f s₃ => match f with
        | .next | .cont => EnumEnd h₀ env.locals s₁ h (J (i + 1)) s₃
        | .brk => Q .next s₃
        | .ret v => Q (.ret v) s₃) E { s₁ with heap := h, toks := tk' }) ∧
    (∀ h' tk m', Fr h₀ env.locals h' m' → News h₀ env.locals h' news → J items.size m' → Q .next { s₁ with heap := h', toks := tk })
theorem forEnumS {Q : Flow → Shared → Prop} {xi xv : Str} {pi pv pt pos : Pos} {x1} {iter : Expr} {body : List Stmt} {m : Str → Option Value} (_F : Fr h₀ env.locals s.heap m) (hxi : env.kindOf xi = some .local) (hxv : env.kindOf xv = some .local)
    (hp : (env.scope.kind == .class || (env.scope.kind == .module && env.locals != env.globals)) = false)
    (h : wpAny (model prog w) A (eval iter env) (EnumS prog w A h₀ env xi xv body Q E) E s)
    (hs : ∀ x, foldedSetIterable iter env x = pure x := by intro _; rfl)
    (hE : PassesOwn (model prog w) A env E := by passes_own) :
    wpAny (model prog w) A (exec (.For (.Tuple [.Name xi pi, .Name xv pv] x1 pt) iter body [] pos) env) Q E s := by
  run_tac Mine.mark
  refine wpAny_For (wpAny_mono h (fun xval s₁ h₁ => ?_) fun _ _ x => x) hs
  obtain ⟨I, l, items, n, m, news, J, rfl, hh, he, hit, hlm, F, N, hnI, hLI, h0, step, hQ⟩ := h₁
  have ne1 : @Ne Nat (I + 1) I := ad1 I
  have heL : @Ne Nat (I + 1) env.locals := Nat.ne_of_gt (Nat.lt_succ_of_lt hLI)
  have hiL : @Ne Nat I env.locals := Nat.ne_of_gt hLI
  have z0 : ∀ b, (@LE.le Nat _ I b) → h₀.get? b = none := fun b hb => by
    cases e : h₀.get? b with
    | none => rfl
    | some o => exact absurd (Nat.lt_of_lt_of_le (Heap.lt_size e) (Nat.le_trans F.above (Nat.le_trans (Nat.le_of_lt hLI) hb))) (Nat.lt_irrefl _)
  have zI := z0 I (Nat.le_refl _)
  have zE := z0 (I + 1) (Nat.le_succ _)
  refine wpAny_pyIter_enum he (codeAny_forLoop_any (R := fun r s' => match r with | .ok f => Q f s' | .error e => cameBackBy (model prog w) A env E e s')
    (fun k s' => ∃ h' tk m' i old, s' = { s₁ with heap := h', toks := tk } ∧ IsEnum h' (I + 1) I ((i : Nat) : Int) old ∧ h'.IsListIter I l i ∧ Fr h₀ env.locals h' m' ∧ News h₀ env.locals h' news ∧ J i m' ∧ i ≤ items.size ∧ k = items.size + 1 - i) ?_ (items.size + 1)
    ⟨s₁.heap, s₁.toks, m, 0, .none, rfl, he, hit, F, N, h0, Nat.zero_le _, rfl⟩)
  rintro k s' ⟨H, tk, m', i, old, rfl, he', hit', F', N', hJ, hi, rfl⟩
  have hl' : H.IsList l items := News.isList N' hlm
  cases hv : items[i]? with
  | none =>
    have hsz : i = items.size := Nat.le_antisymm hi (by simpa using hv)
    refine wpAny_pyNext_enum_end hh he' hit' hl' hv fun h₁ he₁ => wpAny_execs_nil ?_
    refine hQ h₁ tk m' ⟨F'.ns.extBut he₁ (Ne.symm hiL), fun b o e => he₁ b o (fun q => by rw [q, zI] at e; cases e) (F'.keep b o e), F'.above⟩ (fun p hp => ⟨he₁ _ _ (Nat.ne_of_lt (hnI p hp)) (N' p hp).1, (N' p hp).2⟩) (hsz ▸ hJ)
  | some v =>
    have hlt : i < items.size := (Array.getElem?_eq_some_iff.mp hv).1
    have heH : I + 1 < H.objs.size := Heap.lt_size he'
    have hLH : env.locals < H.objs.size := F'.ns.lt
    obtain ⟨oi, hoi, _⟩ := id hit'
    have hiH : I < H.objs.size := Heap.lt_size hoi
    refine wpAny_pyNext_enum_item he' hit' hl' hv ne1 fun h₁ heo hit₁ ht₁ hz₁ hk₁ => ?_
    refine wpAny_letOwnedTupleGo_enum heo fun h₂ he₂ hs₂ => ?_
    replace hs₂ : Heap.SameBut (I + 1) h₁ h₂ := hs₂
    have ht₂ : h₂.IsTuple H.objs.size #[.int i tk, v] := ⟨_, (hs₂.2 _ (Nat.ne_of_gt heH)).trans ht₁, rfl, _, rfl⟩
    have hz₂ : h₂.objs.size = H.objs.size + 1 := hs₂.1.trans hz₁
    refine wpAny_assign_Tuple hh ht₂ rfl rfl fun h₃ hx₃ => ?_
    replace hx₃ : Heap.ExtBut h₂.objs.size h₂ h₃ := hx₃
    have old₃ : ∀ b o, b < H.objs.size → h₂.get? b = some o → h₃.get? b = some o := fun b o hb x => hx₃ b o (by rw [hz₂]; exact Nat.ne_of_lt (Nat.lt_succ_of_lt hb)) x
    have k₃ : ∀ b o, b ≠ I + 1 → b ≠ I → H.get? b = some o → h₃.get? b = some o := fun b o hb hb2 e => old₃ b o (Heap.lt_size e) (hs₂.extBut b o hb (hk₁ b o hb hb2 e))
    have F₃ : Fr h₀ env.locals h₃ m' := ⟨F'.ns.at' fun o x => k₃ _ o (Ne.symm heL) (Ne.symm hiL) x, fun b o e => k₃ b o (fun q => by rw [q, zE] at e; cases e) (fun q => by rw [q, zI] at e; cases e) (F'.keep b o e), F'.above⟩
    have N₃ : News h₀ env.locals h₃ news := fun p hp => ⟨k₃ _ _ (Nat.ne_of_lt (Nat.lt_succ_of_lt (hnI p hp))) (Nat.ne_of_lt (hnI p hp)) (N' p hp).1, (N' p hp).2⟩
    show wpAny _ A (do holding [v] (assign (.Name xi pi) env (.int i tk)); do holding [] (assign (.Name xv pv) env v); pure ()) _ _ _
    refine wpAny_bind (wpAny_holding (wpAny_assign_Name (wpAny_storeName_local hxi F₃.ns (fun h₄ hn₄ hs₄ => ?_) hp)))
    replace hs₄ : Heap.SameBut env.locals h₃ h₄ := hs₄
    have F₄ := F₃.set hn₄ hs₄
    refine wpAny_bind (wpAny_holding (wpAny_assign_Name (wpAny_storeName_local hxv hn₄ (fun h₅ hn₅ hs₅ => wpAny_pure ?_) hp)))
    replace hs₅ : Heap.SameBut env.locals h₄ h₅ := hs₅
    have F₅ := F₄.set hn₅ hs₅
    have N₅ : News h₀ env.locals h₅ news := (N₃.set hs₄).set hs₅
    refine wpAny_passesOwn hE (wpAny_mono (step i v tk m' h₅ _ hv hJ F₅ N₅) (fun f s₃ hf => ?_) fun _ _ x => x)
    have back : (∃ h' tk'' m₂, s₃ = { s₁ with heap := h', toks := tk'' } ∧ Fr h₀ env.locals h' m₂ ∧ (∀ b o, b ≠ env.locals → h₅.get? b = some o → h'.get? b = some o) ∧ J (i + 1) m₂) →
        ∃ q, q < items.size + 1 - i ∧ ∃ h' tk m' i old, s₃ = { s₁ with heap := h', toks := tk } ∧ IsEnum h' (I + 1) I ((i : Nat) : Int) old ∧ h'.IsListIter I l i ∧ Fr h₀ env.locals h' m' ∧ News h₀ env.locals h' news ∧ J i m' ∧ i ≤ items.size ∧ q = items.size + 1 - i := by
      rintro ⟨h₆, tk₆, m₂, rfl, F₆, hk₆, hJ₆⟩
      have up : ∀ b o, b ≠ env.locals → b < H.objs.size → h₂.get? b = some o → h₆.get? b = some o := fun b o hbL hb x => hk₆ b o hbL (hs₅.extBut b o hbL (hs₄.extBut b o hbL (old₃ b o hb x)))
      refine ⟨items.size + 1 - (i + 1), by omega, h₆, tk₆, m₂, i + 1, v, rfl, ?_, ?_, F₆, fun p hp => ⟨hk₆ _ _ (N₅ p hp).2.1 (N₅ p hp).1, (N₅ p hp).2⟩, hJ₆, hlt, rfl⟩
      · have : ((i + 1 : Nat) : Int) = (i : Int) + 1 := by push_cast; rfl
        rw [this]; exact up (I + 1) _ heL heH he₂
      · exact (hit₁.extBut hs₂.extBut (Ne.symm ne1)).at fun o x => up I o hiL hiH x
    cases f with
    | next => exact back hf
    | cont => exact back hf
    | brk => exact hf
    | ret v => exact hf
  run_tac Mine.shrink
end

section
variable {prog : Program} {w : World} {A : Around} {E : Value → Shared → Prop} {s : Shared} {h₀ : Heap} {L l : Addr} {m : Str → Option Value} {news : List (Addr × Obj)}
theorem call_enum {items : Array Value} {n : Nat} {Q : Value → Shared → Prop} (F : Fr h₀ L s.heap m) (N : News h₀ L s.heap news) (hm : (l, W.listOf items n) ∈ news)
    (h : ∀ (I : Addr) h', IsEnum h' (I + 1) I 0 .none → h'.IsListIter I l 0 → Fr h₀ L h' m → News h₀ L h' news → (∀ p ∈ news, p.1 < I) → (@LT.lt Nat _ L I) → Q (.ref (I + 1)) { s with heap := h' }) :
    wpAny (model prog w) A (call (.type "enumerate") [.ref l]) Q E s :=
  call_enumerate_1 (N.get hm) fun h' a b _ k => h s.heap.objs.size h' a b (F.keeps k) (N.grown k) (fun p hp => Heap.lt_size (N p hp).1) F.ns.lt
end
/-- two names are turned, no more is told of them -/
def Acc0 (x x' : Str) (m₀ m : Str → Option Value) : Prop := ∃ u u', m = fun z => if z = x then u else if z = x' then u' else m₀ z
theorem Acc0.next {x x' : Str} {m₀ m : Str → Option Value} (hk : ∀ z, z ≠ x → z ≠ x' → m z = m₀ z) : Acc0 x x' m₀ m := ⟨m x, m x', by
  funext z
  by_cases h1 : z = x
  · simp [h1]
  · by_cases h2 : z = x'
    · subst h2; simp [h1]
    · simp [h1, h2, hk z h1 h2]⟩
theorem Acc0.start {x x' : Str} {m₀ : Str → Option Value} : Acc0 x x' m₀ m₀ := .next fun _ _ _ => rfl
theorem fr_localsC {h₀ h : Heap} {m : Str → Option Value} {name : Str} {scope : Scope} {L a : Addr} {cd : Value} (F : Fr h₀ (envOfC name scope L a cd).locals h m) : Fr h₀ L h m := F
theorem news_localsC {h₀ h : Heap} {news : List (Addr × Obj)} {name : Str} {scope : Scope} {L a : Addr} {cd : Value} (N : News h₀ (envOfC name scope L a cd).locals h news) : News h₀ L h news := N
end Mine
namespace Mine
theorem prefix_lt : ∀ (i : Nat) {a b : List Str}, a.take i = b.take i → b.length ≤ i → i < a.length → ltRows b a = true
  | 0, [], _, _, _, h => by simp at h
  | 0, _ :: _, [], _, _, _ => by simp [ltRows]
  | 0, _ :: _, _ :: _, _, h, _ => by simp at h
  | _ + 1, [], _, _, _, h => by simp at h
  | _ + 1, _ :: _, [], _, _, _ => by simp [ltRows]
  | i + 1, x :: a, y :: b, e, h, k => by
    simp only [List.take_succ_cons, List.cons.injEq] at e
    obtain ⟨rfl, e⟩ := e
    simp only [ltRows, beq_self_eq_true, if_true]
    exact prefix_lt i e (by simpa using h) (by simpa using k)
theorem filter_range (n i : Nat) (p : Nat → Bool) (hi : i ≤ n) (h : ∀ k, k < n → (p k = true ↔ k < i)) : (List.range n).filter p = List.range i := by
  run_tac Mine.mark
  obtain ⟨d, rfl⟩ := Nat.exists_eq_add_of_le hi
  rw [List.range_add, List.filter_append]
  have e1 : (List.range i).filter p = List.range i := List.filter_eq_self.mpr fun k hk => (h k (by have := List.mem_range.mp hk; omega)).mpr (List.mem_range.mp hk)
  have e2 : ((List.range d).map (i + ·)).filter p = [] := List.filter_eq_nil_iff.mpr fun k hk => by
    obtain ⟨j, hj, rfl⟩ := List.mem_map.mp hk
    intro q
    have := (h (i + j) (by have := List.mem_range.mp hj; omega)).mp q
    omega
  rw [e1, e2, List.append_nil]
  run_tac Mine.shrink
theorem map_getD_range (r : List Str) (i : Nat) (h : i ≤ r.length) : (List.range i).map (r.getD · Str.empty) = r.take i := by
  refine List.ext_getElem (by simp; omega) fun k h1 h2 => ?_
  simp at h1 h2
  simp [List.getD, show k < r.length by omega]
/-- where the least and the greatest row part is where they all part -/
theorem front_eq {r0 : List Str} {rs : List (List Str)} {a b : List Str} {i : Nat} (ha : a ∈ r0 :: rs) (hb : b ∈ r0 :: rs) (hmin : ∀ r ∈ r0 :: rs, ltRows r a = false) (hmax : ∀ r ∈ r0 :: rs, ltRows b r = false)
    (he : a.take i = b.take i) (hi : i ≤ a.length) (hend : i = a.length ∨ a[i]? ≠ b[i]?) : frontOf (r0 :: rs) = a.take i := by
  run_tac Mine.mark
  have all : ∀ k, k ≤ i → ∀ r ∈ r0 :: rs, r.take k = a.take k := fun k hk r hr =>
    between k (hmin r hr) (hmax r hr) (by have := congrArg (List.take k) he; rwa [List.take_take, List.take_take, Nat.min_eq_left hk] at this) (by omega)
  have h0 := all i (Nat.le_refl _) r0 (.head _)
  have hl0 : i ≤ r0.length := by
    have := congrArg List.length h0
    rw [List.length_take, List.length_take] at this; omega
  show ((List.range r0.length).filter (agreeTo (r0 :: rs) r0)).map (r0.getD · Str.empty) = _
  rw [filter_range r0.length i _ hl0 fun k hk => ?_, map_getD_range r0 i hl0, h0]
  constructor
  · intro hag
    rcases Nat.lt_or_ge k i with q | q
    · exact q
    · exfalso
      have ag : ∀ r ∈ r0 :: rs, r.take (k + 1) = r0.take (k + 1) := fun r hr => by
        have := List.all_eq_true.mp hag r hr
        exact eq_of_beq this
      have e1 := ag a ha
      have e2 := ag b hb
      have l1 := congrArg List.length e1
      rw [List.length_take, List.length_take] at l1
      rcases hend with rfl | hne
      · omega
      · apply hne
        have e3 : (a.take (k + 1))[i]? = (b.take (k + 1))[i]? := by rw [e1, e2]
        rwa [List.getElem?_take_of_lt (by omega), List.getElem?_take_of_lt (by omega)] at e3
  · intro hki
    refine List.all_eq_true.mpr fun r hr => beq_iff_eq.mpr ?_
    rw [all (k + 1) hki r hr, all (k + 1) hki r0 (.head _)]
  run_tac Mine.shrink
end Mine
namespace Mine
open Builtin Builtin.Str StrLaws
/-- a property that once lost stays lost holds just below some place -/
theorem down_range (p : Nat → Bool) : ∀ n, (∀ k, k + 1 < n → p (k + 1) = true → p k = true) → ∃ m, m ≤ n ∧ ∀ k, k < n → (p k = true ↔ k < m)
  | 0, _ => ⟨0, Nat.le_refl _, fun k h => absurd h (Nat.not_lt_zero _)⟩
  | n + 1, hd => by
    obtain ⟨m, hm, h⟩ := down_range p n fun k hk => hd k (by omega)
    by_cases e : m = n
    · subst e
      cases hp : p m with
      | true => exact ⟨m + 1, Nat.le_refl _, fun k hk => by
          by_cases q : k = m
          · subst q; simp [hp]
          · have := h k (by omega); simp [this]; omega⟩
      | false => exact ⟨m, by omega, fun k hk => by
          by_cases q : k = m
          · subst q; simp [hp]
          · exact h k (by omega)⟩
    · refine ⟨m, by omega, fun k hk => ?_⟩
      by_cases q : k = n
      · subst q
        have hf : p k = false := by
          cases hp : p k with
          | false => rfl
          | true =>
            cases k with
            | zero => omega
            | succ j =>
              have := (h j (by omega)).mp (hd j (by omega) hp)
              omega
        rw [hf]; simp; omega
      · exact h k (by omega)
theorem take_down {r r0 : List Str} {k : Nat} (h : r.take (k + 1 + 1) = r0.take (k + 1 + 1)) : r.take (k + 1) = r0.take (k + 1) := by
  have := congrArg (List.take (k + 1)) h
  rwa [List.take_take, List.take_take, Nat.min_eq_left (by omega)] at this
/-- the common front of rows -/
theorem front_char (r0 : List Str) (rs : List (List Str)) : ∃ m, m ≤ r0.length ∧ frontOf (r0 :: rs) = r0.take m ∧ (∀ r ∈ r0 :: rs, r.take m = r0.take m) ∧ (m = r0.length ∨ ∃ r ∈ r0 :: rs, r.take (m + 1) ≠ r0.take (m + 1)) := by
  run_tac Mine.mark
  obtain ⟨m, hm, h⟩ := down_range (agreeTo (r0 :: rs) r0) r0.length fun k hk hp => List.all_eq_true.mpr fun r hr => beq_iff_eq.mpr (take_down (eq_of_beq (List.all_eq_true.mp hp r hr)))
  refine ⟨m, hm, ?_, ?_, ?_⟩
  · show ((List.range r0.length).filter (agreeTo (r0 :: rs) r0)).map (r0.getD · Str.empty) = _
    rw [filter_range r0.length m _ hm h, map_getD_range r0 m hm]
  · intro r hr
    cases m with
    | zero => simp
    | succ j => exact eq_of_beq (List.all_eq_true.mp ((h j (by omega)).mpr (by omega)) r hr)
  · by_cases e : m = r0.length
    · exact .inl e
    · right
      apply Classical.byContradiction
      intro hn
      have : agreeTo (r0 :: rs) r0 m = true := List.all_eq_true.mpr fun r hr => beq_iff_eq.mpr (Classical.byContradiction fun q => hn ⟨r, hr, q⟩)
      exact absurd ((h m (by omega)).mp this) (Nat.lt_irrefl _)
  run_tac Mine.shrink
/-- the length of the front -/
def frontN (rows : List (List Str)) : Nat := (frontOf rows).length
theorem front_take {rows : List (List Str)} {r : List Str} (hr : r ∈ rows) : frontOf rows = r.take (frontN rows) := by
  run_tac Mine.mark
  cases rows with
  | nil => cases hr
  | cons r0 rs =>
    obtain ⟨m, hm, e, ha, _⟩ := front_char r0 rs
    have : frontN (r0 :: rs) = m := by unfold frontN; rw [e, List.length_take]; omega
    rw [this, e, ha r hr]
  run_tac Mine.shrink

theorem join_app {sep : Str} : ∀ {a b : List Str}, a ≠ [] → b ≠ [] → Str.join sep (a ++ b) = Str.join sep a ++ (sep ++ Str.join sep b)
  | [], _, h, _ => absurd rfl h
  | [x], [], _, h => absurd rfl h
  | [x], y :: b, _, _ => by
    show x ++ sep ++ Str.join sep (y :: b) = x ++ (sep ++ Str.join sep (y :: b))
    rw [Str.append_assoc]
  | x :: y :: a, b, _, hb => by
    show x ++ sep ++ Str.join sep ((y :: a) ++ b) = (x ++ sep ++ Str.join sep (y :: a)) ++ (sep ++ Str.join sep b)
    rw [join_app (a := y :: a) (by simp) hb]
    simp only [Str.append_assoc]
theorem good_ends {ws : List Str} (hg : ∀ w ∈ ws, GoodW w) : (∀ c, (cs (Str.join (Str.ofString "/") ws)).head? = some c → c ≠ 47) ∧ (∀ c, (cs (Str.join (Str.ofString "/") ws)).getLast? = some c → c ≠ 47) ∧ (ws ≠ [] → cs (Str.join (Str.ofString "/") ws) ≠ []) := by
  run_tac Mine.mark
  induction ws with
  | nil => exact ⟨fun c h => by simp [Str.join, cs, Str.empty] at h, fun c h => by simp [Str.join, cs, Str.empty] at h, fun h => absurd rfl h⟩
  | cons w r ih =>
    have g := hg w (.head _)
    have hw : cs w ≠ [] := by intro e; have := cs_len w; rw [e] at this; have := g.pos; simp at *; omega
    obtain ⟨i1, i2, i3⟩ := ih fun v hv => hg v (.tail _ hv)
    cases r with
    | nil =>
      refine ⟨fun c h => ?_, fun c h => ?_, fun _ => hw⟩
      · have h : (cs w).head? = some c := h
        rintro rfl; exact g.slash (List.mem_of_mem_head? h)
      · have h : (cs w).getLast? = some c := h
        rintro rfl; exact g.slash (List.mem_of_mem_getLast? h)
    | cons v t =>
      have e : cs (Str.join (Str.ofString "/") (w :: v :: t)) = cs w ++ (47 :: cs (Str.join (Str.ofString "/") (v :: t))) := by
        show cs (w ++ Str.ofString "/" ++ Str.join (Str.ofString "/") (v :: t)) = _
        rw [cs_app, cs_app, slash_cs]; simp
      rw [e]
      refine ⟨fun c h => ?_, fun c h => ?_, fun _ => by simp [hw]⟩
      · have h : (cs w).head? = some c := by
          cases hq : cs w with
          | nil => exact absurd hq hw
          | cons a b => rw [hq] at h; exact h
        rintro rfl; exact g.slash (List.mem_of_mem_head? h)
      · have h : (cs (Str.join (Str.ofString "/") (v :: t))).getLast? = some c := by
          rw [List.getLast?_append, List.getLast?_cons] at h
          have hne := i3 (by simp)
          cases hq : (cs (Str.join (Str.ofString "/") (v :: t))).getLast? with
          | none => exact absurd (List.getLast?_eq_none_iff.mp hq) hne
          | some d => rw [hq] at h; simpa using h
        exact i2 c h
  run_tac Mine.shrink
theorem strip_slash {x j : Str} {pre : List Nat} (hx : cs x = pre ++ cs j) (hp : ∀ c ∈ pre, c = 47) (h1 : ∀ c, (cs j).head? = some c → c ≠ 47) (h2 : ∀ c, (cs j).getLast? = some c → c ≠ 47) : Txt.stripChars x (Str.ofString "/") = j := by
  run_tac Mine.mark
  have hc : ∀ c, (Str.ofString "/").cps.contains c = decide (c = 47) := by
    intro c
    rw [show (Str.ofString "/").cps = #[47] by decide +kernel]
    simp [Array.contains]
    by_cases h : c = 47 <;> simp [h]
  have htake : ∀ l : List Nat, (∀ c, l.head? = some c → c ≠ 47) → l.takeWhile (fun c => (Str.ofString "/").cps.contains c) = [] := by
    intro l hl
    cases l with
    | nil => rfl
    | cons c r => rw [List.takeWhile_cons, hc, if_neg (by simpa using hl c rfl)]
  unfold Txt.stripChars
  rw [PyProof.Rows.stripBy_eq]
  have hlo : stripLo (Str.ofString "/").cps.contains true x = pre.length := by
    simp only [stripLo, if_true]
    show ((cs x).takeWhile _).length = _
    rw [hx, List.takeWhile_append_of_pos (fun c hcm => by rw [hc, hp c hcm]; rfl)]
    rw [show (cs j).takeWhile (Str.ofString "/").cps.contains = [] from htake _ h1]
    simp
  rw [hlo]
  have hhi : stripHi (Str.ofString "/").cps.contains true x pre.length = x.length := by
    simp only [stripHi, if_true]
    show x.length - (((cs x).drop pre.length).reverse.takeWhile _).length = _
    rw [hx, List.drop_left]
    rw [show (cs j).reverse.takeWhile (Str.ofString "/").cps.contains = [] from htake _ (fun c q => h2 c (by rwa [List.head?_reverse] at q))]
    simp
  rw [hhi]
  apply cs_inj
  show (strSub x pre.length x.length).cps.toList = _
  rw [strSub_toList]
  show ((cs x).drop pre.length).take _ = cs j
  rw [hx, List.drop_left]
  apply List.take_of_length_le
  have := cs_len x
  rw [hx, List.length_append] at this
  omega
  run_tac Mine.shrink
/-- what is ahead of the front in a path -/
theorem ahead_strip {r : List Str} (hg : ∀ w ∈ r, GoodW w) (m : Nat) (hm : m ≤ r.length) :
    Txt.stripChars (Txt.slice (pathOf r) (some (((pathOf (r.take m)).length : Nat) : Int)) none) (Str.ofString "/") = Str.join (Str.ofString "/") (r.drop m) := by
  run_tac Mine.mark
  have hgd : ∀ w ∈ r.drop m, GoodW w := fun w hw => hg w (List.mem_of_mem_drop hw)
  obtain ⟨e1, e2, _⟩ := good_ends hgd
  have hlen : (pathOf (r.take m)).length ≤ (pathOf r).length ∧ ∃ pre, (cs (pathOf r)).drop (pathOf (r.take m)).length = pre ++ cs (Str.join (Str.ofString "/") (r.drop m)) ∧ ∀ c ∈ pre, c = 47 := by
    rw [← cs_len, ← cs_len]
    by_cases h0 : r.take m = []
    · have hm0 : r.drop m = r := by
        have := List.take_append_drop m r
        rwa [h0, List.nil_append] at this
      rw [h0, hm0, pathOf_cs, pathOf_cs]
      refine ⟨by simp [Str.join, cs, Str.empty], [], ?_, fun _ h => nomatch h⟩
      simp [Str.join, cs, Str.empty]
    · by_cases h1 : r.drop m = []
      · have hm1 : r.take m = r := by
          have := List.take_append_drop m r
          rwa [h1, List.append_nil] at this
        rw [hm1, h1]
        refine ⟨Nat.le_refl _, [], ?_, fun _ h => nomatch h⟩
        simp [Str.join, cs, Str.empty]
      · have e : cs (pathOf r) = cs (pathOf (r.take m)) ++ (47 :: cs (Str.join (Str.ofString "/") (r.drop m))) := by
          rw [pathOf_cs, pathOf_cs]
          have := join_app (sep := Str.ofString "/") h0 h1
          rw [List.take_append_drop] at this
          rw [this, cs_app, cs_app, slash_cs]; simp
        rw [e]
        refine ⟨by simp, [47], ?_, fun c h => List.mem_singleton.mp h⟩
        rw [List.drop_left]; rfl
  obtain ⟨hl, pre, hpre, hp⟩ := hlen
  refine strip_slash (pre := pre) ?_ hp e1 e2
  rw [slice_from hl, hpre]
  run_tac Mine.shrink
def aheadSplit (r : List Str) (m : Nat) : List Str := if r.drop m = [] then [Str.empty] else r.drop m
theorem split_empty : Txt.split Str.empty (Str.ofString "/") = [Str.empty] := by decide +kernel
theorem ahead_split {r : List Str} (hg : ∀ w ∈ r, GoodW w) (m : Nat) : Txt.split (Str.join (Str.ofString "/") (r.drop m)) (Str.ofString "/") = aheadSplit r m := by
  unfold aheadSplit
  by_cases h : r.drop m = []
  · rw [h, if_pos rfl]; exact split_empty
  · rw [if_neg h]; exact split_path h fun p hp => (hg p (List.mem_of_mem_drop hp)).slash
theorem ahead_first (r : List Str) (m : Nat) : (aheadSplit r m).getD 0 Str.empty = r.getD m Str.empty := by
  run_tac Mine.mark
  unfold aheadSplit
  by_cases h : r.drop m = []
  · rw [if_pos h]
    have : r.length ≤ m := by simpa using h
    simp [List.getD, List.getElem?_eq_none this]
  · rw [if_neg h]
    simp [List.getD]
  run_tac Mine.shrink
theorem aheadSplit_len {r : List Str} {m : Nat} (h : r.length ≤ 32) : (aheadSplit r m).length ≤ 1000000 ∧ 0 < (aheadSplit r m).length := by
  run_tac Mine.mark
  unfold aheadSplit
  by_cases e : r.drop m = []
  · rw [if_pos e]; simp
  · rw [if_neg e]
    have := List.length_pos_iff.mpr e
    rw [List.length_drop] at *
    omega
  run_tac Mine.shrink
/-- the place of a word, or another number -/
def idxOr (N : Nat) (ws : List Str) (w : Str) : Int := if w ∈ ws then (ws.idxOf w : Nat) else (N : Nat)
/-- the place where two rows part -/
def partZ (N : Nat) (r1 r2 ws : List Str) : Int := min (idxOr N ws (r1.getD (frontN [r1, r2]) Str.empty)) (idxOr N ws (r2.getD (frontN [r1, r2]) Str.empty))

theorem str_any {its : List Value} {ws : List Str} (h : StrsAre its ws) (x : Str) : its.any (fun v => match v with | .str y _ => y == x | _ => false) = decide (x ∈ ws) := by
  run_tac Mine.mark
  induction h with
  | nil => rfl
  | cons y t h ih =>
    rw [List.any_cons, ih]
    by_cases e : y = x
    · subst e; simp
    · have e' : ¬ x = y := fun q => e q.symm
      simp [e, e']
  run_tac Mine.shrink
section
variable {prog : Program} {w : World} {A : Around} {E : Value → Shared → Prop} {s : Shared} {l : Addr} {vs : List Value} {ws : List Str} {x : Str} {t : Tok} {Q : Value → Shared → Prop}
theorem str_items_at {A : Around} {s : Shared} (hi : StrsAre vs ws) : ∀ y, y ∈ vs.toArray → SeqAt.EqAt A s y (.str x t) (match y with | .str z _ => z == x | _ => false) := by
  run_tac Mine.mark
  intro y hy
  obtain ⟨i, hi', e⟩ := List.getElem_of_mem (by simpa using hy : y ∈ vs)
  obtain ⟨z, tz, rfl, _⟩ := hi.item i y (by rw [← e]; exact List.getElem?_eq_getElem hi')
  exact SeqAt.EqAt.str_str _ _ _ _
  run_tac Mine.shrink
theorem in_strs (hl : s.heap.IsList l vs.toArray) (hi : StrsAre vs ws) (h : Q (.bool (decide (x ∈ ws))) s) : wpAny (model prog w) A (compareOp .In (.str x t) (.ref l)) Q E s := by
  refine SeqAt.in_listAt (fun v => match v with | .str y _ => y == x | _ => false) hl (str_items_at hi) ?_
  rw [List.any_toArray, str_any hi]; exact h
theorem index_strs (hl : s.heap.IsList l vs.toArray) (hi : StrsAre vs ws) (hm : x ∈ ws) (hn : ws.length ≤ 1000000) (h : ∀ t tk, Q (.int ((ws.idxOf x : Nat) : Int) t) { s with toks := tk }) :
    wpAny (model prog w) A (call (.builtin "list.index") [.ref l, .str x t]) Q E s := by
  run_tac Mine.mark
  have hz : vs.length = ws.length := hi.length
  have hj := List.idxOf_lt_length_of_mem hm
  have at' : ∀ m (hm : m < vs.toArray.size), (match vs.toArray[m] with | .str z _ => z == x | _ => false) = (ws.getD m Str.empty == x) := by
    intro m hm
    have hm' : m < vs.length := by simpa using hm
    obtain ⟨z, tz, e, hz'⟩ := hi.item m _ (List.getElem?_eq_getElem hm')
    have : vs.toArray[m] = .str z tz := by simpa using e
    rw [this]
    simp [List.getD, hz']
  obtain ⟨⟨cls, dd, data, sl⟩, ho, hc, n, hd⟩ := id hl
  simp only at hc hd
  subst hc hd
  refine call_meets F.slot_list_index ⟨_, ho, rfl⟩ F.entry_list_index (F.args_list_index_2 _ _) (SeqAt.list_indexAt l vs.toArray n dd sl (.str x t) (fun v => match v with | .str y _ => y == x | _ => false) (ws.idxOf x) (by simpa [hz] using hj) (by omega) ?_ ?_) ⟨ho, str_items_at hi, h _ _⟩
  · rw [at' _ (by simpa [hz] using hj)]
    simp [List.getD, hj]
  · intro m hm' hlt
    rw [at' m hm']
    have : ¬ ws.getD m Str.empty = x := fun e => by
      have hm2 : m < ws.length := by omega
      have := List.not_of_lt_findIdx (p := (· == x)) (xs := ws) (i := m) hlt
      simp [List.getD, hm2] at e
      simp [e] at this
    simpa using this
  run_tac Mine.shrink
end
section
variable {prog : Program} {w : World} {A : Around} {E : Value → Shared → Prop} {s : Shared} {x y z : Str} {t u : Tok} {Q : Value → Shared → Prop}
theorem len_strB (h1 : x.length ≤ 1000000) (h : ∀ t' k, Q (.int ((x.length : Nat) : Int) t') { s with toks := k }) : wpAny (model prog w) A (call (.builtin "len") [.str x t]) Q E s :=
  PyProof.Rows.SBL.len (by omega) (h _ _)
theorem strip_to (e : Txt.stripChars x y = z) (h1 : x.length ≤ 1000000) (h : ∀ t' k, Q (.str z t') { s with toks := k }) : wpAny (model prog w) A (call (.builtin "str.strip") [.str x t, .str y u]) Q E s :=
  PyProof.Rows.SCL.stripChars (fun t' k _ => by rw [e]; exact h t' k) (Nat.le_trans h1 (by decide))
end
section
variable {prog : Program} {w : World} {A : Around} {E : Value → Shared → Prop} {s : Shared} {h₀ : Heap} {L : Addr} {m : Str → Option Value} {news : List (Addr × Obj)} {t : Tok} {value slice : Expr} {Q : Value → Shared → Prop} {x : Str}
theorem slice_fromB {i : Int} {ui : Tok} (hF : Fr h₀ L s.heap m) (hN : News h₀ L s.heap news) (hx : x.length ≤ 1000000) (h : ∀ h' t' k, Fr h₀ L h' m → News h₀ L h' news → Q (.str (Txt.slice x (some i) none) t') { s with heap := h', toks := k })
    (hs : subscripted slice false (.str x t) (.ref s.heap.objs.size) = operate [.ref s.heap.objs.size, .str x t] (getItem (.str x t) (.ref s.heap.objs.size)) := by with_unfolding_all rfl)
    (ht : ∀ r, letTemporaryGo value (.str x t) r = pure () := by intro _; with_unfolding_all rfl) :
    wpAny (model prog w) A (subscriptTail value slice (.str x t) (.ref s.heap.objs.size)) Q E { s with heap := s.heap.push { cls := .type "slice", data := .fields #[.int i ui, .none, .none] } } :=
  slice_strN_sn hF hN h hs ht (Nat.le_trans hx (by decide))
end
section
variable {prog : Program} {w : World} {A : Around} {E : Value → Shared → Prop} {s : Shared} {h₀ : Heap} {L D : Addr} {m : Str → Option Value}
/-- a method of a list of the ground -/
theorem listMethod_G {its : Array Value} {n : Nat} {name : Str} {id : String} {pl : Sem Bool} {Q : Value × List Value → Shared → Prop} (F : Fr h₀ L s.heap m) (ho : h₀.get? D = some (W.listOf its n)) (slot : Slot "list" name id) (hty : typeOf (.builtin id) = pure (.type "method_descriptor"))
    (h : Q (.builtin id, [.ref D]) s) : wpAny (model prog w) A (getMethod (.ref D) name pl) Q E s :=
  getMethod_builtin ⟨_, F.keep _ _ ho, rfl⟩ PySem.F.plainAttrs_list slot hty (fun a e => by cases e; exact ⟨_, F.keep _ _ ho, rfl⟩) h
end
theorem mem_any {ws : List Str} {y : Str} (h : (ws.any fun x => x == y) = true) : y ∈ ws := by
  obtain ⟨x, hx, e⟩ := List.any_eq_true.mp h
  exact (eq_of_beq e) ▸ hx
theorem idx_any {N : Nat} {ws : List Str} {y : Str} (h : (ws.any fun x => x == y) = true) : idxOr N ws y = (ws.idxOf y : Nat) := if_pos (mem_any h)
theorem idx_none {N : Nat} {ws : List Str} {y : Str} (h : (ws.any fun x => x == y) = false) : idxOr N ws y = (N : Nat) := if_neg fun hm => by
  rw [List.any_eq_true.mpr ⟨y, hm, by simp⟩] at h; cases h
theorem min_two {a b M : Int} (h : M = a ∨ M = b) (k : M ≤ a ∧ M ≤ b) : M = min a b := by omega
end Mine
namespace Mine
open Builtin Builtin.Str StrLaws
/-- the words of a number's flags, out of a list of words -/
def dueNames (n f : Nat) (ws : List Str) : List Str := if ((List.range n).filter f.testBit).map (ws.getD · Str.empty) = [] then [Str.ofString "0x0"] else ((List.range n).filter f.testBit).map (ws.getD · Str.empty)
theorem filter_succ (p : Nat → Bool) (g : Nat → Str) (i : Nat) : ((List.range (i + 1)).filter p).map g = ((List.range i).filter p).map g ++ (if p i then [g i] else []) := by
  rw [List.range_succ, List.filter_append, List.map_append]
  congr 1
  cases h : p i <;> simp [h]
theorem bit_cond (f i : Nat) : ((f : Int).fdiv (2 ^ (0 + (i : Int)).toNat)).fmod 2 = 1 ↔ f.testBit i = true := by
  run_tac Mine.mark
  rw [nat_k0, bit_div, decide_eq_true_iff]
  have e : (2 : Int) ^ i = ((2 ^ i : Nat) : Int) := by push_cast; rfl
  rw [e, Int.fdiv_eq_ediv_of_nonneg _ (Int.natCast_nonneg _), Int.fmod_eq_emod_of_nonneg _ (by decide)]
  rw [← Int.natCast_ediv]
  constructor <;> intro h <;> omega
  run_tac Mine.shrink
theorem bit_yes {f i : Nat} (h : ((f : Int).fdiv (2 ^ (0 + (i : Int)).toNat)).fmod 2 = 1) : f.testBit i = true := (bit_cond f i).mp h
theorem bit_no {f i : Nat} (h : ((f : Int).fdiv (2 ^ (0 + (i : Int)).toNat)).fmod 2 ≠ 1) : f.testBit i = false := by
  cases e : f.testBit i with
  | false => rfl
  | true => exact absurd ((bit_cond f i).mpr e) h
section
variable {prog : Program} {w : World} {A : Around} {E : Value → Shared → Prop} {s : Shared} {h₀ : Heap} {L D : Addr} {m : Str → Option Value} {news : List (Addr × Obj)}
theorem truthy_lst {ys : List Value} {Q : Bool → Shared → Prop} (N : News h₀ L s.heap news) (hm : (D, PyProof.Rows.LCg.lst ys) ∈ news) (hsz : ys.length ≤ 1000000) (h : ∀ tk, Q (!ys.isEmpty) { s with toks := tk }) : wpAny (model prog w) A (truthy (.ref D)) Q E s := by
  refine wpAny_truthy_list (N.isList hm) (by rw [List.size_toArray]; omega) ?_
  rw [List.isEmpty_toArray]
  exact h _
end
theorem add_strB {prog : Program} {w : World} {A : Around} {E : Value → Shared → Prop} {s : Shared} {x y : Str} {t u : Tok} {Q : Value → Shared → Prop} (h1 : x.length + y.length ≤ 1000000) (h : ∀ t' k, Q (.str (x ++ y) t') { s with toks := k }) : wpAny (model prog w) A (binaryOp .Add (.str x t) (.str y u)) Q E s :=
  PyProof.Rows.add_str h (Nat.le_trans h1 (by decide))
def lowNames : List Str := [Str.ofString "OPTIMIZED", Str.ofString "NEWLOCALS", Str.ofString "VARARGS", Str.ofString "VARKEYWORDS", Str.ofString "NESTED", Str.ofString "GENERATOR", Str.ofString "NOFREE", Str.ofString "COROUTINE", Str.ofString "ITERABLE_COROUTINE", Str.ofString "ASYNC_GENERATOR"]
theorem low_name (f : Nat) (h : f < 10) : lowNames.getD ((f : Int)).toNat Str.empty = flagName f := by
  rw [Int.toNat_natCast]
  have : ∀ f, f < 10 → (lowNames.getD f Str.empty == flagName f) = true := by decide +kernel
  exact eq_of_beq (this f h)
def highB (f : Nat) : Bool := ((Str.ofString "0x" ++ Txt.item (Str.ofString "1248") ((f : Int).fmod 4)) ++ Txt.mul (Str.ofString "0") ((f : Int).fdiv 4) == flagName f) && decide ((Str.ofString "0x" ++ Txt.item (Str.ofString "1248") ((f : Int).fmod 4)).length + (Txt.mul (Str.ofString "0") ((f : Int).fdiv 4)).length ≤ 1000000)
theorem high_all : ∀ f, f < 32 → (f < 10 ∨ highB f = true) := by decide +kernel
theorem high_name (f : Nat) (h : f < 32) (h2 : 10 ≤ f) : (Str.ofString "0x" ++ Txt.item (Str.ofString "1248") ((f : Int).fmod 4)) ++ Txt.mul (Str.ofString "0") ((f : Int).fdiv 4) = flagName f ∧ (Str.ofString "0x" ++ Txt.item (Str.ofString "1248") ((f : Int).fmod 4)).length + (Txt.mul (Str.ofString "0") ((f : Int).fdiv 4)).length ≤ 1000000 := by
  rcases high_all f h with q | q
  · omega
  · rw [highB, Bool.and_eq_true, beq_iff_eq, decide_eq_true_iff] at q
    exact q
/-- a step of the walk -/
def stepZ (times more : Int) (k : Nat) (p : Int × Int) : Int × Int := if p.1 % 2 = 0 then (p.1 / 2, p.2) else ((times * p.1 + more) / 2, p.2 + 2 ^ k)
section
variable {prog : Program} {w : World} {A : Around} {E : Value → Shared → Prop} {s : Shared} {h₀ : Heap} {L a : Addr} {m : Str → Option Value}
/-- an item of a tuple of the ground -/
theorem item_tupG {value slice : Expr} {v : Value} {vs : List Value} {k : Int} {u : Tok} {Q : Value → Shared → Prop} (F : Fr h₀ L s.heap m) (hm : h₀.get? a = some (tupOf vs)) (h0 : 0 ≤ k) (h1 : k < 2 ^ 63) (hv : vs[k.toNat]? = some v) (h : Q v s)
    (hs : subscripted slice false (.ref a) (.int k u) = operate [.ref a, .int k u] (getItem (.ref a) (.int k u)) := by with_unfolding_all rfl) (hg : ∀ r, letTemporaryGo value (.ref a) r = pure () := by intro _; with_unfolding_all rfl) :
    wpAny (model prog w) A (subscriptTail value slice (.ref a) (.int k u)) Q E s := by
  run_tac Mine.mark
  have hlt : k.toNat < vs.length := (List.getElem?_eq_some_iff.mp hv).1
  refine item_tupleL (l := vs) (j := k.toNat) ⟨_, F.keep _ _ hm, rfl, _, rfl⟩ (by omega) h1 ?_ hv h hs hg
  unfold seqIndex?
  simp only [if_neg (show ¬ k < 0 by omega)]
  rw [if_pos]
  simp only [Bool.and_eq_true, decide_eq_true_eq]
  omega
  run_tac Mine.shrink
end
theorem step_even {times more x b : Int} {k : Nat} (h : x.fmod 2 = 0) : stepZ times more k (x, b) = (x.fdiv 2, b) := by
  rw [Int.fmod_eq_emod_of_nonneg _ (by decide)] at h
  rw [Int.fdiv_eq_ediv_of_nonneg _ (by decide)]
  exact if_pos h
theorem step_odd {times more x b : Int} {k : Nat} (h : x.fmod 2 ≠ 0) : stepZ times more k (x, b) = ((times * x + more).fdiv 2, b + 2 ^ ((k : Nat) : Int).toNat) := by
  rw [Int.fmod_eq_emod_of_nonneg _ (by decide)] at h
  rw [Int.fdiv_eq_ediv_of_nonneg _ (by decide), Int.toNat_natCast]
  exact if_neg h
end Mine
namespace Mine
section
variable {prog : Program} {w : World} {A : Around} {s : Shared} {env : Env} {h₀ : Heap} {E : Value → Shared → Prop}
/-- a turn of a loop whose ledger may grow has ended -/
def EndG (h₀ : Heap) (L : Addr) (fp : List Addr) (J : (Str → Option Value) → List (Addr × Obj) → Prop) (own : List (Addr × Obj)) (s₁ s₃ : Shared) : Prop :=
  ∃ h' tk m' news', s₃ = { s₁ with heap := h', toks := tk } ∧ Fr h₀ L h' m' ∧ News h₀ L h' (news' ++ own) ∧ (∀ p ∈ news', p.1 ∉ fp) ∧ J m' news'
def EndGQ (h₀ : Heap) (L : Addr) (fp : List Addr) (J : (Str → Option Value) → List (Addr × Obj) → Prop) (own : List (Addr × Obj)) (s₁ : Shared) (Q : Flow → Shared → Prop) (f : Flow) (s₃ : Shared) : Prop :=
  match f with
  | .next | .cont => EndG h₀ L fp J own s₁ s₃
  | .brk => Q .next s₃
  | .ret v => Q (.ret v) s₃
/-- a for loop by an invariant over the frame's names and a ledger that may grow -/
def LoopG (prog : Program) (w : World) (A : Around) (h₀ : Heap) (env : Env) (x : Str) (body : List Stmt) (Q : Flow → Shared → Prop) (E : Value → Shared → Prop) (it : Value) (s : Shared) : Prop :=
  ∃ (I : Addr) (fp wr : List Addr) (n : Nat) (P : Nat → Value → Prop) (St : Nat → Heap → Prop) (m : Str → Option Value) (news : List (Addr × Obj)) (J : Nat → (Str → Option Value) → List (Addr × Obj) → Prop),
    it = .ref I ∧ Walks prog w A I fp wr n P St ∧ (∀ i h, St i h → ∀ b ∈ fp, ∃ o, h.get? b = some o) ∧ env.locals ∉ fp ∧ (∀ b ∈ wr, h₀.get? b = none) ∧ (∀ p ∈ news, p.1 ∉ fp) ∧ St 0 s.heap ∧ Fr h₀ env.locals s.heap m ∧ News h₀ env.locals s.heap news ∧ J 0 m news ∧
    (∀ i v m₁ news₁ h tk own, i < n → P i v → J i m₁ news₁ → (∀ p ∈ news₁, p.1 ∉ fp) → (∀ b ∈ fp, ∃ o, h.get? b = some o) → Fr h₀ env.locals h (fun y => if y = x then some v else m₁ y) → News h₀ env.locals h (news₁ ++ own) →
      wpAny (model prog w) A (execs body env) (EndGQ h₀ env.locals fp (J (i + 1)) own { s with heap := h, toks := tk } Q) E { s with heap := h, toks := tk }) ∧
    ∀ h' tk m' news', Fr h₀ env.locals h' m' → News h₀ env.locals h' news' → J n m' news' → Q .next { s with heap := h', toks := tk }
theorem forLoopG {R : Result → Shared → Prop} {x : Str} {px : Pos} {body : List Stmt} {I : Addr} {fp wr : List Addr} {n : Nat} {P : Nat → Value → Prop} {St : Nat → Heap → Prop} {m : Str → Option Value}
    {news : List (Addr × Obj)} (W : Walks prog w A I fp wr n P St) (hIo : ∀ i h, St i h → ∀ b ∈ fp, ∃ o, h.get? b = some o) (hx : env.kindOf x = some .local)
    (hp : (env.scope.kind == .class || (env.scope.kind == .module && env.locals != env.globals)) = false)
    (hLf : env.locals ∉ fp) (hwr : ∀ b ∈ wr, h₀.get? b = none) (hnf : ∀ p ∈ news, p.1 ∉ fp)
    (hst : St 0 s.heap) (F : Fr h₀ env.locals s.heap m) (N : News h₀ env.locals s.heap news)
    (J : Nat → (Str → Option Value) → List (Addr × Obj) → Prop) (h0 : J 0 m news)
    (step : ∀ i v m₁ news₁ h tk own, i < n → P i v → J i m₁ news₁ → (∀ p ∈ news₁, p.1 ∉ fp) → (∀ b ∈ fp, ∃ o, h.get? b = some o) → Fr h₀ env.locals h (fun y => if y = x then some v else m₁ y) → News h₀ env.locals h (news₁ ++ own) →
      wpAny (model prog w) A (execs body env) (EndGQ h₀ env.locals fp (J (i + 1)) own { s with heap := h, toks := tk } (fun f s' => R (.ok f) s')) (notedBy (model prog w) A env fun e s' => R (.error e) s') { s with heap := h, toks := tk })
    (hR : ∀ h' tk m' news', Fr h₀ env.locals h' m' → News h₀ env.locals h' news' → J n m' news' → R (.ok .next) { s with heap := h', toks := tk }) :
    codeAny (model prog w) A (.forLoop (.Name x px) (.ref I) body [] env) R s := by
  run_tac Mine.mark
  have hLw : env.locals ∉ wr := fun h => hLf (W.sub _ h)
  have old : ∀ b o, h₀.get? b = some o → b ∉ wr := fun b o e hb => by rw [hwr b hb] at e; cases e
  refine codeAny_forLoop
    (fun k s' => ∃ h' tk m' news' i, s' = { s with heap := h', toks := tk } ∧ St i h' ∧ Fr h₀ env.locals h' m' ∧ News h₀ env.locals h' news' ∧ (∀ p ∈ news', p.1 ∉ fp) ∧ J i m' news' ∧ i ≤ n ∧ k = n + 1 - i) ?_ (n + 1)
    ⟨s.heap, s.toks, m, news, 0, rfl, hst, F, N, hnf, h0, Nat.zero_le _, rfl⟩
  rintro k s' ⟨h', tk, m', news', i, rfl, hst', F', N', hnf', hJ, hi, rfl⟩
  have next : ∀ h₁ : Heap, (∀ b o, b ∉ wr → h'.get? b = some o → h₁.get? b = some o) → Fr h₀ env.locals h₁ m' ∧ News h₀ env.locals h₁ news' := fun h₁ hk₁ =>
    ⟨⟨F'.ns.at' fun o e => hk₁ _ o hLw e, fun b o e => hk₁ b o (old b o e) (F'.keep b o e), F'.above⟩, fun p hp => ⟨hk₁ _ _ (fun q => hnf' p hp (W.sub _ q)) (N' p hp).1, (N' p hp).2⟩⟩
  by_cases hlt : i < n
  · refine W.item i _ _ _ hlt hst' fun v h₁ tk₁ hP hst₁ hk₁ => ?_
    obtain ⟨F₁, N₁⟩ := next h₁ hk₁
    refine wpAny_assign_Name (wpAny_storeName_local hx F₁.ns (fun h₂ hn₂ hs₂ => ?_) hp)
    have F₂ := F₁.set hn₂ hs₂
    have Nown : News h₀ env.locals h₂ (ownOf h₀ fp h₂) := news_ownOf hLf
    have hst₂ : St (i + 1) h₂ := W.frame _ _ _ hst₁ fun b hb o e => (hs₂.2 b fun q => hLf (q ▸ hb)).trans e
    have N₂ : News h₀ env.locals h₂ (news' ++ ownOf h₀ fp h₂) := fun p hp => (List.mem_append.mp hp).elim ((N₁.set hs₂) p) (Nown p)
    have back : ∀ {s₃}, EndG h₀ env.locals fp (J (i + 1)) (ownOf h₀ fp h₂) { s with heap := h₂, toks := tk₁ + 1 } s₃ →
        ∃ m, m < n + 1 - i ∧ ∃ h' tk m' news' i, s₃ = { s with heap := h', toks := tk } ∧ St i h' ∧ Fr h₀ env.locals h' m' ∧ News h₀ env.locals h' news' ∧ (∀ p ∈ news', p.1 ∉ fp) ∧ J i m' news' ∧ i ≤ n ∧ m = n + 1 - i := by
      rintro s₃ ⟨h₃', tk₃, m₂, nx, rfl, F₃, N₃, hf₃, hJ₃⟩
      refine ⟨n + 1 - (i + 1), by omega, h₃', tk₃, m₂, nx, i + 1, rfl, ?_, F₃, fun p hp => N₃ p (List.mem_append_left _ hp), hf₃, hJ₃, hlt, rfl⟩
      refine W.frame _ _ _ hst₁ fun b hb o e => ?_
      have e₂ : h₂.get? b = some o := (hs₂.2 b fun q => hLf (q ▸ hb)).trans e
      cases hn : h₀.get? b with
      | some o₀ =>
        have : o₀ = o := by have := F₂.keep b o₀ hn; rw [e₂] at this; exact (Option.some.inj this).symm
        exact this ▸ F₃.keep b o₀ hn
      | none => exact (N₃ _ (List.mem_append_right _ (mem_ownOf hb hn e₂))).1
    refine wpAny_mono (step i v m' news' _ _ (ownOf h₀ fp h₂) hlt hP hJ hnf' (hIo _ _ hst₂) F₂ N₂) (fun f s₃ h₃ => ?_) fun _ _ e => e
    cases f with
    | ret v => exact h₃
    | brk => exact h₃
    | cont => exact back h₃
    | next => exact back h₃
  · have hin : i = n := by omega
    subst hin
    refine W.done _ _ _ hst' fun h₁ tk₁ hk₁ => ?_
    obtain ⟨F₁, N₁⟩ := next h₁ hk₁
    exact wpAny_execs_nil (hR h₁ tk₁ m' news' F₁ N₁ hJ)
  run_tac Mine.shrink
theorem forG {Q : Flow → Shared → Prop} {x : Str} {px pos : Pos} {iter : Expr} {body : List Stmt} {m : Str → Option Value} (_F : Fr h₀ env.locals s.heap m) (hx : env.kindOf x = some .local)
    (hp : (env.scope.kind == .class || (env.scope.kind == .module && env.locals != env.globals)) = false)
    (h : wpAny (model prog w) A (eval iter env) (fun xv s₁ => wpAny (model prog w) A (pyIter xv) (fun it s₂ => LoopG prog w A h₀ env x body Q E it s₂) E s₁) E s)
    (hs : ∀ x, foldedSetIterable iter env x = pure x := by intro _; rfl)
    (hE : PassesOwn (model prog w) A env E := by passes_own) :
    wpAny (model prog w) A (exec (.For (.Name x px) iter body [] pos) env) Q E s := by
  run_tac Mine.mark
  refine wpAny_For (wpAny_mono h (fun xv s₁ h₁ => wpAny_mono h₁ (fun it s₂ h₂ => ?_) fun _ _ e => e) fun _ _ e => e) hs
  obtain ⟨I, fp, wr, n, P, St, m, news, J, rfl, W, hIo, hLf, hwr, hnf, hst, F, N, h0, step, hQ⟩ := h₂
  exact forLoopG (R := fun r s' => match r with | .ok f => Q f s' | .error e => cameBackBy (model prog w) A env E e s') W hIo hx hp hLf hwr hnf hst F N J h0
    (fun i v m₁ news₁ h tk own a b c d e f g => wpAny_passesOwn hE (step i v m₁ news₁ h tk own a b c d e f g))
    (fun h' tk m' news' F' N' hJ => hQ h' tk m' news' F' N' hJ)
  run_tac Mine.shrink
end
section
variable {prog : Program} {w : World} {A A₀ : Around} {E : Value → Shared → Prop} {s : Shared} {K : Frag} {C L : Addr} {h₀ base : Heap} {m mg mb : Str → Option Value} {p : Program} {loose : List Str} {mean : ExcName → Option Value} {Q : Value → Shared → Prop}
/-- a lambda is entered: the whole heap is its ground -/
theorem code_lamS {env : Env} {outer : List Env} {R : Result → Shared → Prop} {name qual : Str} {params : Arguments} {body : Expr} {scope : Scope} {cl : List (Str × Addr)} {pm ctv : Value} {c' : Addr} {f : Addr} {args : Args} {binds : List (Str × Value)}
    (B : Below A₀ base outer h₀) (F : Fr h₀ L s.heap m) (X₀ : K.In h₀) (T : Top p loose mean mg mb h₀) (hA : A.frames = some (env :: outer)) (hf : env.frame = some L) (hke : env.scope.kind = .function)
    (ho : s.heap.get? f = some (kla_obj name qual params body scope cl pm c' ctv)) (hcd : s.heap.CodeRec (.ref c') qual) (hroom : A.depth < recursionLimit)
    (hbind : bindArgs (kla_fn name qual params body scope cl pm (.ref c') ctv) args = pure binds) (hloc : ∀ y ∈ binds, scope.names.lookup y.1 = some .local)
    (h : ∀ L' h₁, Fr s.heap L' h₁ (fun y => binds.reverse.lookup y) → News s.heap L' h₁ [] → Below A base (env :: outer) s.heap → K.In s.heap → Top p loose mean mg mb s.heap →
      wpAny (model prog w) (A.deeper (envX qual scope L' f (.ref c') cl)) (eval body (envX qual scope L' f (.ref c') cl))
        (fun v s' => R (.ok (.ret v)) s')
        (fun e s' => wpAny (model prog w) (A.deeper (envX qual scope L' f (.ref c') cl)) (leaving (envX qual scope L' f (.ref c') cl) e) (fun _ s'' => R (.error e) s'') (fun e' s'' => R (.error e') s'') s')
        { s with heap := h₁, toks := s.toks + binds.length })
    (hco : scope.isCoroutine = false) (hgen : scope.isGenerator = false) (hk : scope.kind = .function)
    (hcell : ∀ x ∈ scope.names, x.2 ≠ .cell) : codeAny (model prog w) A (.call (.ref f) args) R s := by
  run_tac Mine.mark
  obtain ⟨_, BG, _, _⟩ := groundX (R := R) (A := A) B F (News.nil (h₀ := h₀) (h := s.heap) (L := L)) hA hf hke
  refine kla_callFunE hroom ho rfl hco hgen rfl hcd ?_
  rw [hbind]
  refine wpAny_pure (wpAny_newFunctionEnv hcell hloc (fun h₁ hns hsb => ⟨((T.nolimit).keeps F.keep).fresh _ hsb, ?_⟩) hk)
  show codeAny _ _ (.expr body (envX qual scope s.heap.objs.size f (.ref c') cl)) _ _
  have hk₁ : ∀ b o, s.heap.get? b = some o → h₁.get? b = some o := fun b o e => hsb.extBut b o (Nat.ne_of_lt (Heap.lt_size e)) (Heap.get?_push_of_some _ e)
  exact kla_codeExpr (h _ h₁ ⟨hns, hk₁, Nat.le_refl _⟩ News.nil BG (X₀.keeps F.keep) (T.keeps F.keep))
  run_tac Mine.shrink
/-- a free name whose cell stands in the ground -/
theorem nameX_FG {a : Addr} {cn : Str} {cs : Scope} {ccd : Value} {cl : List (Str × Addr)} {x : Str} {pos : Pos} {v : Value} {c : Addr} {o : Obj} {M : Model} (F : Fr h₀ L s.heap m) (hc : cl.lookup x = some c) (hm : h₀.get? c = some o) (hd : o.data = .cell (some v)) (h : Q v s)
    (hk : cs.kind = .function := by rfl) (hx : (envX cn cs L a ccd cl).kindOf x = some .free := by rfl) (hb : (x == ("__debug__" : Str)) = false := by decide) (hn : (x == ("__classdict__" : Str)) = false := by decide) :
    wpAny M A (eval (.Name x pos) (envX cn cs L a ccd cl)) Q E s := wpAny_Name (wpAny_loadName_free hk hx hc ⟨o, F.keep _ _ hm, hd⟩ h hn) hb
/-- a def with cells is entered, one object of the heap stays out of its ground -/
theorem code_defCP {env : Env} {outer : List Env} {R : Result → Shared → Prop} {name qual : Str} {params : Arguments} {body : List Stmt} {scope : Scope} {dV kV doc pm cdv ct oc : Value} {an od : Option Addr} {osl : Array (Option Value)} {f P : Addr} {tab : Obj} {args : Args} {binds : List (Str × Value)}
    (B : Below A₀ base outer h₀) (F : Fr h₀ L s.heap m) (X₀ : K.In h₀) (T : Top p loose mean mg mb h₀) (N : News h₀ L s.heap [(P, tab)]) (hA : A.frames = some (env :: outer)) (hf : env.frame = some L) (hke : env.scope.kind = .function)
    (ho : K.lookup f = some ⟨oc, od, .func (fnOf name qual params body scope dV kV doc pm an cdv ct), osl⟩) (hcd : codeIn K cdv qual = true) (hroom : A.depth < recursionLimit)
    (hbind : BindsTo s (fnOf name qual params body scope dV kV doc pm an cdv ct) args binds) (hkind : (binds.all fun y => scope.names.lookup y.1 == some .local || scope.names.lookup y.1 == some .cell) = true)
    (hnd : ((cellsFrom 0 scope.names []).map (·.1)).Nodup)
    (h : ∀ g L' h₁ tk cells, (∀ b o, h₀.get? b = some o → g.get? b = some o) → (∀ b o, b ≠ P → s.heap.get? b = some o → g.get? b = some o) → Fr g L' h₁ (bindL (envOfC qual scope L' f cdv).kindOf binds fun _ => none) → News g L' h₁ (cells ++ [(P, tab)]) → (@LT.lt Nat _ P L') →
      CellsAre (bindC (envOfC qual scope L' f cdv).kindOf binds fun _ => none) (cellsFrom (L' + 1) scope.names []) cells → Below A base (env :: outer) g → K.In g → Top p loose mean mg mb g →
      wpAny (model prog w) (A.deeper (envOfC qual scope L' f cdv)) (execs body (envOfC qual scope L' f cdv))
        (fun fl s' => R (.ok (.ret (match fl with | .ret v => v | _ => .none))) s')
        (fun e s' => wpAny (model prog w) (A.deeper (envOfC qual scope L' f cdv)) (leaving (envOfC qual scope L' f cdv) e) (fun _ s'' => R (.error e) s'') (fun e' s'' => R (.error e') s'') s')
        { s with heap := h₁, toks := tk })
    (hco : scope.isCoroutine = false) (hgen : scope.isGenerator = false) (hk : scope.kind = .function) : codeAny (model prog w) A (.call (.ref f) args) R s := by
  run_tac Mine.mark
  obtain ⟨_, BG, st, _⟩ := groundX (R := R) (A := A) B F N hA hf hke
  have st : h₀.StaysIn (hideAll s.heap [P]) := st
  have BG : Below A base (env :: outer) (hideAll s.heap [P]) := BG
  have X := X₀.keeps F.keep
  refine codeAny_call_function hroom (X _ _ ho) rfl hco hgen rfl (codeRec_of X hcd) (hbind _ _ _ _ ?_)
  refine wpAny_newFunctionEnv_cells hk (kindsX hkind _) fun env' he s' x => ?_
  subst he
  refine ⟨(T.nolimit.keeps F.keep).keeps x.toInCall.keep, codeAny_func ?_⟩
  obtain ⟨h₁, tk, rfl, _⟩ := x.done
  have hk₁ := x.toInCall.keep
  obtain ⟨cells, NC, Y⟩ := Cl.news (h₀ := s.heap) (Nat.le_refl _) fun n c hm => ⟨x.cell n c (lookup_of_mem_nodup (cellsFrom_names scope.names 0 (s.heap.objs.size + 1) [] [] rfl ▸ hnd) hm), x.above n c hm⟩
  have hPlt : P < s.heap.objs.size := Heap.lt_size (N _ (.head _)).1
  have out : ∀ b, s.heap.get? b = none → (hideAll s.heap [P]).get? b = none := fun b hb => by
    cases e : (hideAll s.heap [P]).get? b with
    | none => rfl
    | some o => rw [of_hideAll _ e] at hb; cases hb
  refine h (hideAll s.heap [P]) s.heap.objs.size h₁ tk cells st (fun b o hb e => hideAll_get _ e (by simpa using hb)) ⟨x.toInCall.ns, fun b o e => hk₁ b o (of_hideAll _ e), Nat.le_of_eq (hideAll_size _ _)⟩ (fun q hq => ?_) hPlt Y BG (X₀.keeps st) (T.keeps st)
  · rcases List.mem_append.mp hq with hq | hq
    · exact ⟨(NC q hq).1, (NC q hq).2.1, out _ (NC q hq).2.2⟩
    · rw [List.mem_singleton.mp hq]
      exact ⟨hk₁ _ _ (N _ (.head _)).1, Nat.ne_of_lt hPlt, hideAll_none _ (by simp)⟩
  run_tac Mine.shrink
end
end Mine
namespace Mine
section
variable {prog : Program} {w : World} {A : Around} {E : Value → Shared → Prop} {s : Shared} {h₀ : Heap} {L r : Addr} {m : Str → Option Value} {news : List (Addr × Obj)}
theorem range_at {h₀ h : Heap} {L r : Addr} {m : Str → Option Value} {a b c : Int} {t u v : Tok} (F : Fr h₀ L h m) (hr : IsRange h₀ r a b c t u v) : IsRange h r a b c t u v := F.keep _ _ hr
abbrev rangeIt (n : Nat) : Obj := { cls := .type "range_iterator", data := .fields #[rawInt 0, rawInt n, rawInt 1] }
theorem iter_range {n : Nat} {t u v : Tok} {Q : Value → Shared → Prop} (F : Fr h₀ L s.heap m) (N : News h₀ L s.heap news) (hr : IsRange s.heap r 0 n 1 t u v) (hn : n ≤ 1000000)
    (h : ∀ I h', Fr h₀ L h' m → News h₀ L h' ((I, rangeIt n) :: news) → (∀ p ∈ news, p.1 < I) → Q (.ref I) { s with heap := h' }) :
    wpAny (model prog w) A (call (.builtin "iter") [.ref r]) Q E s := by
  run_tac Mine.mark
  refine call_function_entry (by decide +kernel) (by decide +kernel) kdk_entry_iter (kdk_args_iter _) ?_
  unfold Builtin.«iter»
  refine wpAny_bind (m := someArgs "iter" 1 2 _) (wpAny_of_eq (a := [Value.ref r]) (by first | rfl | kernel_rfl!) ?_)
  show wpAny _ _ (pyIter (.ref r) >>= _) _ _ _
  obtain ⟨f1, f2⟩ := range_facts n hn
  refine wpAny_bind (wpAny_pyIter_range hr f1 ?_)
  rw [f2]
  exact wpAny_pure ⟨_, rfl, h _ _ (F.push _) (News.push F N _ rfl) (fun q hq => Heap.lt_size (N q hq).1)⟩
  run_tac Mine.shrink
end
section
variable {prog : Program} {w : World} {A : Around} {s : Shared} {env : Env} {h₀ : Heap} {E : Value → Shared → Prop}
theorem LoopG.rangeIter {Q : Flow → Shared → Prop} {x : Str} {body : List Stmt} {I : Addr} {n : Nat} {m : Str → Option Value}
    (hh : A.handled = none) (hI : s.heap.get? I = some (rangeIt n)) (hIn : h₀.get? I = none) (hIL : I ≠ env.locals)
    (F : Fr h₀ env.locals s.heap m) (J : Nat → (Str → Option Value) → List (Addr × Obj) → Prop) (h0 : J 0 m [])
    (step : ∀ i t m₁ news₁ h tk own, i < n → J i m₁ news₁ → (∀ p ∈ news₁, p.1 ∉ [I]) → (∀ b ∈ [I], ∃ o, h.get? b = some o) → Fr h₀ env.locals h (fun y => if y = x then some (.int ((i : Nat) : Int) t) else m₁ y) → News h₀ env.locals h (news₁ ++ own) →
      wpAny (model prog w) A (execs body env) (EndGQ h₀ env.locals [I] (J (i + 1)) own { s with heap := h, toks := tk } Q) E { s with heap := h, toks := tk })
    (done : ∀ h' tk m' news', Fr h₀ env.locals h' m' → News h₀ env.locals h' news' → J n m' news' → Q .next { s with heap := h', toks := tk }) :
    wpAny (model prog w) A (pyIter (.ref I)) (fun it s₂ => LoopG prog w A h₀ env x body Q E it s₂) E s := by
  run_tac Mine.mark
  have e1 : (0 : Int) + ((0 : Nat) : Int) * 1 = 0 := by omega
  have e2 : (n : Int) - ((0 : Nat) : Int) = n := by omega
  have hst : IsRangeIter s.heap I (0 + ((0 : Nat) : Int) * 1) ((n : Int) - ((0 : Nat) : Int)) 1 := by
    rw [e1, e2]; exact hI
  refine (Walks.range (prog := prog) (w := w) hh I 0 1 n).self 0 s _ _ hst ?_
  refine ⟨I, [I], [I], n, _, _, m, [], J, rfl, Walks.range hh I 0 1 n, ?_, ?_, ?_, ?_, hst, F, ?_, h0, ?_, done⟩
  · intro i h st b hb
    rw [List.mem_singleton.mp hb]; exact ⟨_, st⟩
  · intro q; exact hIL (List.mem_singleton.mp q).symm
  · intro b hb; rw [List.mem_singleton.mp hb]; exact hIn
  · intro p hp; exact absurd hp List.not_mem_nil
  · exact News.nil
  · rintro i v m₁ news₁ h tk own hin ⟨t, rfl⟩ a b c F₁ N₁
    have e0 : (0 : Int) + (i : Int) * 1 = ((i : Nat) : Int) := by omega
    rw [e0] at F₁
    exact step i t m₁ news₁ h tk own hin a b c F₁ N₁
  run_tac Mine.shrink
end
/-- what is told of the value that a reduce carries -/
def Carry (R : Value → List (Addr × Obj) → Prop) (x y : Str) (led0 : List (Addr × Obj)) (m₀ : Str → Option Value) (m : Str → Option Value) (nws : List (Addr × Obj)) : Prop :=
  ∃ v led, R v led ∧ Acc1 x y m₀ v m ∧ ∀ p ∈ led, p ∈ nws ∨ p ∈ led0
theorem fresh_news {h₀ h h' : Heap} {L : Addr} {m : Str → Option Value} {led led' nws : List (Addr × Obj)} (g : Grow h h') (hled : ∀ p ∈ led', h'.get? p.1 = some p.2 ∧ (p ∈ led ∨ h.get? p.1 = none)) (F₀ : Fr h₀ L h m) (N : News h₀ L h nws) :
    News h₀ L h' (led'.filter (fun p => (h.get? p.1).isNone) ++ nws) := fun p hp => by
  rcases List.mem_append.mp hp with hp | hp
  · obtain ⟨hm, hn⟩ := List.mem_filter.mp hp
    have hn : h.get? p.1 = none := by simpa using hn
    refine ⟨(hled p hm).1, fun q => ?_, ?_⟩
    · obtain ⟨o, e, _⟩ := PyProof.Rows.LCg.ns_obj F₀.ns
      rw [← q, hn] at e; cases e
    · cases e : h₀.get? p.1 with
      | none => rfl
      | some o => rw [F₀.keep _ _ e] at hn; cases hn
  · exact ⟨g _ _ (N p hp).1, (N p hp).2⟩
theorem carry_end {h₀ h h' : Heap} {L : Addr} {fp : List Addr} {R : Value → List (Addr × Obj) → Prop} {x y : Str} {led0 led led' nws own : List (Addr × Obj)} {m₀ m' : Str → Option Value} {r : Value} {s₁ : Shared} {tk : Nat} {P : Addr × Obj → Prop}
    (F : Fr h₀ L h' m') (N : News h₀ L h' (led'.filter (fun p => (h.get? p.1).isNone) ++ (nws ++ own))) (hf : ∀ p ∈ nws, p.1 ∉ fp) (hfp : ∀ b ∈ fp, ∃ o, h.get? b = some o)
    (hold : ∀ p ∈ led, p ∈ nws ∨ p ∈ led0) (hled : ∀ p ∈ led', P p ∧ (p ∈ led ∨ h.get? p.1 = none)) (hR : R r led') (hA : Acc1 x y m₀ r m') :
    EndG h₀ L fp (Carry R x y led0 m₀) own s₁ { s₁ with heap := h', toks := tk } := by
  run_tac Mine.mark
  refine ⟨h', tk, m', led'.filter (fun p => (h.get? p.1).isNone) ++ nws, rfl, F, fun p hp => N p (by simpa [List.append_assoc] using hp), fun p hp => ?_, r, led', hR, hA, fun p hp => ?_⟩
  · rcases List.mem_append.mp hp with hp | hp
    · obtain ⟨hm, hn⟩ := List.mem_filter.mp hp
      intro q
      obtain ⟨o, e⟩ := hfp _ q
      rw [e] at hn; cases hn
    · exact hf p hp
  · rcases (hled p hp).2 with q | q
    · rcases hold p q with q | q
      · exact .inl (List.mem_append_right _ q)
      · exact .inr q
    · exact .inl (List.mem_append_left _ (List.mem_filter.mpr ⟨hp, by rw [q]; rfl⟩))
  run_tac Mine.shrink
/-- a call that turns the carried value -/
def Turns (K : Frag) (prog : Program) (w : World) (f : Addr) (need n : Nat) (Base : Heap → Prop) (R : Nat → Value → List (Addr × Obj) → Prop) : Prop :=
  ∀ i v led t, i < n → R i v led → Spec K prog w f need [v, .int ((i : Nat) : Int) t] (fun h => Base h ∧ ∀ p ∈ led, h.get? p.1 = some p.2)
    (fun h h' r => ∃ led', R (i + 1) r led' ∧ ∀ p ∈ led', h'.get? p.1 = some p.2 ∧ (p ∈ led ∨ h.get? p.1 = none))
/-- a code's table: nothing made yet, or the one function of the text -/
def TabIs (qual : Str) (ln cl : Int) (h : Heap) (tab : Obj) : Prop := tab = tabObj #[] ∨ ∃ c', tab = tabObj #[rawInt ln, rawInt cl, .ref c'] ∧ h.CodeRec (.ref c') qual
/-- a contract of a def whose code's table may be written at its first call -/
abbrev SpecP (K : Frag) (prog : Program) (w : World) (c P : Addr) (qual : Str) (ln cl : Int) (f : Addr) (need : Nat) (vs : List Value) (Pre : Heap → Prop) (Out : Heap → Heap → Value → Prop) : Prop :=
  ∀ (tab : Obj) (p : Program) (loose : List Str) (mean : ExcName → Option Value) (mg mb : Str → Option Value) (dp un : Nat) (gd : Option (List Code)) (cn : Str) (cs : Scope) (a : Addr) (ccd : Value) (cl' : List (Str × Addr)) (outer : List Env) (A₀ : Around) (base h₀ : Heap) (L : Addr) (m : Str → Option Value) (s : Shared) (Q E : Value → Shared → Prop),
    Below A₀ base outer h₀ → Fr h₀ L s.heap m → K.In h₀ → Top p loose mean mg mb h₀ → CodeHd h₀ c P → News h₀ L s.heap [(P, tab)] → TabIs qual ln cl s.heap tab → cs.kind = .function → dp + need < recursionLimit → un + 8 * need + 8 < cLine → Pre s.heap →
    (∀ r h' tk' tab', (∀ b o, b ≠ P → s.heap.get? b = some o → h'.get? b = some o) → h'.get? P = some tab' → TabIs qual ln cl h' tab' → Out s.heap h' r → Q r { s with heap := h', toks := tk' }) →
    wpAny (model prog w) (ktrTop dp un gd cn cs L a ccd cl' outer) (call (.ref f) vs) Q E s
/-- all that stands in the ground and the ledger stands -/
def BaseOf (g : Heap) (news : List (Addr × Obj)) (h : Heap) : Prop := (∀ b o, g.get? b = some o → h.get? b = some o) ∧ ∀ p ∈ news, h.get? p.1 = some p.2
theorem BaseOf.of {g h : Heap} {L : Addr} {m : Str → Option Value} {news : List (Addr × Obj)} (F : Fr g L h m) (N : News g L h news) : BaseOf g news h := ⟨F.keep, fun p hp => (N p hp).1⟩
theorem BaseOf.grow {g h h' : Heap} {news : List (Addr × Obj)} (gr : Grow h h') (b : BaseOf g news h) : BaseOf g news h' := ⟨fun c o e => gr _ _ (b.1 c o e), fun p hp => gr _ _ (b.2 p hp)⟩
theorem base_news {g h : Heap} {L : Addr} {m : Str → Option Value} {news : List (Addr × Obj)} (F : Fr g L h m) (N : News g L h news) : ∃ B : Heap → Prop, B = BaseOf g news ∧ B h := ⟨_, rfl, .of F N⟩
theorem ne_frag {K : Frag} {g : Heap} {D k : Addr} {o : Obj} (X : K.In g) (hk : K.lookup k = some o) (hn : g.get? D = none) : Value.ref D ≠ Value.ref k := fun e => by
  have e : D = k := by injection e
  rw [e, X _ _ hk] at hn; cases hn
/-- the walk after i steps -/
def walkZ (times more x : Int) : Nat → Int × Int
  | 0 => (x, 0)
  | i + 1 => stepZ times more i (walkZ times more x i)
/-- what the walk carries: a pair on the heap -/
def PairAt (q : Nat → Int × Int) (i : Nat) (v : Value) (led : List (Addr × Obj)) : Prop := ∃ D u1 u2, v = .ref D ∧ led = [(D, tupOf [.int (q i).1 u1, .int (q i).2 u2])]
end Mine
namespace Mine
/-- a code's table, told over the ledger: nothing made yet, or the one function of the text -/
def TabL (P : Addr) (qual : Str) (ln cl : Int) (tl : List (Addr × Obj)) : Prop :=
  tl = [(P, tabObj #[])] ∨ ∃ c' oc vs t, tl = [(P, tabObj #[rawInt ln, rawInt cl, .ref c']), (c', oc)] ∧ oc.data = .fields vs ∧ vs[1]? = some (.str qual t)
/-- a contract of a def whose code's table may be written at its first call -/
abbrev SpecT (K : Frag) (prog : Program) (w : World) (c P : Addr) (qual : Str) (ln cl : Int) (f : Addr) (need : Nat) (vs : List Value) (Pre : Heap → Prop) (Out : Heap → Heap → Value → Prop) : Prop :=
  ∀ (tl : List (Addr × Obj)) (p : Program) (loose : List Str) (mean : ExcName → Option Value) (mg mb : Str → Option Value) (dp un : Nat) (gd : Option (List Code)) (cn : Str) (cs : Scope) (a : Addr) (ccd : Value) (cl' : List (Str × Addr)) (outer : List Env) (A₀ : Around) (base h₀ : Heap) (L : Addr) (m : Str → Option Value) (s : Shared) (Q E : Value → Shared → Prop),
    Below A₀ base outer h₀ → Fr h₀ L s.heap m → K.In h₀ → Top p loose mean mg mb h₀ → CodeHd h₀ c P → News h₀ L s.heap tl → TabL P qual ln cl tl → cs.kind = .function → dp + need < recursionLimit → un + 8 * need + 8 < cLine → Pre s.heap →
    (∀ r h' tk' tl', (∀ b o, b ≠ P → s.heap.get? b = some o → h'.get? b = some o) → TabL P qual ln cl tl' → (∀ p ∈ tl', h'.get? p.1 = some p.2 ∧ (p.1 = P ∨ p ∈ tl ∨ s.heap.get? p.1 = none)) → Out s.heap h' r → Q r { s with heap := h', toks := tk' }) →
    wpAny (model prog w) (ktrTop dp un gd cn cs L a ccd cl' outer) (call (.ref f) vs) Q E s
theorem natAbs_le {x : Int} {B : Nat} (h : -(B : Int) ≤ x ∧ x ≤ B) : x.natAbs ≤ B := by omega
theorem walkZ_fst (times more x : Int) (hx : -5000 ≤ x ∧ x ≤ 5000) (htm : -10 ≤ times ∧ times ≤ 10) (hmo : -10 ≤ more ∧ more ≤ 10) : ∀ i, (walkZ times more x i).1.natAbs + 10 ≤ 6000 * 5 ^ i
  | 0 => by show x.natAbs + 10 ≤ _; simp; omega
  | i + 1 => by
    have ih := walkZ_fst times more x hx htm hmo i
    show (stepZ times more i (walkZ times more x i)).1.natAbs + 10 ≤ _
    generalize walkZ times more x i = p at ih
    obtain ⟨y, b⟩ := p
    have e : times * y ≤ 10 * (y.natAbs : Int) ∧ -(10 * (y.natAbs : Int)) ≤ times * y := by
      have h1 : (times * y).natAbs = times.natAbs * y.natAbs := Int.natAbs_mul _ _
      have h2 : times.natAbs * y.natAbs ≤ 10 * y.natAbs := Nat.mul_le_mul_right _ (by omega)
      omega
    rw [Nat.pow_succ]
    dsimp only at ih
    unfold stepZ
    dsimp only
    split
    · show (y / 2).natAbs + 10 ≤ _; omega
    · show ((times * y + more) / 2).natAbs + 10 ≤ _
      generalize times * y = z at e
      omega
theorem walkZ_snd (times more x : Int) : ∀ i, 0 ≤ (walkZ times more x i).2 ∧ (walkZ times more x i).2 < 2 ^ i
  | 0 => by show (0 : Int) ≤ 0 ∧ (0 : Int) < _; simp
  | i + 1 => by
    have ih := walkZ_snd times more x i
    show 0 ≤ (stepZ times more i (walkZ times more x i)).2 ∧ (stepZ times more i (walkZ times more x i)).2 < _
    generalize walkZ times more x i = p at ih
    obtain ⟨y, b⟩ := p
    rw [Int.pow_succ]
    dsimp only at ih
    unfold stepZ
    dsimp only
    split
    · dsimp only; omega
    · dsimp only; omega
theorem walk_pre (times more x : Int) (hx : -5000 ≤ x ∧ x ≤ 5000) (htm : -10 ≤ times ∧ times ≤ 10) (hmo : -10 ≤ more ∧ more ≤ 10) (i : Nat) (hi : i < 7) :
    (-1000000000 ≤ (walkZ times more x i).1 ∧ (walkZ times more x i).1 ≤ 1000000000) ∧ 0 ≤ (walkZ times more x i).2 ∧ (walkZ times more x i).2 ≤ 1000 := by
  run_tac Mine.mark
  have h1 := walkZ_fst times more x hx htm hmo i
  have h2 := walkZ_snd times more x i
  have h3 : 5 ^ i ≤ 5 ^ 6 := Nat.pow_le_pow_right (by decide) (by omega)
  have h4 : (2 : Int) ^ i ≤ 2 ^ 6 := by
    have : (2 : Nat) ^ i ≤ 2 ^ 6 := Nat.pow_le_pow_right (by decide) (by omega)
    exact_mod_cast this
  have e3 : (5 : Nat) ^ 6 = 15625 := by decide
  have e4 : (2 : Int) ^ 6 = 64 := by decide
  rw [e3] at h3
  rw [e4] at h4
  generalize (5 : Nat) ^ i = a at *
  generalize (2 : Int) ^ i = b at *
  omega
  run_tac Mine.shrink
/-- what walk x keeps -/
def keptZ (times more x : Int) : Int := (walkZ times more x 7).2
/-- a tuple is another object than one that is no tuple -/
theorem is_tup_other {M : Model} {A : Around} {E : Value → Shared → Prop} {s : Shared} {x y : Addr} {ox oy : Obj} {Q : Value → Shared → Prop} (hxy : x ≠ y) (hx : s.heap.get? x = some ox) (hy : s.heap.get? y = some oy) (hnt : oy.cls ≠ .type "tuple") (h : Q (.bool false) s) :
    wpAny M A (compareOp .Is (.ref x) (.ref y)) Q E s := by
  run_tac Mine.mark
  show wpAny M A (do return .bool (← isSame (.ref x) (.ref y))) Q E s
  refine wpAny_bind ?_
  show wpAny M A (if (x == y) = true then pure true else _) _ E s
  rw [if_neg (by simpa using hxy)]
  refine wpAny_bind (wpAny_load hx (wpAny_bind (wpAny_load hy ?_)))
  split
  · rename_i h1 _ _; exact absurd h1 hnt
  · exact wpAny_pure (wpAny_pure h)
  run_tac Mine.shrink
section
variable {prog : Program} {w : World} {A : Around} {E : Value → Shared → Prop} {s : Shared} {h₀ : Heap} {L : Addr} {m : Str → Option Value} {news : List (Addr × Obj)}
abbrev rngOf (n : Int) (t u v : Tok) : Obj := { cls := .type "range", dict := none, data := .fields #[.int 0 t, .int n u, .int 1 v], slots := #[] }
/-- a range, told in the ledger -/
theorem range_news {n : Int} {t : Tok} {Q : Value → Shared → Prop} (F : Fr h₀ L s.heap m) (N : News h₀ L s.heap news)
    (h : ∀ r h' tk u v, Fr h₀ L h' m → News h₀ L h' ((r, rngOf n u t v) :: news) → (∀ p ∈ news, p.1 < r) → Q (.ref r) { s with heap := h', toks := tk }) :
    wpAny (model prog w) A (call (.type "range") [.int n t]) Q E s :=
  call_range_1 (h _ _ _ _ _ (F.push _) (News.push F N _ rfl) (fun q hq => Heap.lt_size (N q hq).1))
end
theorem fresh_back {h₀ h : Heap} {L D : Addr} {m : Str → Option Value} (e : h.get? D = none) (F : Fr h₀ L h m) : h₀.get? D = none := by
  cases q : h₀.get? D with
  | none => rfl
  | some o => rw [F.keep _ _ q] at e; cases e
/-- what a call has made joins the ledger -/
theorem led_news {h₀ h h' : Heap} {L : Addr} {m : Str → Option Value} {led led' nws : List (Addr × Obj)} (g : Grow h h') (hled : ∀ p ∈ led', h'.get? p.1 = some p.2 ∧ (p ∈ led ∨ h.get? p.1 = none)) (F₀ : Fr h₀ L h m) (N : News h₀ L h nws) (hl : ∀ p ∈ led, p ∈ nws) :
    News h₀ L h' (led' ++ nws) := fun p hp => by
  rcases List.mem_append.mp hp with hp | hp
  · obtain ⟨h1, h2⟩ := hled p hp
    rcases h2 with q | q
    · exact ⟨h1, (N p (hl p q)).2⟩
    · refine ⟨h1, fun e => ?_, fresh_back q F₀⟩
      obtain ⟨o, e', _⟩ := PyProof.Rows.LCg.ns_obj F₀.ns
      rw [← e, q] at e'; cases e'
  · exact ⟨g _ _ (N p hp).1, (N p hp).2⟩
theorem BaseOf.at' {g h : Heap} {news : List (Addr × Obj)} {a : Addr} {o : Obj} (b : BaseOf g news h) (m : (a, o) ∈ news) : h.get? a = some o := b.2 _ m
theorem tab_end {g h h3 : Heap} {L P c3 : Addr} {oc3 : Obj} {vs3 : Array Value} {t3 : Tok} {qual : Str} {ln cl : Int} {news tl : List (Addr × Obj)} (gk : ∀ b o, b ≠ P → h.get? b = some o → g.get? b = some o) (N3 : News g L h3 news)
    (hc : (c3, oc3) ∈ news) (hP : (P, tabObj #[rawInt ln, rawInt cl, .ref c3]) ∈ news) (d1 : oc3.data = .fields vs3) (d2 : vs3[1]? = some (.str qual t3)) (hlt : @LT.lt Nat _ P c3) :
    ∃ tl', TabL P qual ln cl tl' ∧ ∀ p ∈ tl', h3.get? p.1 = some p.2 ∧ (p.1 = P ∨ p ∈ tl ∨ h.get? p.1 = none) := by
  run_tac Mine.mark
  refine ⟨_, .inr ⟨c3, oc3, vs3, t3, rfl, d1, d2⟩, fun p hp => ?_⟩
  rcases List.mem_cons.mp hp with rfl | hp
  · exact ⟨(N3 _ hP).1, .inl rfl⟩
  · rw [List.mem_singleton.mp hp]
    refine ⟨(N3 _ hc).1, .inr (.inr ?_)⟩
    cases e : h.get? c3 with
    | none => rfl
    | some o =>
      have := gk c3 o (Nat.ne_of_gt hlt) e
      rw [(N3 _ hc).2.2] at this; cases this
  run_tac Mine.shrink
theorem tab_ne {h : Heap} {P c3 : Addr} {a b : Int} {v : Value} {oc3 : Obj} {vs3 : Array Value} {t3 : Tok} {qual : Str} (e : h.get? P = some (tabObj #[rawInt a, rawInt b, v])) (hc : h.get? c3 = some oc3) (d1 : oc3.data = .fields vs3) (d2 : vs3[1]? = some (.str qual t3)) : c3 ≠ P := by
  run_tac Mine.mark
  rintro rfl
  rw [hc] at e
  cases e
  cases d1
  cases d2
  run_tac Mine.shrink
theorem TabL.mem {P : Addr} {qual : Str} {ln cl : Int} {tl : List (Addr × Obj)} (h : TabL P qual ln cl tl) : ∃ ps, (P, tabObj ps) ∈ tl := by
  rcases h with rfl | ⟨c', oc, vs, t, rfl, _⟩
  · exact ⟨_, .head _⟩
  · exact ⟨_, .head _⟩
theorem SpecT.use {prog : Program} {w : World} {A₀ : Around} {E : Value → Shared → Prop} {s : Shared} {K : Frag} {L f a c P : Addr} {h₀ base : Heap} {m mg mb : Str → Option Value} {p : Program} {loose : List Str} {mean : ExcName → Option Value} {Q : Value → Shared → Prop}
    {qual : Str} {ln cl : Int} {rest tl : List (Addr × Obj)} {need dp un : Nat} {gd : Option (List Code)} {cn : Str} {cs : Scope} {ccd : Value} {cl' : List (Str × Addr)} {outer : List Env} {vs : List Value} {Pre : Heap → Prop} {Out : Heap → Heap → Value → Prop} (S : SpecT K prog w c P qual ln cl f need vs Pre Out)
    (B : Below A₀ base outer h₀) (F : Fr h₀ L s.heap m) (X : K.In h₀) (T : Top p loose mean mg mb h₀) (C0 : CodeHd h₀ c P) (N : News h₀ L s.heap (rest ++ tl)) (hT : TabL P qual ln cl tl) (off : OffL tl rest) (hk : cs.kind = .function) (hd : dp + need < recursionLimit) (hu : un + 8 * need + 8 < cLine) (hp : Pre s.heap)
    (h : ∀ r h' tk' tl', Fr h₀ L h' m → News h₀ L h' (rest ++ tl') → TabL P qual ln cl tl' → OffL tl' rest → Out s.heap h' r → Q r { s with heap := h', toks := tk' }) :
    wpAny (model prog w) (ktrTop dp un gd cn cs L a ccd cl' outer) (call (.ref f) vs) Q E s := by
  run_tac Mine.mark
  obtain ⟨ps, hPm⟩ := hT.mem
  have nP := N _ (List.mem_append_right _ hPm)
  refine S tl _ _ _ _ _ _ _ _ _ _ _ _ _ _ _ _ _ _ _ _ _ _ B F X T C0 (fun p hp => N p (List.mem_append_right _ hp)) hT hk hd hu hp fun r h' tk' tl' g hT' hl ho => h r h' tk' tl' ⟨F.ns.at' fun o e => g _ o (Ne.symm nP.2.1) e, fun b o e => g b o (fun q => ?_) (F.keep b o e), F.above⟩ (fun q hq => ?_) hT' (fun p hp q hq => ?_) ho
  · rw [q, nP.2.2] at e; cases e
  · rcases List.mem_append.mp hq with hq | hq
    · have z := N q (List.mem_append_left _ hq)
      exact ⟨g _ _ (Ne.symm (off _ hPm q hq)) z.1, z.2⟩
    · obtain ⟨h1, h2⟩ := hl q hq
      rcases h2 with e | e | e
      · exact ⟨h1, by rw [e]; exact nP.2⟩
      · exact ⟨h1, (N q (List.mem_append_right _ e)).2⟩
      · refine ⟨h1, fun e' => ?_, fresh_back e F⟩
        obtain ⟨o, e2, _⟩ := PyProof.Rows.LCg.ns_obj F.ns
        rw [← e', e] at e2; cases e2
  · rcases (hl p hp).2 with e | e | e
    · rw [e]; exact off _ hPm q hq
    · exact off p e q hq
    · intro e'
      have := (N q (List.mem_append_left _ hq)).1
      rw [← e', e] at this; cases this
  run_tac Mine.shrink
theorem news_last {h₀ h : Heap} {L : Addr} {l : List (Addr × Obj)} {x : Addr × Obj} (N : News h₀ L h l) (e : l = l.dropLast ++ [x]) : ∃ fx, fx = l.dropLast ∧ News h₀ L h (fx ++ [x]) := ⟨_, rfl, by rw [← e]; exact N⟩
/-- the body of the last def of a program's text, and its names -/
def lastDef (p : Program) : List Stmt := match p.main.body.getLast? with
  | some (.FunctionDef _ _ b _ _ _ _ _ _ _) => b
  | _ => []
def lastScope (p : Program) : Scope := match p.main.body.getLast? with
  | some (.FunctionDef _ _ _ _ _ _ sc _ _ _) => sc
  | _ => default
/-- the whole answer is True: what is wanted of the end is put aside -/
theorem close_true {M : Model} {A : Around} {E : Value → Shared → Prop} {s : Shared} {t : Sem Flow} {post : Flow → Shared → Prop} {h₀ : Heap} {L : Addr} {m : Str → Option Value} (P : Addr) (_F : Fr h₀ L s.heap m)
    (hEnd : ∀ h' tk' m', Fr h₀ L h' m' → (∃ ps, h'.get? P = some (tabObj ps)) → post (.ret (.bool true)) { s with heap := h', toks := tk' })
    (h : ∀ Q : Flow → Shared → Prop, (∀ h' tk' m', Fr h₀ L h' m' → (∃ ps, h'.get? P = some (tabObj ps)) → Q (.ret (.bool true)) { s with heap := h', toks := tk' }) → wpAny M A t Q E s) : wpAny M A t post E s := h post hEnd
end Mine
namespace Mine
/-- the greatest number up to N for which a downward closed word holds -/
structure LowIs (N : Nat) (P : Nat → Prop) (d : Nat) : Prop where
  le : d ≤ N
  here : P d
  next : d < N → ¬ P (d + 1)
theorem LowIs.unique {N d e : Nat} {P : Nat → Prop} (down : ∀ j k, k ≤ j → P j → P k) (h : LowIs N P d) (g : LowIs N P e) : d = e := by
  run_tac Mine.mark
  rcases Nat.lt_trichotomy d e with q | q | q
  · exact absurd (down e (d + 1) q g.here) (h.next (Nat.lt_of_lt_of_le q g.le))
  · exact q
  · exact absurd (down d (e + 1) q h.here) (g.next (Nat.lt_of_lt_of_le q h.le))
  run_tac Mine.shrink
theorem LowIs.congr {N d : Nat} {P P' : Nat → Prop} (e : ∀ k, k ≤ N → (P k ↔ P' k)) (h : LowIs N P d) : LowIs N P' d :=
  ⟨h.le, (e d h.le).mp h.here, fun q r => h.next q ((e (d + 1) q).mpr r)⟩
theorem LowIs.ge {N d k : Nat} {P : Nat → Prop} (down : ∀ j k, k ≤ j → P j → P k) (h : LowIs N P d) (hk : k ≤ N) (p : P k) : k ≤ d := by
  rcases Nat.lt_or_ge d k with q | q
  · exact absurd (down k (d + 1) q p) (h.next (by omega))
  · exact q
theorem LowIs.to {N d k : Nat} {P : Nat → Prop} (down : ∀ j k, k ≤ j → P j → P k) (h : LowIs N P d) (hk : k ≤ d) : P k := down d k hk h.here
/-- the first number below N at which p holds, N if there is none -/
def firstIn (N : Nat) (p : Nat → Bool) : Nat := ((List.range N).find? p).getD N
theorem first_spec (N : Nat) (p : Nat → Bool) : firstIn N p ≤ N ∧ (∀ j, j < firstIn N p → p j = false) ∧ (firstIn N p < N → p (firstIn N p) = true) := by
  run_tac Mine.mark
  unfold firstIn
  cases h : (List.range N).find? p with
  | none =>
    refine ⟨Nat.le_refl _, fun j hj => ?_, fun q => absurd q (Nat.lt_irrefl _)⟩
    have := List.find?_eq_none.mp h j (List.mem_range.mpr hj)
    simpa using this
  | some b =>
    obtain ⟨h1, h2, h3⟩ := List.find?_range_eq_some.mp h
    refine ⟨Nat.le_of_lt (List.mem_range.mp h2), fun j hj => ?_, fun _ => h1⟩
    have := h3 j hj
    simpa using this
  run_tac Mine.shrink
theorem bits_eq {a b k : Nat} : a % 2 ^ k = b % 2 ^ k ↔ ∀ i, i < k → a.testBit i = b.testBit i := by
  run_tac Mine.mark
  constructor
  · intro h i hi
    have := congrArg (Nat.testBit · i) h
    simpa [Nat.testBit_mod_two_pow, hi] using this
  · intro h
    apply Nat.eq_of_testBit_eq
    intro i
    rw [Nat.testBit_mod_two_pow, Nat.testBit_mod_two_pow]
    by_cases q : i < k
    · rw [h i q]
    · simp [q]
  run_tac Mine.shrink
theorem bits_down {a b : Nat} : ∀ j k, k ≤ j → a % 2 ^ j = b % 2 ^ j → a % 2 ^ k = b % 2 ^ k := fun _ _ h e => bits_eq.mpr fun i hi => bits_eq.mp e i (by omega)
/-- the lowest place where two numbers part -/
def lowDiff (N a b : Nat) : Nat := firstIn N fun k => a.testBit k != b.testBit k
theorem lowDiff_is (N a b : Nat) : LowIs N (fun k => a % 2 ^ k = b % 2 ^ k) (lowDiff N a b) := by
  run_tac Mine.mark
  obtain ⟨h1, h2, h3⟩ := first_spec N fun k => a.testBit k != b.testBit k
  refine ⟨h1, bits_eq.mpr fun i hi => by simpa using h2 i hi, fun q e => ?_⟩
  have := bits_eq.mp e _ (Nat.lt_succ_self _)
  have h4 := h3 q
  simp [lowDiff] at this h4
  exact h4 this
  run_tac Mine.shrink
theorem lowDiff_same {N a b : Nat} (h : a % 2 ^ N = b % 2 ^ N) : lowDiff N a b = N := Nat.le_antisymm (lowDiff_is N a b).le ((lowDiff_is N a b).ge bits_down (Nat.le_refl _) h)
/-- how often 2 divides, at most N -/
def lowZ (N : Nat) (z : Int) : Nat := firstIn N fun k => decide (z / 2 ^ k % 2 = 1)
theorem pow_pos2 (k : Nat) : (0 : Int) < 2 ^ k := Int.pow_pos (by decide)
theorem dvd_step {z : Int} {k : Nat} (h : (2 : Int) ^ k ∣ z) : (2 : Int) ^ (k + 1) ∣ z ↔ z / 2 ^ k % 2 = 0 := by
  obtain ⟨q, rfl⟩ := h
  rw [Int.mul_ediv_cancel_left _ (Int.ne_of_gt (pow_pos2 k)), Int.pow_succ]
  constructor
  · rintro ⟨c, e⟩
    rw [Int.mul_assoc] at e
    have := Int.eq_of_mul_eq_mul_left (Int.ne_of_gt (pow_pos2 k)) e
    omega
  · intro e
    refine ⟨q / 2, ?_⟩
    rw [Int.mul_assoc, show (2 : Int) * (q / 2) = q by omega]
theorem dvd_down {z : Int} : ∀ j k, k ≤ j → (2 : Int) ^ j ∣ z → (2 : Int) ^ k ∣ z := fun j k h e => Int.dvd_trans ⟨2 ^ (j - k), by rw [← Int.pow_add]; congr 1; omega⟩ e
theorem lowZ_is (N : Nat) (z : Int) : LowIs N (fun k => (2 : Int) ^ k ∣ z) (lowZ N z) := by
  run_tac Mine.mark
  obtain ⟨h1, h2, h3⟩ := first_spec N fun k => decide (z / 2 ^ k % 2 = 1)
  have low : ∀ d, d ≤ lowZ N z → (2 : Int) ^ d ∣ z := by
    intro d
    induction d with
    | zero => intro _; simp
    | succ d ih =>
      intro hd
      have q := ih (by omega)
      have e := h2 d (by unfold lowZ at hd; omega)
      rw [decide_eq_false_iff_not] at e
      exact (dvd_step q).mpr (by omega)
  refine ⟨h1, low _ (Nat.le_refl _), fun q e => ?_⟩
  have h4 := of_decide_eq_true (h3 q)
  have h5 := (dvd_step (low _ (Nat.le_refl _))).mp e
  unfold lowZ at h5
  omega
  run_tac Mine.shrink
theorem lowZ_diff {N a b : Nat} {z : Int} (h : ∀ k, k ≤ N → (a % 2 ^ k = b % 2 ^ k ↔ (2 : Int) ^ k ∣ z)) : lowDiff N a b = lowZ N z :=
  LowIs.unique dvd_down ((lowDiff_is N a b).congr h) (lowZ_is N z)
theorem lowZ_neg (N : Nat) (z : Int) : lowZ N (-z) = lowZ N z :=
  LowIs.unique dvd_down ((lowZ_is N (-z)).congr fun _ _ => Int.dvd_neg) (lowZ_is N z)

/-- numbers that are told apart at the place where their images are -/
def Iso (N : Nat) (g : Int → Nat) : Prop := ∀ x y : Int, ∀ k, k ≤ N → (g x % 2 ^ k = g y % 2 ^ k ↔ (2 : Int) ^ k ∣ x - y)
theorem Iso.low {N : Nat} {g : Int → Nat} (h : Iso N g) (x y : Int) : lowDiff N (g x) (g y) = lowZ N (x - y) := lowZ_diff (h x y)
/-- the search, flag by flag -/
def foundN (N : Nat) (g : Int → Nat) (w : Nat) : Nat → Nat
  | 0 => 0
  | k + 1 => foundN N g w k + if lowDiff N (g (foundN N g w k)) w = k then 2 ^ k else 0
theorem found_ok {N : Nat} {g : Int → Nat} (h : Iso N g) (w : Nat) : ∀ k, k ≤ N → g (foundN N g w k) % 2 ^ k = w % 2 ^ k
  | 0, _ => by simp [Nat.mod_one]
  | k + 1, hk => by
    have ih := found_ok h w k (by omega)
    unfold foundN
    generalize foundN N g w k = f at ih
    have L := lowDiff_is N (g f) w
    have hge : k ≤ lowDiff N (g f) w := L.ge bits_down (by omega) ih
    split
    · rename_i e
      have hn : ¬ g f % 2 ^ (k + 1) = w % 2 ^ (k + 1) := fun q => by
        have := L.next (by omega)
        rw [e] at this
        exact this q
      have e1 : (((f + 2 ^ k : Nat) : Int) - (f : Int)) = 2 ^ k := by push_cast; omega
      have h1 : g (f + 2 ^ k : Nat) % 2 ^ k = g f % 2 ^ k := (h _ _ k (by omega)).mpr (by rw [e1]; exact Int.dvd_refl _)
      have h2 : ¬ g (f + 2 ^ k : Nat) % 2 ^ (k + 1) = g f % 2 ^ (k + 1) := fun q => by
        have := (h _ _ (k + 1) hk).mp q
        rw [e1] at this
        have h3 := (dvd_step (Int.dvd_refl ((2 : Int) ^ k))).mp this
        rw [Int.ediv_self (Int.ne_of_gt (pow_pos2 k))] at h3
        omega
      rw [Nat.mod_pow_succ, Nat.mod_pow_succ] at hn h2 ⊢
      rw [h1] at h2 ⊢
      rw [ih] at hn h2 ⊢
      have b1 := Nat.mod_two_eq_zero_or_one (g f / 2 ^ k)
      have b2 := Nat.mod_two_eq_zero_or_one (w / 2 ^ k)
      have b3 := Nat.mod_two_eq_zero_or_one (g (f + 2 ^ k : Nat) / 2 ^ k)
      rcases b1 with b1 | b1 <;> rcases b2 with b2 | b2 <;> rcases b3 with b3 | b3 <;> rw [b1] at hn h2 <;> rw [b2] at hn ⊢ <;> rw [b3] at h2 ⊢ <;> first | rfl | exact absurd rfl hn | exact absurd rfl h2
    · rename_i e
      rw [Nat.add_zero]
      exact L.to (k := k + 1) bits_down (by omega)
theorem found_lt (N : Nat) (g : Int → Nat) (w : Nat) : ∀ k, foundN N g w k < 2 ^ k
  | 0 => by simp [foundN]
  | k + 1 => by
    have := found_lt N g w k
    unfold foundN
    rw [Nat.pow_succ]
    split <;> omega
theorem found_part {N : Nat} {g : Int → Nat} (h : Iso N g) (w k : Nat) (hk : k < N) : k ≤ lowDiff N (g (foundN N g w k)) w :=
  (lowDiff_is N _ w).ge bits_down (by omega) (found_ok h w k (by omega))
theorem found_end {N : Nat} {g : Int → Nat} (h : Iso N g) {w : Nat} (hw : w < 2 ^ N) (hg : ∀ x, g x < 2 ^ N) : g (foundN N g w N) = w := by
  have := found_ok h w N (Nat.le_refl _)
  rwa [Nat.mod_eq_of_lt (hg _), Nat.mod_eq_of_lt hw] at this

/-- the words of the flags -/
structure WordsOk (N : Nat) (ws : List Str) : Prop where
  len : ws.length = N
  nodup : ws.Nodup
  good : ∀ w ∈ ws, GoodW w
  zero : Str.ofString "0x0" ∉ ws
theorem WordsOk.empty {N : Nat} {ws : List Str} (h : WordsOk N ws) : Str.empty ∉ ws := fun q => by have := (h.good _ q).pos; exact absurd this (by decide)
theorem front2 {r1 r2 : List Str} {n : Nat} (h1 : r1.take n = r2.take n) (hn : n ≤ r1.length) (hne : r1[n]? ≠ r2[n]?) : frontN [r1, r2] = n := by
  run_tac Mine.mark
  obtain ⟨m, hm, hf, hall, hend⟩ := front_char r1 [r2]
  have e : frontN [r1, r2] = m := by unfold frontN; rw [hf, List.length_take]; omega
  rw [e]
  rcases Nat.lt_trichotomy m n with q | q | q
  · rcases hend with h | ⟨r, hr, h⟩
    · omega
    · rcases List.mem_cons.mp hr with rfl | hr
      · exact absurd rfl h
      · rw [List.mem_singleton.mp hr] at h
        have := congrArg (List.take (m + 1)) h1
        rw [List.take_take, List.take_take, Nat.min_eq_left (by omega)] at this
        exact absurd this.symm h
  · exact q
  · have := congrArg (·[n]?) (hall r2 (.tail _ (.head _)))
    simp only [List.getElem?_take, if_pos q] at this
    exact absurd this.symm hne
  run_tac Mine.shrink
theorem front_self (r : List Str) : frontN [r, r] = r.length := by
  run_tac Mine.mark
  obtain ⟨m, hm, hf, hall, hend⟩ := front_char r [r]
  have e : frontN [r, r] = m := by unfold frontN; rw [hf, List.length_take]; omega
  rw [e]
  rcases hend with h | ⟨r', hr, h⟩
  · exact h
  · have : r' = r := by
      rcases List.mem_cons.mp hr with q | hr
      · exact q
      · exact List.mem_singleton.mp hr
    rw [this] at h; exact absurd rfl h
  run_tac Mine.shrink
theorem idx_at {N : Nat} {ws : List Str} (h : WordsOk N ws) {k : Nat} (hk : k < N) : idxOr N ws (ws.getD k Str.empty) = k := by
  run_tac Mine.mark
  have hk' : k < ws.length := by rw [h.len]; exact hk
  have e : ws.getD k Str.empty = ws[k] := by simp [List.getD, List.getElem?_eq_getElem hk']
  rw [e]
  unfold idxOr
  rw [if_pos (List.getElem_mem hk'), List.Nodup.idxOf_getElem h.nodup k hk']
  run_tac Mine.shrink
theorem word_inj {N : Nat} {ws : List Str} (h : WordsOk N ws) {j k : Nat} (hj : j < N) (hk : k < N) (e : ws.getD j Str.empty = ws.getD k Str.empty) : j = k := by
  have := idx_at h hj
  rw [e, idx_at h hk] at this
  omega
theorem idx_out {N : Nat} {ws : List Str} {w : Str} (h : w ∉ ws) : idxOr N ws w = (N : Nat) := if_neg h
theorem word_mem {N : Nat} {ws : List Str} (h : WordsOk N ws) {k : Nat} (hk : k < N) : ws.getD k Str.empty ∈ ws := by
  have hk' : k < ws.length := by rw [h.len]; exact hk
  have e : ws.getD k Str.empty = ws[k] := by simp [List.getD, List.getElem?_eq_getElem hk']
  rw [e]; exact List.getElem_mem hk'
def rawNames (n f : Nat) (ws : List Str) : List Str := ((List.range n).filter f.testBit).map (ws.getD · Str.empty)
theorem due_raw (n f : Nat) (ws : List Str) : dueNames n f ws = if rawNames n f ws = [] then [Str.ofString "0x0"] else rawNames n f ws := rfl
theorem raw_split (d e f : Nat) (ws : List Str) : rawNames (d + 1 + e) f ws = rawNames d f ws ++ ((if f.testBit d then [ws.getD d Str.empty] else []) ++ (((List.range e).map (d + 1 + ·)).filter f.testBit).map (ws.getD · Str.empty)) := by
  unfold rawNames
  rw [List.range_add, List.filter_append, List.map_append, filter_succ, List.append_assoc]
theorem raw_congr {d a b : Nat} (ws : List Str) (h : ∀ i, i < d → a.testBit i = b.testBit i) : rawNames d a ws = rawNames d b ws := by
  unfold rawNames
  rw [List.filter_congr fun k hk => h k (List.mem_range.mp hk)]
theorem tail_cases (d e b : Nat) (ws : List Str) : (((List.range e).map (d + 1 + ·)).filter b.testBit).map (ws.getD · Str.empty) = [] ∨ ∃ j l, d < j ∧ j < d + 1 + e ∧ (((List.range e).map (d + 1 + ·)).filter b.testBit).map (ws.getD · Str.empty) = ws.getD j Str.empty :: l := by
  run_tac Mine.mark
  cases h : ((List.range e).map (d + 1 + ·)).filter b.testBit with
  | nil => exact .inl rfl
  | cons j l =>
    have hj : j ∈ ((List.range e).map (d + 1 + ·)).filter b.testBit := by rw [h]; exact .head _
    obtain ⟨i, hi, rfl⟩ := List.mem_map.mp (List.mem_filter.mp hj).1
    have := List.mem_range.mp hi
    exact .inr ⟨_, _, by omega, by omega, rfl⟩
  run_tac Mine.shrink
/-- the lower of the two words that stand behind the front -/
theorem part_le {N d a b : Nat} {ws : List Str} (h : WordsOk N ws) (hd : d < N) (he : ∀ i, i < d → a.testBit i = b.testBit i) (ha : a.testBit d = true) (hb : b.testBit d = false) :
    ∃ n, frontN [dueNames N a ws, dueNames N b ws] = n ∧ frontN [dueNames N b ws, dueNames N a ws] = n ∧ idxOr N ws ((dueNames N a ws).getD n Str.empty) = (d : Nat) ∧ ((d : Nat) : Int) ≤ idxOr N ws ((dueNames N b ws).getD n Str.empty) := by
  run_tac Mine.mark
  obtain ⟨e, rfl⟩ : ∃ e, N = d + 1 + e := ⟨N - (d + 1), by omega⟩
  have ea := raw_split d e a ws
  have eb := raw_split d e b ws
  rw [ha, if_pos rfl] at ea
  rw [hb, if_neg (by simp), List.nil_append, ← raw_congr ws he] at eb
  have hna : rawNames (d + 1 + e) a ws ≠ [] := by rw [ea]; simp
  have dA : dueNames (d + 1 + e) a ws = rawNames d a ws ++ (ws.getD d Str.empty :: (((List.range e).map (d + 1 + ·)).filter a.testBit).map (ws.getD · Str.empty)) := by rw [due_raw, if_neg hna, ea]; rfl
  have hi := idx_at h hd
  have getA : (dueNames (d + 1 + e) a ws)[(rawNames d a ws).length]? = some (ws.getD d Str.empty) := by rw [dA, List.getElem?_append_right (Nat.le_refl _)]; simp
  have lenA : (rawNames d a ws).length ≤ (dueNames (d + 1 + e) a ws).length := by rw [dA, List.length_append]; omega
  have takeA : (dueNames (d + 1 + e) a ws).take (rawNames d a ws).length = rawNames d a ws := by rw [dA, List.take_left]
  have fin : ∀ r2 : List Str, r2.take (rawNames d a ws).length = rawNames d a ws → (rawNames d a ws).length ≤ r2.length → r2[(rawNames d a ws).length]? ≠ some (ws.getD d Str.empty) → ((d : Nat) : Int) ≤ idxOr (d + 1 + e) ws (r2.getD (rawNames d a ws).length Str.empty) →
      ∃ n, frontN [dueNames (d + 1 + e) a ws, r2] = n ∧ frontN [r2, dueNames (d + 1 + e) a ws] = n ∧ idxOr (d + 1 + e) ws ((dueNames (d + 1 + e) a ws).getD n Str.empty) = (d : Nat) ∧ ((d : Nat) : Int) ≤ idxOr (d + 1 + e) ws (r2.getD n Str.empty) := by
    intro r2 t2 l2 n2 i2
    refine ⟨_, front2 (by rw [takeA, t2]) lenA (by rw [getA]; exact Ne.symm n2), front2 (by rw [takeA, t2]) l2 (by rw [getA]; exact n2), ?_, i2⟩
    rw [List.getD, getA]; exact hi
  rcases tail_cases d e b ws with q | ⟨j, l, hj1, hj2, q⟩
  · rw [q, List.append_nil] at eb
    by_cases hz : rawNames d a ws = []
    · have dB : dueNames (d + 1 + e) b ws = [Str.ofString "0x0"] := by rw [due_raw, if_pos (by rw [eb, hz])]
      rw [dB]
      refine fin _ (by rw [hz]; rfl) (by rw [hz]; simp) ?_ ?_
      · rw [hz]
        intro q2
        have q2 : some (Str.ofString "0x0") = some (ws.getD d Str.empty) := q2
        exact h.zero (by rw [Option.some.inj q2]; exact word_mem h hd)
      · rw [hz]
        show ((d : Nat) : Int) ≤ idxOr _ ws (Str.ofString "0x0")
        rw [idx_out h.zero]; omega
    · have dB : dueNames (d + 1 + e) b ws = rawNames d a ws := by rw [due_raw, eb, if_neg hz]
      rw [dB]
      refine fin _ (List.take_length ..) (Nat.le_refl _) ?_ ?_
      · rw [List.getElem?_eq_none (Nat.le_refl _)]; exact fun q => nomatch q
      · rw [List.getD, List.getElem?_eq_none (Nat.le_refl _)]
        show ((d : Nat) : Int) ≤ idxOr _ ws Str.empty
        rw [idx_out h.empty]; omega
  · have hnb : rawNames (d + 1 + e) b ws ≠ [] := by rw [eb, q]; simp
    have dB : dueNames (d + 1 + e) b ws = rawNames d a ws ++ (ws.getD j Str.empty :: l) := by rw [due_raw, if_neg hnb, eb, q]
    have getB : (dueNames (d + 1 + e) b ws)[(rawNames d a ws).length]? = some (ws.getD j Str.empty) := by rw [dB, List.getElem?_append_right (Nat.le_refl _)]; simp
    refine fin _ (by rw [dB, List.take_left]) (by rw [dB, List.length_append]; omega) ?_ ?_
    · rw [getB]
      intro q2
      have := word_inj h hj2 hd (Option.some.inj q2)
      omega
    · rw [List.getD, getB]
      show ((d : Nat) : Int) ≤ idxOr _ ws (ws.getD j Str.empty)
      rw [idx_at h hj2]; omega
  run_tac Mine.shrink
theorem part_low {N : Nat} {ws : List Str} (h : WordsOk N ws) (a b : Nat) : partZ N (dueNames N a ws) (dueNames N b ws) ws = (lowDiff N a b : Nat) := by
  run_tac Mine.mark
  obtain ⟨h1, h2, h3⟩ := first_spec N fun k => a.testBit k != b.testBit k
  change lowDiff N a b ≤ N at h1
  change ∀ j, j < lowDiff N a b → _ at h2
  change lowDiff N a b < N → (a.testBit (lowDiff N a b) != b.testBit (lowDiff N a b)) = true at h3
  generalize lowDiff N a b = d at h1 h2 h3
  have he : ∀ i, i < d → a.testBit i = b.testBit i := fun i hi => by simpa using h2 i hi
  rcases Nat.lt_or_ge d N with hd | hd
  · have h4 := h3 hd
    unfold partZ
    cases ha : a.testBit d with
    | true =>
      have hb : b.testBit d = false := by
        cases hb : b.testBit d with
        | false => rfl
        | true => rw [ha, hb] at h4; simp at h4
      obtain ⟨n, e1, e2, e3, e4⟩ := part_le h hd he ha hb
      rw [e1, e3]
      omega
    | false =>
      have hb : b.testBit d = true := by
        cases hb : b.testBit d with
        | true => rfl
        | false => rw [ha, hb] at h4; simp at h4
      obtain ⟨n, e1, e2, e3, e4⟩ := part_le h hd (fun i hi => (he i hi).symm) hb ha
      rw [e2, e3]
      omega
  · have e : dueNames N a ws = dueNames N b ws := by rw [due_raw, due_raw, raw_congr ws fun i hi => he i (by omega)]
    unfold partZ
    rw [e, front_self, List.getD, List.getElem?_eq_none (Nat.le_refl _)]
    show min (idxOr N ws Str.empty) (idxOr N ws Str.empty) = _
    rw [idx_out h.empty]
    omega
  run_tac Mine.shrink
/-- the words of seven or eight flags in a row -/
def wordsOf (N k : Nat) : List Str := (List.range N).map fun i => flagName (i + k)
theorem names_nodup : ((List.range 32).map flagName).Nodup := by decide +kernel
theorem name_inj {i j : Nat} (hi : i < 32) (hj : j < 32) (e : flagName i = flagName j) : i = j := by
  run_tac Mine.mark
  have at' : ∀ k, k < 32 → List.idxOf (flagName k) ((List.range 32).map flagName) = k := fun k hk => by
    have := names_nodup.idxOf_getElem k (by simpa using hk)
    rwa [List.getElem_map, List.getElem_range] at this
  rw [← at' i hi, e, at' j hj]
  run_tac Mine.shrink
theorem zero_none : ∀ i, i < 32 → flagName i ≠ Str.ofString "0x0" := by decide +kernel
theorem wordsOf_ok {N k : Nat} (h : N + k ≤ 32) : WordsOk N (wordsOf N k) where
  len := by simp [wordsOf]
  nodup := by
    unfold wordsOf
    rw [List.nodup_iff_pairwise_ne, List.pairwise_map]
    refine List.Pairwise.imp_of_mem (fun {a b} ha hb hab q => ?_) (List.nodup_iff_pairwise_ne.mp List.nodup_range)
    have h1 := List.mem_range.mp ha
    have h2 := List.mem_range.mp hb
    exact hab (by have := name_inj (by omega) (by omega) q; omega)
  good := fun w hw => by
    obtain ⟨i, hi, rfl⟩ := List.mem_map.mp hw
    have := List.mem_range.mp hi
    exact flagName_good _ (by omega)
  zero := fun q => by
    obtain ⟨i, hi, e⟩ := List.mem_map.mp q
    have := List.mem_range.mp hi
    exact zero_none _ (by omega) e
theorem names_due {N k f : Nat} (h : N + k ≤ 32) (hf : f < 2 ^ N) : flagNames (f * 2 ^ k) = dueNames N f (wordsOf N k) := by
  run_tac Mine.mark
  have e : flagsUpTo (f * 2 ^ k) 32 = rawNames N f (wordsOf N k) := by
    obtain ⟨r, hr⟩ : ∃ r, 32 = k + (N + r) := ⟨32 - (N + k), by omega⟩
    unfold flagsUpTo rawNames
    rw [hr, List.range_add, List.filter_append]
    have e1 : (List.range k).filter (fun i => (f * 2 ^ k).testBit i) = [] := List.filter_eq_nil_iff.mpr fun i hi => by
      rw [Nat.testBit_mul_two_pow]
      have := List.mem_range.mp hi
      simp [show ¬ k ≤ i by omega]
    rw [e1, List.nil_append, List.filter_map]
    have e2 : (List.range (N + r)).filter ((fun i => (f * 2 ^ k).testBit i) ∘ (k + ·)) = (List.range N).filter f.testBit := by
      rw [List.range_add, List.filter_append]
      have e3 : (((List.range r).map (N + ·)).filter ((fun i => (f * 2 ^ k).testBit i) ∘ (k + ·))) = [] := List.filter_eq_nil_iff.mpr fun i hi => by
        obtain ⟨j, hj, rfl⟩ := List.mem_map.mp hi
        simp only [Function.comp, Nat.testBit_mul_two_pow]
        rw [show k + (N + j) - k = N + j by omega, Nat.testBit_lt_two_pow (Nat.lt_of_lt_of_le hf (Nat.pow_le_pow_right (by decide) (by omega)))]
        simp
      rw [e3, List.append_nil]
      refine List.filter_congr fun i _ => ?_
      simp only [Function.comp, Nat.testBit_mul_two_pow]
      rw [show k + i - k = i by omega]
      simp
    rw [e2, List.map_map]
    refine List.map_congr_left fun i hi => ?_
    have hi := List.mem_range.mp (List.mem_filter.mp hi).1
    simp only [Function.comp, wordsOf]
    rw [List.getD, List.getElem?_map, List.getElem?_range hi]
    simp [Nat.add_comm]
  unfold flagNames
  rw [due_raw, e]
  by_cases hz : f = 0
  · subst hz
    have : rawNames N 0 (wordsOf N k) = [] := by
      unfold rawNames
      rw [List.filter_eq_nil_iff.mpr fun i _ => by simp]; rfl
    rw [this]; simp
  · have h1 : f * 2 ^ k ≠ 0 := Nat.ne_of_gt (Nat.mul_pos (by omega) (Nat.two_pow_pos k))
    have h2 : rawNames N f (wordsOf N k) ≠ [] := fun q => by
      obtain ⟨i, hi⟩ := testBit_some hz
      have hiN : i < N := by
        rcases Nat.lt_or_ge i N with q | q
        · exact q
        · rw [Nat.testBit_lt_two_pow (Nat.lt_of_lt_of_le hf (Nat.pow_le_pow_right (by decide) q))] at hi; cases hi
      unfold rawNames at q
      have := List.map_eq_nil_iff.mp q
      exact absurd (List.mem_filter.mpr ⟨List.mem_range.mpr hiN, hi⟩) (by rw [this]; exact List.not_mem_nil)
    rw [if_neg h1, if_neg h2]
  run_tac Mine.shrink
end Mine
namespace Mine
theorem pow_ne2 (k : Nat) : (2 : Int) ^ k ≠ 0 := Int.ne_of_gt (pow_pos2 k)
theorem odd_dvd {u z : Int} (hu : u % 2 = 1) : ∀ k : Nat, (2 : Int) ^ k ∣ u * z → (2 : Int) ^ k ∣ z
  | 0, _ => by simp
  | k + 1, h => by
    obtain ⟨q, rfl⟩ := odd_dvd hu k (dvd_down (k + 1) k (by omega) h)
    have e : u * ((2 : Int) ^ k * q) = 2 ^ k * (u * q) := by rw [← Int.mul_assoc, Int.mul_comm u, Int.mul_assoc]
    rw [e] at h
    have h1 := (dvd_step (Int.dvd_mul_right _ _)).mp h
    rw [Int.mul_ediv_cancel_left _ (pow_ne2 k), Int.mul_emod, hu] at h1
    rw [dvd_step (Int.dvd_mul_right _ _), Int.mul_ediv_cancel_left _ (pow_ne2 k)]
    omega
/-- a polynomial's value -/
def polyZ (c0 c1 c2 c3 c4 c5 x : Int) : Int := c0 + c1 * x + c2 * x ^ 2 + c3 * x ^ 3 + c4 * x ^ 4 + c5 * x ^ 5
def quoZ (c1 c2 c3 c4 c5 x y : Int) : Int := c1 + c2 * (x + y) + c3 * (x ^ 2 + x * y + y ^ 2) + c4 * (x ^ 3 + x ^ 2 * y + x * y ^ 2 + y ^ 3) + c5 * (x ^ 4 + x ^ 3 * y + x ^ 2 * y ^ 2 + x * y ^ 3 + y ^ 4)
theorem poly_diff (c0 c1 c2 c3 c4 c5 x y : Int) : polyZ c0 c1 c2 c3 c4 c5 x - polyZ c0 c1 c2 c3 c4 c5 y = quoZ c1 c2 c3 c4 c5 x y * (x - y) := by unfold polyZ quoZ; grind
theorem quo_even (c1 c2 c3 c4 c5 y d : Int) : ∃ z, quoZ c1 c2 c3 c4 c5 (y + 2 * d) y = 2 * z + c1 + c3 * y ^ 2 + c5 * y ^ 4 :=
  ⟨c2 * (y + d) + c3 * (2 * d ^ 2 + 3 * d * y + y ^ 2) + c4 * (4 * d ^ 3 + 8 * d ^ 2 * y + 6 * d * y ^ 2 + 2 * y ^ 3) + c5 * (8 * d ^ 4 + 20 * d ^ 3 * y + 20 * d ^ 2 * y ^ 2 + 10 * d * y ^ 3 + 2 * y ^ 4), by unfold quoZ; grind⟩
theorem sq_par (y : Int) : ∃ z, y ^ 2 = 2 * z + y := by
  run_tac Mine.mark
  have h01 : y % 2 = 0 ∨ y % 2 = 1 := by omega
  rcases h01 with h | h
  · exact ⟨2 * (y / 2) ^ 2 - y / 2, by have : y = 2 * (y / 2) := by omega
                                       generalize y / 2 = q at *; subst this; grind⟩
  · exact ⟨2 * (y / 2) ^ 2 + y / 2, by have : y = 2 * (y / 2) + 1 := by omega
                                       generalize y / 2 = q at *; subst this; grind⟩
  run_tac Mine.shrink
theorem quo_par (c1 c2 c3 c4 c5 y d : Int) : ∃ z, quoZ c1 c2 c3 c4 c5 (y + 2 * d) y = 2 * z + c1 + (c3 + c5) * y := by
  run_tac Mine.mark
  obtain ⟨a, ha⟩ := quo_even c1 c2 c3 c4 c5 y d
  obtain ⟨b, hb⟩ := sq_par y
  refine ⟨a + c3 * b + c5 * (2 * b ^ 2 + 2 * b * y + b), ?_⟩
  rw [ha, show y ^ 4 = (y ^ 2) ^ 2 by grind, hb]
  have := sq_par y
  grind
  run_tac Mine.shrink
theorem poly_par (c0 c1 c2 c3 c4 c5 x : Int) : ∃ z, polyZ c0 c1 c2 c3 c4 c5 x = 2 * z + c0 + (c1 + c2 + c3 + c4 + c5) * x := by
  run_tac Mine.mark
  obtain ⟨b, hb⟩ := sq_par x
  refine ⟨c2 * b + c3 * (b * x + b) + c4 * (2 * b ^ 2 + 2 * b * x + b) + c5 * (2 * b ^ 2 * x + 4 * b ^ 2 + 3 * b * x + b), ?_⟩
  unfold polyZ
  rw [show x ^ 3 = x ^ 2 * x by grind, show x ^ 4 = x ^ 2 * x ^ 2 by grind, show x ^ 5 = x ^ 2 * x ^ 2 * x by grind, hb]
  grind
  run_tac Mine.shrink
/-- Rivest's condition -/
def goodP (c1 c2 c3 c4 c5 : Int) : Prop := c1 % 2 = 1 ∧ (c2 + c4) % 2 = 0 ∧ (c3 + c5) % 2 = 0
def valN (c0 c1 c2 c3 c4 c5 x : Int) : Nat := (polyZ c0 c1 c2 c3 c4 c5 x % 256).toNat
theorem val_lt (c0 c1 c2 c3 c4 c5 x : Int) : valN c0 c1 c2 c3 c4 c5 x < 2 ^ 8 := by
  unfold valN
  generalize polyZ c0 c1 c2 c3 c4 c5 x = z
  omega
theorem val_mod (c0 c1 c2 c3 c4 c5 x y : Int) (k : Nat) (hk : k ≤ 8) : valN c0 c1 c2 c3 c4 c5 x % 2 ^ k = valN c0 c1 c2 c3 c4 c5 y % 2 ^ k ↔ (2 : Int) ^ k ∣ polyZ c0 c1 c2 c3 c4 c5 x - polyZ c0 c1 c2 c3 c4 c5 y := by
  run_tac Mine.mark
  have low : ∀ z : Int, (((z % 256).toNat % 2 ^ k : Nat) : Int) = z % 2 ^ k := fun z => by
    push_cast
    rw [Int.toNat_of_nonneg (Int.emod_nonneg _ (by decide))]
    exact Int.emod_emod_of_dvd z ⟨2 ^ (8 - k), by rw [← Int.pow_add, show k + (8 - k) = 8 by omega]; rfl⟩
  unfold valN
  generalize polyZ c0 c1 c2 c3 c4 c5 x = a
  generalize polyZ c0 c1 c2 c3 c4 c5 y = b
  have e : (a % 256).toNat % 2 ^ k = (b % 256).toNat % 2 ^ k ↔ a % 2 ^ k = b % 2 ^ k := by
    rw [← low a, ← low b]
    exact ⟨fun h => by rw [h], fun h => by exact_mod_cast h⟩
  rw [e, Int.emod_eq_emod_iff_emod_sub_eq_zero, Int.dvd_iff_emod_eq_zero]
  run_tac Mine.shrink
theorem mul_par {a b y : Int} (h : b % 2 = 0) : (a + b * y) % 2 = a % 2 := by
  rw [Int.add_emod, Int.mul_emod, h]
  simp
theorem val_iso {c0 c1 c2 c3 c4 c5 : Int} (h : goodP c1 c2 c3 c4 c5) : Iso 8 (valN c0 c1 c2 c3 c4 c5) := by
  run_tac Mine.mark
  obtain ⟨h1, h2, h3⟩ := h
  intro x y k hk
  rw [val_mod _ _ _ _ _ _ _ _ k hk, poly_diff]
  constructor
  · intro hd
    cases k with
    | zero => simp
    | succ k =>
      by_cases hxy : (x - y) % 2 = 0
      · refine odd_dvd ?_ _ hd
        obtain ⟨d, rfl⟩ : ∃ d, x = y + 2 * d := ⟨(x - y) / 2, by omega⟩
        obtain ⟨z, hz⟩ := quo_par c1 c2 c3 c4 c5 y d
        have := mul_par (a := c1) (y := y) h3
        rw [hz]
        omega
      · exfalso
        have h4 := dvd_down (k + 1) 1 (by omega) hd
        rw [← poly_diff c0] at h4
        obtain ⟨a, ha⟩ := poly_par c0 c1 c2 c3 c4 c5 x
        obtain ⟨b, hb⟩ := poly_par c0 c1 c2 c3 c4 c5 y
        rw [ha, hb] at h4
        obtain ⟨z, hz⟩ := h4
        have h5 : (c1 + c2 + c3 + c4 + c5) % 2 = 1 := by omega
        have h6 : ((c1 + c2 + c3 + c4 + c5) * (x - y)) % 2 = 1 := by rw [Int.mul_emod, h5]; omega
        have h7 : (c1 + c2 + c3 + c4 + c5) * (x - y) = (c1 + c2 + c3 + c4 + c5) * x - (c1 + c2 + c3 + c4 + c5) * y := by grind
        rw [h7] at h6
        generalize (c1 + c2 + c3 + c4 + c5) * x = X at *
        generalize (c1 + c2 + c3 + c4 + c5) * y = Y at *
        omega
  · intro hd
    exact Int.dvd_mul_of_dvd_right hd
  run_tac Mine.shrink
theorem lowZ_one : lowZ 8 1 = 0 := by decide +kernel
theorem lowZ_two : lowZ 8 2 = 1 := by decide +kernel
theorem quo_odd {c0 c1 c2 c3 c4 c5 t : Int} (h : lowDiff 8 (valN c0 c1 c2 c3 c4 c5 (t + 2)) (valN c0 c1 c2 c3 c4 c5 t) = 1) : (c1 + (c3 + c5) * t) % 2 = 1 := by
  run_tac Mine.mark
  have L := (lowDiff_is 8 (valN c0 c1 c2 c3 c4 c5 (t + 2)) (valN c0 c1 c2 c3 c4 c5 t)).next (by omega)
  rw [h, val_mod _ _ _ _ _ _ _ _ 2 (by decide), poly_diff] at L
  have : t + 2 = t + 2 * 1 := by omega
  rw [this] at L
  obtain ⟨z, hz⟩ := quo_par c1 c2 c3 c4 c5 t 1
  rw [hz] at L
  rcases Int.emod_two_eq (c1 + (c3 + c5) * t) with q | q
  · exfalso
    refine L ⟨z + (c1 + (c3 + c5) * t) / 2, ?_⟩
    have : (2 : Int) ^ 2 = 4 := by decide
    rw [this]
    generalize (c3 + c5) * t = X at *
    omega
  · exact q
  run_tac Mine.shrink
theorem val_conv {c0 c1 c2 c3 c4 c5 t : Int} (h1 : lowDiff 8 (valN c0 c1 c2 c3 c4 c5 (t + 1)) (valN c0 c1 c2 c3 c4 c5 t) = 0)
    (h2 : lowDiff 8 (valN c0 c1 c2 c3 c4 c5 (t + 2)) (valN c0 c1 c2 c3 c4 c5 t) = 1) (h3 : lowDiff 8 (valN c0 c1 c2 c3 c4 c5 (t + 1 + 2)) (valN c0 c1 c2 c3 c4 c5 (t + 1)) = 1) : goodP c1 c2 c3 c4 c5 := by
  run_tac Mine.mark
  have e2 := quo_odd h2
  have e3 := quo_odd h3
  have L := (lowDiff_is 8 (valN c0 c1 c2 c3 c4 c5 (t + 1)) (valN c0 c1 c2 c3 c4 c5 t)).next (by omega)
  rw [h1, val_mod _ _ _ _ _ _ _ _ 1 (by decide)] at L
  obtain ⟨a, ha⟩ := poly_par c0 c1 c2 c3 c4 c5 (t + 1)
  obtain ⟨b, hb⟩ := poly_par c0 c1 c2 c3 c4 c5 t
  rw [ha, hb] at L
  have e9 : (c3 + c5) % 2 = 0 → ((c3 + c5) * t) % 2 = 0 := fun h => by rw [Int.mul_emod, h]; simp
  have e4 : (c3 + c5) * (t + 1) = (c3 + c5) * t + (c3 + c5) := by grind
  rw [e4] at e3
  have e5 : (c1 + c2 + c3 + c4 + c5) * (t + 1) = (c1 + c2 + c3 + c4 + c5) * t + (c1 + c2 + c3 + c4 + c5) := by grind
  rw [e5] at L
  generalize (c3 + c5) * t = X at *
  generalize (c1 + c2 + c3 + c4 + c5) * t = Y at *
  have e6 : (c3 + c5) % 2 = 0 := by omega
  have e7 := e9 e6
  have e8 : (c1 + c2 + c3 + c4 + c5) % 2 = 1 := by
    rcases Int.emod_two_eq (c1 + c2 + c3 + c4 + c5) with q | q
    · exact absurd ⟨a - b + (c1 + c2 + c3 + c4 + c5) / 2, by rw [show (2 : Int) ^ 1 = 2 by decide]; omega⟩ L
    · exact q
  exact ⟨by omega, by omega, e6⟩
  run_tac Mine.shrink
end Mine
namespace Mine
theorem strs_snoc {zs : List Value} {ys : List Str} {i : Nat} {x : Str} {t : Tok} (h : StrsAre zs (ys.take i)) (e : ys[i]? = some x) : StrsAre (zs ++ [.str x t]) (ys.take (i + 1)) := by
  rw [List.take_add_one, e]
  exact StrsAre.append' h (.cons _ _ .nil)
theorem ints_snoc {zs : List Value} {ys : List Int} {i : Nat} {x : Int} {t : Tok} (h : IntsAre zs (ys.take i)) (e : ys[i]? = some x) : IntsAre (zs ++ [.int x t]) (ys.take (i + 1)) := by
  rw [List.take_add_one, e]
  exact IntsAre.append h (.cons _ _ .nil)
theorem words_at {N k i : Nat} (h : i < N) : (wordsOf N k)[i]? = some (flagName (i + k)) := by
  unfold wordsOf
  rw [List.getElem?_map, List.getElem?_range h]; rfl
theorem words_len (N k : Nat) : (wordsOf N k).length = N := by simp [wordsOf]
theorem take_all {α : Type} {l : List α} {n : Nat} (h : l.length ≤ n) : l.take n = l := List.take_of_length_le h
/-- a new object differs from all that is told -/
def neAll (D : Addr) : List (Addr × Obj) → Prop
  | [] => True
  | p :: r => @Ne Nat p.1 D ∧ neAll D r
theorem neAll_of {D : Addr} : ∀ {l : List (Addr × Obj)}, (∀ p ∈ l, p.1 ≠ D) → neAll D l
  | [], _ => trivial
  | _ :: _, h => ⟨h _ (.head _), neAll_of fun p hp => h p (.tail _ hp)⟩
theorem sum_at {prog : Program} {w : World} {A : Around} {E : Value → Shared → Prop} {s : Shared} {h₀ : Heap} {L l : Addr} {m : Str → Option Value} {news : List (Addr × Obj)} {its : Array Value} {xs : List Int} {Q : Value → Shared → Prop} (hh : A.handled = none) (F : Fr h₀ L s.heap m) (N : News h₀ L s.heap news) (hl : s.heap.IsList l its) (hi : IntsAre its.toList xs)
    (h : ∀ h' tk' t', Fr h₀ L h' m → News h₀ L h' news → Q (.int xs.sum t') { s with heap := h', toks := tk' }) :
    wpAny (model prog w) A (call (.builtin "sum") [.ref l]) Q E s := sumK hh F N (vs := its.toList) (by simpa using hl) hi h
/-- the seven lowest flags of a number -/
def lowN (x : Int) : Nat := (x % 128).toNat
theorem lowN_eq (x : Int) : x.fmod 128 = ((lowN x : Nat) : Int) := by
  rw [Int.fmod_eq_emod_of_nonneg _ (by decide)]
  unfold lowN
  omega
theorem lowN_lt (x : Int) : lowN x < 2 ^ 7 := by unfold lowN; omega
theorem low_iso : Iso 7 lowN := by
  run_tac Mine.mark
  intro x y k hk
  have low : ∀ z : Int, ((lowN z % 2 ^ k : Nat) : Int) = z % 2 ^ k := fun z => by
    unfold lowN
    push_cast
    rw [Int.toNat_of_nonneg (Int.emod_nonneg _ (by decide))]
    exact Int.emod_emod_of_dvd z ⟨2 ^ (7 - k), by rw [← Int.pow_add, show k + (7 - k) = 7 by omega]; rfl⟩
  have e : lowN x % 2 ^ k = lowN y % 2 ^ k ↔ x % 2 ^ k = y % 2 ^ k := by
    rw [← low x, ← low y]
    exact ⟨fun h => by rw [h], fun h => by exact_mod_cast h⟩
  rw [e, Int.emod_eq_emod_iff_emod_sub_eq_zero, Int.dvd_iff_emod_eq_zero]
  run_tac Mine.shrink
theorem neAll.mem {D : Addr} {l : List (Addr × Obj)} (h : neAll D l) : ∀ p ∈ l, p.1 ≠ D := by
  run_tac Mine.mark
  induction l with
  | nil => intro p hp; cases hp
  | cons q r ih =>
    intro p hp
    rcases List.mem_cons.mp hp with rfl | hp
    · exact h.1
    · exact ih h.2 p hp
  run_tac Mine.shrink
theorem off_one {P : Addr} {o : Obj} {l : List (Addr × Obj)} (h : neAll P l) : OffL [(P, o)] l := fun p hp q hq => by
  rw [List.mem_singleton.mp hp]; exact Ne.symm (h.mem q hq)
theorem flag_room {f k : Nat} (h : f < 2 ^ 7) (hk : k ≤ 25) : f * 2 ^ k < 2 ^ 32 := by
  have h1 : 2 ^ k ≤ 2 ^ 25 := Nat.pow_le_pow_right (by decide) hk
  have h2 : f * 2 ^ k ≤ 127 * 2 ^ 25 := Nat.mul_le_mul (by omega) h1
  exact Nat.lt_of_le_of_lt h2 (by decide)
theorem flag_room8 {f k : Nat} (h : f < 2 ^ 8) (hk : k ≤ 24) : f * 2 ^ k < 2 ^ 32 := by
  have h1 : 2 ^ k ≤ 2 ^ 24 := Nat.pow_le_pow_right (by decide) hk
  have h2 : f * 2 ^ k ≤ 255 * 2 ^ 24 := Nat.mul_le_mul (by omega) h1
  exact Nat.lt_of_le_of_lt h2 (by decide)
theorem add_news {prog : Program} {w : World} {A : Around} {E : Value → Shared → Prop} {s : Shared} {h₀ : Heap} {L l b : Addr} {m : Str → Option Value} {news : List (Addr × Obj)} {n n2 : Nat} {vs ws : List Value} {Q : Value → Shared → Prop} (F : Fr h₀ L s.heap m) (N : News h₀ L s.heap news)
    (hm : (l, W.listOf vs.toArray n) ∈ news) (hm2 : (b, W.listOf ws.toArray n2) ∈ news) (hsz : vs.length + ws.length ≤ 1000000)
    (h : ∀ D h', Fr h₀ L h' m → News h₀ L h' ((D, W.listOf (vs ++ ws).toArray 0) :: news) → (∀ p ∈ news, p.1 < D) → Q (.ref D) { s with heap := h' }) :
    wpAny (model prog w) A (binaryOp .Add (.ref l) (.ref b)) Q E s :=
  add_lists (hsz := Nat.le_trans hsz (by decide)) F N ⟨_, N.get hm, rfl, _, rfl⟩ ⟨_, N.get hm2, rfl, _, rfl⟩ fun h' F' N' => h _ _ F' N' fun q hq => Heap.lt_size (N q hq).1
theorem news_ne {h₀ h : Heap} {L a b : Addr} {x y : Obj} {news : List (Addr × Obj)} (N : News h₀ L h news) (ha : (a, x) ∈ news) (hb : (b, y) ∈ news) (hd : x.data ≠ y.data) : a ≠ b := by
  run_tac Mine.mark
  rintro rfl
  have h1 := (N _ ha).1
  have h2 := (N _ hb).1
  rw [h1] at h2
  exact hd (congrArg Obj.data (Option.some.inj h2))
  run_tac Mine.shrink
def noField : List (Addr × Obj) → Prop
  | [] => True
  | p :: r => (∀ vs, p.2.data ≠ .fields vs) ∧ noField r
theorem noField.mem {l : List (Addr × Obj)} (h : noField l) : ∀ p ∈ l, ∀ vs, p.2.data ≠ .fields vs := by
  run_tac Mine.mark
  induction l with
  | nil => intro p hp; cases hp
  | cons q r ih =>
    intro p hp
    rcases List.mem_cons.mp hp with rfl | hp
    · exact h.1
    · exact ih h.2 p hp
  run_tac Mine.shrink
theorem TabL.fields {P : Addr} {qual : Str} {ln cl : Int} {tl : List (Addr × Obj)} (h : TabL P qual ln cl tl) : ∀ p ∈ tl, ∃ vs, p.2.data = .fields vs := by
  run_tac Mine.mark
  rcases h with rfl | ⟨c', oc, vs, t, rfl, hd, _⟩
  · intro p hp; rw [List.mem_singleton.mp hp]; exact ⟨_, rfl⟩
  · intro p hp
    rcases List.mem_cons.mp hp with rfl | hp
    · exact ⟨_, rfl⟩
    · rw [List.mem_singleton.mp hp]; exact ⟨_, hd⟩
  run_tac Mine.shrink
/-- the code's table stands apart from lists and cells -/
theorem tab_off {h₀ h : Heap} {L P : Addr} {qual : Str} {ln cl : Int} {rest tl : List (Addr × Obj)} (N : News h₀ L h (rest ++ tl)) (hT : TabL P qual ln cl tl) (hd : noField rest) : OffL tl rest := fun p hp q hq e => by
  obtain ⟨vs, hv⟩ := hT.fields p hp
  have h1 := (N _ (List.mem_append_right _ hp)).1
  have h2 := (N _ (List.mem_append_left _ hq)).1
  rw [e, h2] at h1
  exact hd.mem q hq vs (by rw [Option.some.inj h1]; exact hv)
theorem news_sub {h₀ h : Heap} {L : Addr} {news l : List (Addr × Obj)} (N : News h₀ L h news) (hs : ∀ p ∈ l, p ∈ news) : News h₀ L h l := fun p hp => N p (hs p hp)
theorem sub_cons {x : Addr × Obj} {r l : List (Addr × Obj)} (h : x ∈ l) (k : ∀ p ∈ r, p ∈ l) : ∀ p ∈ x :: r, p ∈ l := fun p hp => by
  rcases List.mem_cons.mp hp with rfl | hp
  · exact h
  · exact k p hp
theorem sub_app {a b l : List (Addr × Obj)} (h : ∀ p ∈ a, p ∈ l) (k : ∀ p ∈ b, p ∈ l) : ∀ p ∈ a ++ b, p ∈ l := fun p hp => (List.mem_append.mp hp).elim (h p) (k p)
theorem sub_nil {l : List (Addr × Obj)} : ∀ p ∈ ([] : List (Addr × Obj)), p ∈ l := fun _ h => nomatch h
theorem app_at {ys : List Int} {f g : Int → Nat} (k : Nat → Str) {i M : Nat} {x : Int} (hf : ∀ x, f x < M) (hg : ∀ x, g x < M) (e : (ys.map (fun x => ((f x : Nat) : Int)) ++ ys.map fun x => ((g x : Nat) : Int))[i]? = some x) :
    ∃ n : Nat, n < M ∧ ((n : Nat) : Int) = x ∧ (ys.map (fun x => k (f x)) ++ ys.map fun x => k (g x))[i]? = some (k n) := by
  run_tac Mine.mark
  have e1 : (ys.map (fun x => ((f x : Nat) : Int)) ++ ys.map fun x => ((g x : Nat) : Int)) = (ys.map f ++ ys.map g).map (fun n : Nat => (n : Int)) := by rw [List.map_append, List.map_map, List.map_map]; rfl
  have e2 : (ys.map (fun x => k (f x)) ++ ys.map fun x => k (g x)) = (ys.map f ++ ys.map g).map k := by rw [List.map_append, List.map_map, List.map_map]; rfl
  rw [e1, List.getElem?_map] at e
  rw [e2, List.getElem?_map]
  obtain ⟨n, hn, rfl⟩ := Option.map_eq_some_iff.mp e
  rw [hn]
  refine ⟨n, ?_, rfl, rfl⟩
  rcases List.mem_append.mp (List.mem_of_getElem? hn) with h | h
  · obtain ⟨y, _, rfl⟩ := List.mem_map.mp h; exact hf y
  · obtain ⟨y, _, rfl⟩ := List.mem_map.mp h; exact hg y
  run_tac Mine.shrink
/-- a mark at which the walk stands still -/
structure Stop (P : Prop) : Prop where
  out : P
theorem stop_at {P : Prop} (h : Stop P) : P := h.out
theorem mod26 (z : Int) : 0 ≤ z.fmod 26 ∧ z.fmod 26 ≤ 25 := by
  rw [Int.fmod_eq_emod_of_nonneg _ (by decide)]
  omega
theorem odd_of (z : Int) : (2 * z.fmod 9 - 7) % 2 = 1 ∧ -10 ≤ 2 * z.fmod 9 - 7 ∧ 2 * z.fmod 9 - 7 ≤ 10 := by
  rw [Int.fmod_eq_emod_of_nonneg _ (by decide)]
  omega
end Mine
namespace Mine
open PyProof.Rows.LCg
/-! a list comprehension of two clauses, names as targets, no tests -/
theorem compTurn_two (elt t1 i1 t2 i2 : Expr) (scope : Scope) (pos : Pos) (it acc : Value) (env : Env) :
    compTurn (.ListComp elt [⟨t1, i1, [], 0⟩, ⟨t2, i2, [], 0⟩] scope pos) 0 it acc env = (do
      standAt i1.pos
      match ← pyNext it with
      | none => pure (.done .next)
      | some v =>
        letOwnedTupleGo t1 it v
        assign t1 env v
        let mut ok := true
        for c in ([] : List Expr) do
          if ok then ok ← isTrue c env (eval c env)
        if ok then
          let x ← eval i2 env
          standAt i2.pos
          let x ← foldedSetIterable i2 env x
          let _ ← runOwn (.compStart (.ListComp elt [⟨t1, i1, [], 0⟩, ⟨t2, i2, [], 0⟩] scope pos) 1 (← holding [x] (pyIter x)) acc env) env
        again (.compLoop (.ListComp elt [⟨t1, i1, [], 0⟩, ⟨t2, i2, [], 0⟩] scope pos) 0 it acc env)) := by rfl
theorem compTurn_in (elt t2 i2 : Expr) (g1 : Comprehension) (scope : Scope) (pos : Pos) (it acc : Value) (env : Env) :
    compTurn (.ListComp elt [g1, ⟨t2, i2, [], 0⟩] scope pos) 1 it acc env = (do
      standAt i2.pos
      match ← pyNext it with
      | none => pure (.done .next)
      | some v =>
        letOwnedTupleGo t2 it v
        assign t2 env v
        let mut ok := true
        for c in ([] : List Expr) do
          if ok then ok ← isTrue c env (eval c env)
        if ok then
          (do let _ ← call (.builtin "list.append") [acc, ← eval elt env])
        again (.compLoop (.ListComp elt [g1, ⟨t2, i2, [], 0⟩] scope pos) 1 it acc env)) := by rfl
section
variable {prog : Program} {w : World} {A : Around} {E : Value → Shared → Prop} {R : Result → Shared → Prop} {s : Shared}
theorem loop_in {elt t2 i2 : Expr} {g1 : Comprehension} {scope : Scope} {pos : Pos} {it acc : Value} {env : Env} (I : Nat → Shared → Prop)
    (turn : ∀ n s, I n s → wpAny (model prog w) A (pyNext it) (fun r s₁ => match r with
      | none => R (.ok .next) s₁
      | some v => wpAny (model prog w) A (assign t2 env v) (fun _ s₂ =>
          wpAny (model prog w) A (eval elt env) (fun x s₄ =>
              wpAny (model prog w) A (call (.builtin "list.append") [acc, x]) (fun _ s₅ => ∃ m, m < n ∧ I m s₅) (notedBy (model prog w) A env fun e s' => R (.error e) s') s₄) (notedBy (model prog w) A env fun e s' => R (.error e) s') s₂) (notedBy (model prog w) A env fun e s' => R (.error e) s') s₁) (notedBy (model prog w) A env fun e s' => R (.error e) s') s)
    (n : Nat) (h : I n s) (ht : ∀ v, letOwnedTupleGo t2 it v = pure () := by intro _; rfl) :
    codeAny (model prog w) A (.compLoop (.ListComp elt [g1, ⟨t2, i2, [], 0⟩] scope pos) 1 it acc env) R s := by
  run_tac Mine.mark
  refine codeAny_loop rfl I (fun n s hI => ?_) n h
  show wpAny _ A ((compTurn (.ListComp elt [g1, ⟨t2, i2, [], 0⟩] scope pos) 1 it acc env).onRaise (fun x => do noteFrame x env; theTreesLotGoes x)) _ _ s
  refine wpAny_noted ?_
  rw [compTurn_in]
  refine wpAny_bind (wpAny_standAt (wpAny_bind (wpAny_mono (turn n s hI) (fun r s₁ h₁ => ?_) fun _ _ h' => h')))
  cases r with
  | none => exact wpAny_pure h₁
  | some v =>
    refine wpAny_bind (wpAny_of_eq (ht v) ?_)
    refine wpAny_bind (wpAny_mono h₁ (fun _ s₂ h₂ => wpAny_bind (wpAny_tests_nil ?_)) fun _ _ h' => h')
    simp only [if_true]
    exact wpAny_bind (wpAny_bind (wpAny_mono h₂ (fun x s₄ h₄ => wpAny_bind (wpAny_mono h₄ (fun _ s₅ h₅ => wpAny_pure (wpAny_pure ⟨rfl, h₅⟩)) fun _ _ h' => h')) fun _ _ h' => h'))
  run_tac Mine.shrink
theorem start_in {elt t2 i2 : Expr} {g1 : Comprehension} {scope : Scope} {pos : Pos} {it acc : Value} {env : Env}
    (h0 : codeAny (model prog w) A (.compLoop (.ListComp elt [g1, ⟨t2, i2, [], 0⟩] scope pos) 1 it acc env) R s)
    (h : wpAny (model prog w) A (pyIter it) (fun it' s' => codeAny (model prog w) A (.compLoop (.ListComp elt [g1, ⟨t2, i2, [], 0⟩] scope pos) 1 it' acc env) R s')
      (notedBy (model prog w) A env fun x s' => R (.error x) s') s) :
    codeAny (model prog w) A (.compStart (.ListComp elt [g1, ⟨t2, i2, [], 0⟩] scope pos) 1 it acc env) R s := by
  run_tac Mine.mark
  refine codeAny_of_tree ?_
  show wpAny _ _ ((compStart (.ListComp elt [g1, ⟨t2, i2, [], 0⟩] scope pos) 1 it acc env).onRaise (fun x => do noteFrame x env; standAt theWindowsPlace)) _ _ s
  refine wpAny_notedAt ?_
  unfold compStart
  show wpAny _ _ (ask >>= _) _ _ s
  refine wpAny_bind (wpAny_askSetting (wpAny_ite ?_))
  split
  · first
      | exact wpAny_bind (wpAny_pure (wpAny_pure (And.intro rfl h0)))
      | exact wpAny_pure (And.intro rfl h0)
  · first
      | exact wpAny_bind (wpAny_rule (wpAny_bind (wpAny_standAt (wpAny_bind (wpAny_mono h (fun it' s' h' => wpAny_pure (And.intro rfl h')) fun _ _ x => x)))))
      | (refine wpAny_bind (wpAny_rule ?_); show wpAny _ _ (standAt i2.pos >>= _) _ _ s; exact wpAny_bind (wpAny_standAt (wpAny_bind (wpAny_mono h (fun it' s' h' => wpAny_pure (And.intro rfl h')) fun _ _ x => x))))
  run_tac Mine.shrink
theorem loop_out {elt t1 i1 t2 i2 : Expr} {scope : Scope} {pos : Pos} {it acc : Value} {env : Env} (I : Nat → Shared → Prop)
    (turn : ∀ n s, I n s → wpAny (model prog w) A (pyNext it) (fun r s₁ => match r with
      | none => R (.ok .next) s₁
      | some v => wpAny (model prog w) A (assign t1 env v) (fun _ s₂ =>
          wpAny (model prog w) A (eval i2 env) (fun x s₃ => wpAny (model prog w) A (pyIter x) (fun it' s₄ =>
              codeAny (model prog w) A (.compStart (.ListComp elt [⟨t1, i1, [], 0⟩, ⟨t2, i2, [], 0⟩] scope pos) 1 it' acc env) (fun r s₅ => match r with | .ok _ => ∃ m, m < n ∧ I m s₅ | .error _ => False) s₄) (notedBy (model prog w) A env fun e s' => R (.error e) s') s₃) (notedBy (model prog w) A env fun e s' => R (.error e) s') s₂) (notedBy (model prog w) A env fun e s' => R (.error e) s') s₁) (notedBy (model prog w) A env fun e s' => R (.error e) s') s)
    (n : Nat) (h : I n s) (hs : ∀ x, foldedSetIterable i2 env x = pure x) (ht : ∀ v, letOwnedTupleGo t1 it v = pure () := by intro _; rfl) :
    codeAny (model prog w) A (.compLoop (.ListComp elt [⟨t1, i1, [], 0⟩, ⟨t2, i2, [], 0⟩] scope pos) 0 it acc env) R s := by
  run_tac Mine.mark
  refine codeAny_loop rfl I (fun n s hI => ?_) n h
  show wpAny _ A ((compTurn (.ListComp elt [⟨t1, i1, [], 0⟩, ⟨t2, i2, [], 0⟩] scope pos) 0 it acc env).onRaise (fun x => do noteFrame x env; theTreesLotGoes x)) _ _ s
  refine wpAny_noted ?_
  rw [compTurn_two]
  refine wpAny_bind (wpAny_standAt (wpAny_bind (wpAny_mono (turn n s hI) (fun r s₁ h₁ => ?_) fun _ _ h' => h')))
  cases r with
  | none => exact wpAny_pure h₁
  | some v =>
    refine wpAny_bind (wpAny_of_eq (ht v) ?_)
    refine wpAny_bind (wpAny_mono h₁ (fun _ s₂ h₂ => wpAny_bind (wpAny_tests_nil ?_)) fun _ _ h' => h')
    simp only [if_true]
    refine wpAny_bind (wpAny_mono h₂ (fun x s₃ h₃ => wpAny_bind (wpAny_standAt (wpAny_bind (wpAny_of_eq (hs x) (wpAny_bind (wpAny_holding (wpAny_mono h₃ (fun it' s₄ h₄ => ?_) fun _ _ h' => h'))))))) fun _ _ h' => h')
    refine wpAny_bind (wpAny_runOwn (codeAny_mono h₄ fun r s₅ h₅ => ?_))
    cases r with
    | ok f => exact wpAny_pure ⟨rfl, h₅⟩
    | error e => exact h₅.elim
  run_tac Mine.shrink
end
section
variable {prog : Program} {w : World} {A : Around} {E : Value → Shared → Prop} {s : Shared} {h₀ : Heap} {L : Addr} {m : Str → Option Value} {env : Env}
/-- an item is put into the block's names -/
theorem put_name {scope : Scope} {cl : List (Str × Addr)} {x : Str} {px : Pos} {C : Addr} {oC : Obj} {mc : Str → Option Value} {news : List (Addr × Obj)} {v : Value} {Q : Unit → Shared → Prop} (hkind : scope.kind = .function) (hl : scope.names.lookup x = some .local)
    (F : Fr h₀ L s.heap m) (N : News h₀ L s.heap ((C, oC) :: news)) (hns : NsObj oC mc) (hoff : ∀ p ∈ news, p.1 ≠ C)
    (h : ∀ h' tk' oC', NsObj oC' (fun z => if z = x then some v else mc z) → Fr h₀ L h' m → News h₀ L h' ((C, oC') :: news) → (∀ b o, b ≠ C → s.heap.get? b = some o → h'.get? b = some o) → Q () { s with heap := h', toks := tk' }) :
    wpAny (model prog w) A (assign (.Name x px) (compEnvC scope cl C env) v) Q E s := by
  run_tac Mine.mark
  have hC := N (C, oC) (.head _)
  refine wpAny_assign_Name (wpAny_storeName_local (lookup_relabel_local hl) (hns.ns hC.1) (fun h' hn' hs' => ?_) (by simp [compEnvC, relabel, hkind]))
  obtain ⟨oC', e', ho'⟩ := ns_obj hn'
  have ext : ∀ b o, b ≠ C → s.heap.get? b = some o → h'.get? b = some o := fun b o hb e => hs'.extBut b o hb e
  refine h h' _ oC' ho' ⟨F.ns.at' fun o e => ext _ o (Ne.symm hC.2.1) e, fun b o e => ext b o (fun q => by rw [q, hC.2.2] at e; cases e) (F.keep b o e), F.above⟩ (fun p hp => ?_) ext
  rcases List.mem_cons.mp hp with rfl | hp
  · exact ⟨e', hC.2⟩
  · have z := N p (.tail _ hp)
    exact ⟨ext _ _ (hoff p hp) z.1, z.2⟩
  run_tac Mine.shrink
/-- what the inner loop of such a comprehension walks, and what a turn must do -/
def InSrc (prog : Program) (w : World) (A : Around) (h₀ : Heap) (L : Addr) (m : Str → Option Value) (env : Env) (elt : Expr) (y : Str) (scope : Scope) (cl : List (Str × Addr)) (C D : Addr) (mc0 : Str → Option Value) (ys0 : List Value) (news : List (Addr × Obj)) (K : List Value → Prop) (it : Value) (s₂ : Shared) : Prop :=
  ∃ (I : Addr) (fp : List Addr) (n : Nat) (P : Nat → Value → Prop) (St : Nat → Heap → Prop) (J : Nat → List Value → Prop) (oC0 : Obj), it = .ref I ∧ Walks prog w A I fp [I] n P St ∧ (∀ i h, St i h → ∃ o, h.get? I = some o) ∧ (∀ i h h' o, St i h → h.get? I = some o → h'.get? I = some o → (∀ b o, h₀.get? b = some o → h'.get? b = some o) → News h₀ L h' news → St i h') ∧
    St 0 s₂.heap ∧ C ∉ fp ∧ D ∉ fp ∧ Fr h₀ L s₂.heap m ∧ NsObj oC0 mc0 ∧ News h₀ L s₂.heap ((C, oC0) :: (D, lst ys0) :: news) ∧ L ≠ I ∧ h₀.get? I = none ∧ (∀ p ∈ (C, oC0) :: (D, lst ys0) :: news, p.1 ≠ I) ∧ J 0 ys0 ∧ (∀ i ys, J i ys → ys.length ≤ 1000000) ∧
    (∀ i ys v h tk oC mc oI (E' : Value → Shared → Prop), i < n → P i v → J i ys → NsObj oC mc → mc y = some v → (∀ z, z ≠ y → mc z = mc0 z) → Fr h₀ L h m → News h₀ L h ((I, oI) :: (C, oC) :: (D, lst ys) :: news) →
      wpAny (model prog w) A (eval elt (compEnvC scope cl C env)) (fun x s₄ => ∃ h' tk', s₄ = { s₂ with heap := h', toks := tk' } ∧ Fr h₀ L h' m ∧ News h₀ L h' ((I, oI) :: (C, oC) :: (D, lst ys) :: news) ∧ J (i + 1) (ys ++ [x])) E' { s₂ with heap := h, toks := tk }) ∧
    ∀ ys, J n ys → K ys
theorem in_J {elt i2 : Expr} {g1 : Comprehension} {y : Str} {py : Pos} {scope : Scope} {cl : List (Str × Addr)} {pos : Pos} {s₂ : Shared} {C D : Addr} {mc0 : Str → Option Value} {ys0 : List Value} {news : List (Addr × Obj)} {K : List Value → Prop} {it : Value} {R : Result → Shared → Prop}
    (hkind : scope.kind = .function) (hy : scope.names.lookup y = some .local) (hDC : D ≠ C) (off : ∀ p ∈ news, p.1 ≠ C ∧ p.1 ≠ D)
    (H : InSrc prog w A h₀ L m env elt y scope cl C D mc0 ys0 news K it s₂)
    (hR : ∀ h tk oC mc ys, NsObj oC mc → (∀ z, z ≠ y → mc z = mc0 z) → Fr h₀ L h m → News h₀ L h ((C, oC) :: (D, lst ys) :: news) → K ys → R (.ok .next) { s₂ with heap := h, toks := tk }) :
    codeAny (model prog w) A (.compStart (.ListComp elt [g1, ⟨.Name y py, i2, [], 0⟩] scope pos) 1 it (.ref D) (compEnvC scope cl C env)) R s₂ := by
  run_tac Mine.mark
  obtain ⟨I, fp, n, P, St, J, oC0, rfl, W, hIo, hSt, hst, hCf, hDf, F, hns0, N, hLI, hI₀, hnI, hJ, hlen, turn, hK⟩ := H
  have loop : codeAny (model prog w) A (.compLoop (.ListComp elt [g1, ⟨.Name y py, i2, [], 0⟩] scope pos) 1 (.ref I) (.ref D) (compEnvC scope cl C env)) R s₂ := by
    refine loop_in (fun k s' => ∃ h tk i ys oC mc, s' = { s₂ with heap := h, toks := tk } ∧ i ≤ n ∧ k = n + 1 - i ∧ St i h ∧ Fr h₀ L h m ∧ NsObj oC mc ∧ (∀ z, z ≠ y → mc z = mc0 z) ∧ News h₀ L h ((C, oC) :: (D, lst ys) :: news) ∧ J i ys) ?_ (n + 1)
      ⟨s₂.heap, s₂.toks, 0, ys0, oC0, mc0, rfl, Nat.zero_le _, rfl, hst, F, hns0, fun _ _ => rfl, N, hJ⟩
    rintro k s' ⟨h, tk, i, ys, oC, mc, rfl, hi, rfl, hst', F', hns', hmc', N', hJ'⟩
    have nI : ∀ p ∈ (C, oC) :: (D, lst ys) :: news, p.1 ≠ I := fun p hp => by
      rcases List.mem_cons.mp hp with rfl | hp
      · exact hnI (C, oC0) (.head _)
      · rcases List.mem_cons.mp hp with rfl | hp
        · exact hnI (D, lst ys0) (.tail _ (.head _))
        · exact hnI p (.tail _ (.tail _ hp))
    by_cases hlt : i < n
    · refine W.item i _ _ _ hlt hst' fun v h₂ tk₂ hPv hst₂ hk₂ => ?_
      have N₂ := news_but N' hk₂ nI
      have F₂ := fr_but F' hk₂ hLI hI₀
      refine put_name (s := { s₂ with heap := h₂, toks := tk₂ }) hkind hy F₂ N₂ hns' (fun p hp => ?_) fun h₃ tk₃ oC₃ hns₃ F₃ N₃ ext₃ => ?_
      · rcases List.mem_cons.mp hp with rfl | hp
        · exact hDC
        · exact (off p hp).1
      have hst₃ : St (i + 1) h₃ := W.frame _ _ _ hst₂ fun b hb o e => ext₃ b o (fun q => hCf (q ▸ hb)) e
      obtain ⟨oI, heI⟩ := hIo _ _ hst₃
      have N₄ : News h₀ L h₃ ((I, oI) :: (C, oC₃) :: (D, lst ys) :: news) := fun p hp => by
        rcases List.mem_cons.mp hp with rfl | hp
        · exact ⟨heI, Ne.symm hLI, hI₀⟩
        · exact N₃ p hp
      refine wpAny_mono (turn i ys v h₃ tk₃ oC₃ _ oI _ hlt hPv hJ' hns₃ (by simp) (fun z hz => by simp only [if_neg hz]; exact hmc' z hz) F₃ N₄) (fun x s₄ h₄ => ?_) fun _ _ e => e
      obtain ⟨h₅, tk₅, rfl, F₅, N₅, hJ₅⟩ := h₄
      have zI := (N₅ (I, oI) (.head _)).1
      have zD := N₅ (D, lst ys) (.tail _ (.tail _ (.head _)))
      have hst₅ : St (i + 1) h₅ := hSt _ _ _ _ hst₃ heI zI F₅.keep fun p hp => N₅ p (.tail _ (.tail _ (.tail _ hp)))
      refine append_at (hsz := by show ys.toArray.size ≤ sizeLine; rw [List.size_toArray]; exact Nat.le_trans (hlen _ _ hJ') (by decide)) zD.1 fun h₆ hs₆ hD₆ => ?_
      refine ⟨n + 1 - (i + 1), by omega, h₆, tk₅, i + 1, ys ++ [x], oC₃, _, rfl, hlt, rfl, W.frame _ _ _ hst₅ fun b hb o e => hs₆.extBut b o (fun q => hDf (q ▸ hb)) e, F₅.change hs₆ zD.2.1 zD.2.2, hns₃, fun z hz => by simp only [if_neg hz]; exact hmc' z hz, fun p hp => ?_, hJ₅⟩
      rcases List.mem_cons.mp hp with rfl | hp
      · have z := N₅ (C, oC₃) (.tail _ (.head _))
        exact ⟨hs₆.extBut _ _ (Ne.symm hDC) z.1, z.2⟩
      · rcases List.mem_cons.mp hp with rfl | hp
        · exact ⟨hD₆.trans (congrArg some (lst_snoc ys x)), zD.2⟩
        · have z := N₅ p (.tail _ (.tail _ (.tail _ hp)))
          exact ⟨hs₆.extBut _ _ (off p hp).2 z.1, z.2⟩
    · obtain rfl : i = n := Nat.le_antisymm hi (Nat.not_lt.mp hlt)
      refine W.done _ _ _ hst' fun h₂ tk₂ hk₂ => ?_
      exact hR h₂ tk₂ oC mc ys hns' hmc' (fr_but F' hk₂ hLI hI₀) (news_but N' hk₂ nI) (hK ys hJ')
  exact start_in loop (W.self 0 _ _ _ hst loop)
  run_tac Mine.shrink
end
end Mine
namespace Mine
open PyProof.Rows.LCg
/-- an iterator whose own objects are told; what it gives may be told over them -/
structure OutIt (prog : Program) (w : World) (A : Around) (h₀ : Heap) (L I : Addr) (n : Nat) (base : List (Addr × Obj)) (Ou : Nat → List (Addr × Obj) → Prop) (P : Nat → Value → List (Addr × Obj) → Prop) : Prop where
  item : ∀ i oo (s : Shared) (Q : Option Value → Shared → Prop) (E : Value → Shared → Prop), i < n → Ou i oo → News h₀ L s.heap (oo ++ base) →
    (∀ v h' tk oo', P i v oo' → Ou (i + 1) oo' → (∀ b o, (∀ p ∈ oo, b ≠ p.1) → s.heap.get? b = some o → h'.get? b = some o) → (∀ p ∈ oo', h'.get? p.1 = some p.2 ∧ ((∃ q ∈ oo, p.1 = q.1) ∨ s.heap.get? p.1 = none)) → Q (some v) { s with heap := h', toks := tk }) → wpAny (model prog w) A (pyNext (.ref I)) Q E s
  done : ∀ oo (s : Shared) (Q : Option Value → Shared → Prop) (E : Value → Shared → Prop), Ou n oo → News h₀ L s.heap (oo ++ base) →
    (∀ h' tk, (∀ b o, (∀ p ∈ oo, b ≠ p.1) → s.heap.get? b = some o → h'.get? b = some o) → Q none { s with heap := h', toks := tk }) → wpAny (model prog w) A (pyNext (.ref I)) Q E s
  self : ∀ oo (s : Shared) (Q : Value → Shared → Prop) (E : Value → Shared → Prop), Ou 0 oo → News h₀ L s.heap (oo ++ base) → Q (.ref I) s → wpAny (model prog w) A (pyIter (.ref I)) Q E s
section
variable {prog : Program} {w : World} {A : Around} {E : Value → Shared → Prop} {s : Shared} {h₀ : Heap} {L : Addr} {m : Str → Option Value} {env : Env}
/-- what an outer turn must do -/
def TurnO (prog : Program) (w : World) (A : Around) (h₀ : Heap) (L : Addr) (m : Str → Option Value) (env : Env) (elt i2 : Expr) (x y : Str) (scope : Scope) (cl : List (Str × Addr)) (s : Shared) (n : Nat) (base : List (Addr × Obj)) (Ou : Nat → List (Addr × Obj) → Prop) (P : Nat → Value → List (Addr × Obj) → Prop) (K : Nat → List Value → Prop) : Prop :=
  ∀ i ys v h tk C D oC mc oo (E' : Value → Shared → Prop), i < n → P i v oo → Ou (i + 1) oo → K i ys → NsObj oC mc → mc x = some v → Fr h₀ L h m → News h₀ L h ((C, oC) :: (D, lst ys) :: (oo ++ base)) → OffL oo ((C, oC) :: (D, lst ys) :: base) → (∀ p ∈ oo ++ base, p.1 ≠ C ∧ p.1 ≠ D) →
    wpAny (model prog w) A (eval i2 (compEnvC scope cl C env)) (fun xv s₃ => wpAny (model prog w) A (pyIter xv) (fun it s₄ => (∃ h4 tk4, s₄ = { s with heap := h4, toks := tk4 }) ∧ InSrc prog w A h₀ L m env elt y scope cl C D mc ys (oo ++ base) (K (i + 1)) it s₄) E' s₃) E' { s with heap := h, toks := tk }
theorem out_J {elt i1 i2 : Expr} {x y : Str} {px py : Pos} {scope : Scope} {cl : List (Str × Addr)} {pos : Pos} {s₂ : Shared} {C D I : Addr} {mc0 : Str → Option Value} {oC0 : Obj} {n : Nat} {base oo0 : List (Addr × Obj)} {Ou : Nat → List (Addr × Obj) → Prop} {P : Nat → Value → List (Addr × Obj) → Prop} {K : Nat → List Value → Prop} {R : Result → Shared → Prop} {h₁ : Heap} {tk₁ : Nat}
    (W : OutIt prog w A h₀ L I n base Ou P) (hkind : scope.kind = .function) (hx : scope.names.lookup x = some .local) (hy : scope.names.lookup y = some .local) (hxy : x ≠ y) (hDC : D ≠ C)
    (F : Fr h₀ L h₁ m) (N : News h₀ L h₁ (oo0 ++ ((C, oC0) :: (D, lst []) :: base))) (hns : NsObj oC0 mc0) (hoff : OffL oo0 ((C, oC0) :: (D, lst []) :: base)) (hb : ∀ p ∈ base, p.1 ≠ C ∧ p.1 ≠ D) (hO : Ou 0 oo0) (hK : K 0 [])
    (turn : TurnO prog w A h₀ L m env elt i2 x y scope cl s₂ n base Ou P K) (hs : ∀ e x, foldedSetIterable i2 e x = pure x)
    (hR : ∀ h tk oC mc ys, NsObj oC mc → Fr h₀ L h m → News h₀ L h ((C, oC) :: (D, lst ys) :: base) → K n ys → R (.ok .next) { s₂ with heap := h, toks := tk }) :
    codeAny (model prog w) A (.compLoop (.ListComp elt [⟨.Name x px, i1, [], 0⟩, ⟨.Name y py, i2, [], 0⟩] scope pos) 0 (.ref I) (.ref D) (compEnvC scope cl C env)) R { s₂ with heap := h₁, toks := tk₁ } := by
  run_tac Mine.mark
  refine loop_out (fun k s' => ∃ h tk i ys oC mc oo, s' = { s₂ with heap := h, toks := tk } ∧ i ≤ n ∧ k = n + 1 - i ∧ Ou i oo ∧ Fr h₀ L h m ∧ NsObj oC mc ∧ News h₀ L h (oo ++ ((C, oC) :: (D, lst ys) :: base)) ∧ OffL oo ((C, oC) :: (D, lst ys) :: base) ∧ K i ys) ?_ (n + 1)
    ⟨h₁, tk₁, 0, [], oC0, mc0, oo0, rfl, Nat.zero_le _, rfl, hO, F, hns, N, hoff, hK⟩ (hs _)
  rintro k s' ⟨h, tk, i, ys, oC, mc, oo, rfl, hi, rfl, hO', F', hns', N', hoff', hK'⟩
  have Nb : News h₀ L h (oo ++ base) := news_sub N' fun p hp => (List.mem_append.mp hp).elim (fun hp => List.mem_append_left _ hp) fun hp => List.mem_append_right _ (.tail _ (.tail _ hp))
  -- what stands once the iterator has moved
  have fr : ∀ h₂ : Heap, (∀ b o, (∀ p ∈ oo, b ≠ p.1) → h.get? b = some o → h₂.get? b = some o) → Fr h₀ L h₂ m ∧ News h₀ L h₂ ((C, oC) :: (D, lst ys) :: base) := fun h₂ hk =>
    ⟨⟨F'.ns.at' fun o e => hk _ o (fun p hp q => (N' p (List.mem_append_left _ hp)).2.1 q.symm) e, fun b o e => hk b o (fun p hp q => by rw [q, (N' p (List.mem_append_left _ hp)).2.2] at e; cases e) (F'.keep b o e), F'.above⟩,
      fun p hp => ⟨hk _ _ (fun q hq e => hoff' q hq p hp e.symm) (N' p (List.mem_append_right _ hp)).1, (N' p (List.mem_append_right _ hp)).2⟩⟩
  by_cases hlt : i < n
  · refine W.item i oo _ _ _ hlt hO' Nb fun v h₂ tk₂ oo' hPv hO₂ hk₂ hoo => ?_
    obtain ⟨F₂, N₂⟩ := fr h₂ hk₂
    have Noo : News h₀ L h₂ oo' := fun p hp => by
      obtain ⟨e1, e2⟩ := hoo p hp
      rcases e2 with ⟨q, hq, e⟩ | e
      · exact ⟨e1, by rw [e]; exact (N' q (List.mem_append_left _ hq)).2⟩
      · refine ⟨e1, fun e' => ?_, fresh_back e F'⟩
        obtain ⟨o, e3, _⟩ := ns_obj F'.ns
        rw [← e', e] at e3; cases e3
    have hoffo : OffL oo' ((C, oC) :: (D, lst ys) :: base) := fun p hp q hq e' => by
      rcases (hoo p hp).2 with ⟨r, hr, e⟩ | e
      · exact hoff' r hr q hq (e ▸ e')
      · have := (N' q (List.mem_append_right _ hq)).1
        rw [← e', e] at this; cases this
    have hCoff : ∀ p ∈ (D, lst ys) :: (oo' ++ base), p.1 ≠ C := fun p hp => by
      rcases List.mem_cons.mp hp with rfl | hp
      · exact hDC
      · rcases List.mem_append.mp hp with hp | hp
        · exact hoffo p hp (C, oC) (.head _)
        · exact (hb p hp).1
    have N₃ : News h₀ L h₂ ((C, oC) :: (D, lst ys) :: (oo' ++ base)) := fun p hp => by
      rcases List.mem_cons.mp hp with rfl | hp
      · exact N₂ _ (.head _)
      · rcases List.mem_cons.mp hp with rfl | hp
        · exact N₂ _ (.tail _ (.head _))
        · rcases List.mem_append.mp hp with hp | hp
          · exact Noo p hp
          · exact N₂ _ (.tail _ (.tail _ hp))
    refine put_name (s := { s₂ with heap := h₂, toks := tk₂ }) hkind hx F₂ N₃ hns' hCoff fun h₃ tk₃ oC₃ hns₃ F₃ N₄ ext₃ => ?_
    have offs : ∀ p ∈ oo' ++ base, p.1 ≠ C ∧ p.1 ≠ D := fun p hp => by
      rcases List.mem_append.mp hp with hp | hp
      · exact ⟨hoffo p hp (C, oC) (.head _), hoffo p hp (D, lst ys) (.tail _ (.head _))⟩
      · exact hb p hp
    have hoff3 : OffL oo' ((C, oC₃) :: (D, lst ys) :: base) := fun p hp q hq => by
      rcases List.mem_cons.mp hq with rfl | hq
      · exact hoffo p hp (C, oC) (.head _)
      · exact hoffo p hp q (.tail _ hq)
    refine wpAny_mono (turn i ys v h₃ tk₃ C D oC₃ _ oo' (notedBy (model prog w) A (compEnvC scope cl C env) fun e s' => R (.error e) s') hlt hPv hO₂ hK' hns₃ (by simp) F₃ N₄ hoff3 offs) (fun xv s₃ h₃' => wpAny_mono h₃' (fun it s₄ h₄ => ?_) fun _ _ e => e) fun _ _ e => e
    obtain ⟨⟨h4, tk4, rfl⟩, H⟩ := h₄
    refine in_J hkind hy hDC offs H fun h₅ tk₅ oC₅ mc₅ ys₅ hns₅ _ F₅ N₅ hK₅ => ?_
    refine ⟨n + 1 - (i + 1), by omega, h₅, tk₅, i + 1, ys₅, oC₅, mc₅, oo', rfl, hlt, rfl, hO₂, F₅, hns₅, fun p hp => N₅ p ?_, fun p hp q hq => ?_, hK₅⟩
    · rcases List.mem_append.mp hp with hp | hp
      · exact .tail _ (.tail _ (List.mem_append_left _ hp))
      · rcases List.mem_cons.mp hp with rfl | hp
        · exact .head _
        · rcases List.mem_cons.mp hp with rfl | hp
          · exact .tail _ (.head _)
          · exact .tail _ (.tail _ (List.mem_append_right _ hp))
    · rcases List.mem_cons.mp hq with rfl | hq
      · exact hoffo p hp (C, oC) (.head _)
      · rcases List.mem_cons.mp hq with rfl | hq
        · exact hoffo p hp (D, lst ys) (.tail _ (.head _))
        · exact hoffo p hp q (.tail _ (.tail _ hq))
  · obtain rfl : i = n := Nat.le_antisymm hi (Nat.not_lt.mp hlt)
    refine W.done oo _ _ _ hO' Nb fun h₂ tk₂ hk₂ => ?_
    obtain ⟨F₂, N₂⟩ := fr h₂ hk₂
    exact hR h₂ tk₂ oC mc ys hns' F₂ N₂ hK'
  run_tac Mine.shrink
/-- the source of such a comprehension -/
def SrcO (prog : Program) (w : World) (A : Around) (h₀ : Heap) (L : Addr) (m : Str → Option Value) (env : Env) (elt i2 : Expr) (x y : Str) (scope : Scope) (cl : List (Str × Addr)) (up : Addr → Str → Option Value) (Kf : Addr → Shared → Prop) (it : Value) (s₂ : Shared) : Prop :=
  ∃ (I : Addr) (n : Nat) (base oo : List (Addr × Obj)) (Ou : Nat → List (Addr × Obj) → Prop) (P : Nat → Value → List (Addr × Obj) → Prop) (K : Nat → List Value → Prop), it = .ref I ∧ OutIt prog w A h₀ L I n base Ou P ∧ Fr h₀ L s₂.heap m ∧ News h₀ L s₂.heap (oo ++ base) ∧ OffL oo base ∧ Ou 0 oo ∧ K 0 [] ∧
    TurnO prog w A h₀ L m env elt i2 x y scope cl s₂ n base Ou P K ∧ ∀ D h tk ys, Fr h₀ L h (up D) → News h₀ L h ((D, lst ys) :: base) → (∀ p ∈ base, p.1 ≠ D) → K n ys → Kf D { s₂ with heap := h, toks := tk }
theorem block_O {elt i1 i2 : Expr} {x y : Str} {px py : Pos} {scope : Scope} {cl : List (Str × Addr)} {pos : Pos} {s₂ : Shared} {I : Addr} {n : Nat} {base oo : List (Addr × Obj)} {Ou : Nat → List (Addr × Obj) → Prop} {P : Nat → Value → List (Addr × Obj) → Prop} {K : Nat → List Value → Prop} {RR : Value → Addr → Result → Shared → Prop}
    (W : OutIt prog w A h₀ L I n base Ou P) (hcell : ∀ z ∈ scope.names, z.2 ≠ .cell) (hkind : scope.kind = .function) (hx : scope.names.lookup x = some .local) (hy : scope.names.lookup y = some .local) (hxy : x ≠ y)
    (F : Fr h₀ L s₂.heap m) (N : News h₀ L s₂.heap (oo ++ base)) (hoff : OffL oo base) (hO : Ou 0 oo) (hK : K 0 []) (turn : TurnO prog w A h₀ L m env elt i2 x y scope cl s₂ n base Ou P K) (hs : ∀ e x, foldedSetIterable i2 e x = pure x)
    (hRR : ∀ D C h tk m' ys, Fr h₀ L h m → News h₀ L h ((D, lst ys) :: base) → (∀ p ∈ base, p.1 ≠ D) → h.Ns C m' → h₀.get? C = none → C ≠ L → C ≠ D → (∀ p ∈ base, p.1 ≠ C) → K n ys → RR (.ref D) C (.ok .next) { s₂ with heap := h, toks := tk }) :
    wpAny (model prog w) A (newList []) (fun acc s₃ => wpAny (model prog w) A (newFunctionEnv scope env.globals cl [] env.qual none .none (some env)) (fun cenv s₄ =>
      codeAny (model prog w) A (.compStart (.ListComp elt [⟨.Name x px, i1, [], 0⟩, ⟨.Name y py, i2, [], 0⟩] scope pos) 0 (.ref I) acc { cenv with scope := relabel scope env }) (RR acc cenv.locals) s₄) E s₃) E s₂ := by
  run_tac Mine.mark
  have ltN : ∀ p ∈ oo ++ base, p.1 < s₂.heap.objs.size := fun p hp => Heap.lt_size (N p hp).1
  have hLlt : L < s₂.heap.objs.size := F.ns.lt
  have fresh₀ : ∀ a, s₂.heap.objs.size ≤ a → h₀.get? a = none := fun a ha => by
    cases e : h₀.get? a with
    | none => rfl
    | some o' => exact absurd (Heap.lt_size (F.keep a o' e)) (Nat.not_lt.mpr ha)
  refine wpAny_newObj_type ?_
  generalize hH2 : s₂.heap.push { cls := .type "list", dict := none, data := .seq ([] : List Value).toArray } = H2
  have hH2s : H2.objs.size = s₂.heap.objs.size + 1 := by rw [← hH2, Heap.size_push]
  have hD2 : H2.get? s₂.heap.objs.size = some (lst []) := by rw [← hH2]; exact Heap.get?_push_size _ rfl
  have k2 : ∀ b o, s₂.heap.get? b = some o → H2.get? b = some o := fun b o e => by rw [← hH2]; exact Heap.get?_push_of_some _ e
  generalize hDe : s₂.heap.objs.size = D at hLlt fresh₀ hH2s hD2 ltN
  refine wpAny_newFunctionEnv hcell (by intro y hy; simp at hy) (fun h₁ hns₁ hsb₁ => ?_) hkind
  dsimp only at hns₁ hsb₁ ⊢
  have hext : ∀ b o, H2.get? b = some o → h₁.get? b = some o := fun b o e => hsb₁.extBut b o (Nat.ne_of_lt (Heap.lt_size e)) (Heap.get?_push_of_some _ e)
  obtain ⟨oC, eC, hoC⟩ := ns_obj hns₁
  generalize hCe : H2.objs.size = C at hns₁ hsb₁ eC
  have hCD : C = D + 1 := hCe ▸ hH2s
  have hDC : D ≠ C := by rw [hCD]; exact Nat.ne_of_lt (Nat.lt_succ_self _)
  have old : ∀ b o, s₂.heap.get? b = some o → h₁.get? b = some o := fun b o e => hext b o (k2 b o e)
  have N₁ : News h₀ L h₁ (oo ++ ((C, oC) :: (D, lst []) :: base)) := fun p hp => by
    rcases List.mem_append.mp hp with hp | hp
    · exact ⟨old _ _ (N p (List.mem_append_left _ hp)).1, (N p (List.mem_append_left _ hp)).2⟩
    · rcases List.mem_cons.mp hp with rfl | hp
      · exact ⟨eC, by rw [hCD]; exact Nat.ne_of_gt (Nat.lt_succ_of_lt hLlt), fresh₀ _ (by rw [hCD]; exact Nat.le_succ _)⟩
      · rcases List.mem_cons.mp hp with rfl | hp
        · exact ⟨hext _ _ hD2, Nat.ne_of_gt hLlt, fresh₀ _ (Nat.le_refl _)⟩
        · exact ⟨old _ _ (N p (List.mem_append_right _ hp)).1, (N p (List.mem_append_right _ hp)).2⟩
  have hb : ∀ p ∈ base, p.1 ≠ C ∧ p.1 ≠ D := fun p hp => by
    have := ltN p (List.mem_append_right _ hp)
    exact ⟨by rw [hCD]; exact Nat.ne_of_lt (Nat.lt_succ_of_lt this), Nat.ne_of_lt this⟩
  have hoff1 : OffL oo ((C, oC) :: (D, lst []) :: base) := fun p hp q hq => by
    have := ltN p (List.mem_append_left _ hp)
    rcases List.mem_cons.mp hq with rfl | hq
    · show p.1 ≠ C; rw [hCD]; exact Nat.ne_of_lt (Nat.lt_succ_of_lt this)
    · rcases List.mem_cons.mp hq with rfl | hq
      · exact Nat.ne_of_lt this
      · exact hoff p hp q hq
  have loop : codeAny (model prog w) A (.compLoop (.ListComp elt [⟨.Name x px, i1, [], 0⟩, ⟨.Name y py, i2, [], 0⟩] scope pos) 0 (.ref I) (.ref D) (compEnvC scope cl C env)) (RR (.ref D) C) { s₂ with heap := h₁, toks := s₂.toks + ([] : List (Str × Value)).length } := by
    refine out_J W hkind hx hy hxy hDC (F.keeps old) N₁ hoC hoff1 hb hO hK turn hs fun h tk oC' mc' ys hns' F' N' hK' => ?_
    exact hRR D C h tk _ ys F' (fun p hp => N' p (.tail _ hp)) (fun p hp => (hb p hp).2) (hns'.ns (N' _ (.head _)).1) (N' _ (.head _)).2.2 (N' _ (.head _)).2.1 (Ne.symm hDC) (fun p hp => (hb p hp).1) hK'
  exact codeAny_compStart_list loop (W.self oo _ _ _ hO (news_sub N₁ fun p hp => (List.mem_append.mp hp).elim (fun hp => List.mem_append_left _ hp) fun hp => List.mem_append_right _ (.tail _ (.tail _ hp))) loop)
  run_tac Mine.shrink
theorem ListComp_O {elt i1 i2 : Expr} {x y : Str} {px py : Pos} {scope : Scope} {cl : List (Str × Addr)} {pos : Pos} {Q : Value → Shared → Prop} (_F₀ : Fr h₀ L s.heap m)
    (hclos : closureFor scope env = pure cl) (hcell : ∀ z ∈ scope.names, z.2 ≠ .cell) (hkind : scope.kind = .function) (hx : scope.names.lookup x = some .local) (hy : scope.names.lookup y = some .local) (hxy : x ≠ y)
    (hnames : ∀ y ∈ scope.names, y.2 = .local → scope.names.lookup y.1 = some .local)
    (h : wpAny (model prog w) A (eval i1 env) (fun xv s₁ => wpAny (model prog w) A (pyIter xv) (SrcO prog w A h₀ L m env elt i2 x y scope cl (fun _ => m) (fun D s' => Q (.ref D) s')) E s₁) E s)
    (hs : ∀ e x, foldedSetIterable i2 e x = pure x := by intro _ _; rfl) (hs1 : ∀ x, foldedSetIterable i1 env x = pure x := by intro _; rfl) :
    wpAny (model prog w) A (eval (.ListComp elt [⟨.Name x px, i1, [], 0⟩, ⟨.Name y py, i2, [], 0⟩] scope pos) env) Q E s := by
  run_tac Mine.mark
  rw [eval_ListComp]
  refine wpAny_comprehension_free (use := none) rfl hs1 hclos hkind hnames (wpAny_mono h (fun xv s₁ h₁ => wpAny_mono h₁ (fun it s₂ h₂ => ?_) fun _ _ e => e) fun _ _ e => e)
  obtain ⟨I, n, base, oo, Ou, P, K, rfl, W, F, N, hoff, hO, hK, turn, fin⟩ := h₂
  refine block_O W hcell hkind hx hy hxy F N hoff hO hK turn hs fun D C h tk m' ys F' N' o1 hn hC₀ hCL hCD offC hK' => ?_
  refine ⟨m', hn, fun h'' hs'' => fin D h'' tk ys (F'.change hs'' hCL hC₀) (fun p hp => ?_) o1 hK'⟩
  refine ⟨hs''.extBut _ _ ?_ (N' p hp).1, (N' p hp).2⟩
  rcases List.mem_cons.mp hp with rfl | hp
  · exact Ne.symm hCD
  · exact offC p hp
  run_tac Mine.shrink
theorem Assign_ListComp_O {elt i1 i2 : Expr} {x y z : Str} {px py pz : Pos} {scope : Scope} {cl : List (Str × Addr)} {pos spos : Pos} {Q : Flow → Shared → Prop} (_F₀ : Fr h₀ L s.heap m) (hLe : env.locals = L)
    (hsw : swapsWith (.ListComp elt [⟨.Name x px, i1, [], 0⟩, ⟨.Name y py, i2, [], 0⟩] scope pos) (some (.Name z pz)) spos.line env = pure true)
    (hclos : closureFor scope env = pure cl) (hcell : ∀ z ∈ scope.names, z.2 ≠ .cell) (hkind : scope.kind = .function) (hx : scope.names.lookup x = some .local) (hy : scope.names.lookup y = some .local) (hxy : x ≠ y)
    (hnames : ∀ y ∈ scope.names, y.2 = .local → scope.names.lookup y.1 = some .local)
    (hz : env.kindOf z = some .local) (hp : (env.scope.kind == .class || (env.scope.kind == .module && env.locals != env.globals)) = false)
    (h : wpAny (model prog w) A (eval i1 env) (fun xv s₁ => wpAny (model prog w) A (pyIter xv) (SrcO prog w A h₀ L m env elt i2 x y scope cl (fun D u => if u = z then some (.ref D) else m u) (fun _ s' => Q .next s')) E s₁) E s)
    (hs : ∀ e x, foldedSetIterable i2 e x = pure x := by intro _ _; rfl) (hs1 : ∀ x, foldedSetIterable i1 env x = pure x := by intro _; rfl) :
    wpAny (model prog w) A (exec (.Assign [.Name z pz] (.ListComp elt [⟨.Name x px, i1, [], 0⟩, ⟨.Name y py, i2, [], 0⟩] scope pos) spos) env) Q E s := by
  run_tac Mine.mark
  subst hLe
  rw [exec_Assign_Name_used _ _ _ _ hsw]
  refine wpAny_bind (wpAny_standAt (wpAny_bind ?_))
  show wpAny _ A (do let _ ← comprehension (.ListComp elt [⟨.Name x px, i1, [], 0⟩, ⟨.Name y py, i2, [], 0⟩] scope pos) scope env _ (newList []) false (eval i1 env) (some (assign (.Name z pz) env))) _ _ s
  refine wpAny_bind (wpAny_mono (wpAny_comprehension_free (use := some (assign (.Name z pz) env)) (Q := fun _ s' => Q .next s') rfl hs1 hclos hkind hnames
    (wpAny_mono h (fun xv s₁ h₁ => wpAny_mono h₁ (fun it s₂ h₂ => ?_) fun _ _ e => e) fun _ _ e => e)) (fun _ s' hq => wpAny_pure (wpAny_pure hq)) fun _ _ e => e)
  obtain ⟨I, n, base, oo, Ou, P, K, rfl, W, F, N, hoff, hO, hK, turn, fin⟩ := h₂
  refine block_O W hcell hkind hx hy hxy F N hoff hO hK turn hs fun D C h tk m' ys F' N' o1 hn hC₀ hCL hCD offC hK' => ?_
  show wpAny _ A (assign (.Name z pz) env (.ref D)) _ _ _
  refine wpAny_assign_Name (wpAny_storeName_local hz F'.ns (fun h₂ hn₂ hs₂ => ?_) hp)
  have hL₀ : h₀.get? env.locals = none := Heap.get?_none_of_le F'.above
  have F₂ : Fr h₀ env.locals h₂ (fun u => if u = z then some (.ref D) else m u) := ⟨hn₂, fun b o e => hs₂.extBut b o (fun q => by rw [q, hL₀] at e; cases e) (F'.keep b o e), F'.above⟩
  refine ⟨m', hn.sameBut hs₂ hCL, fun h'' hs'' => fin D h'' _ ys (F₂.change hs'' hCL hC₀) (fun p hp => ?_) o1 hK'⟩
  have zz : h₂.get? p.1 = some p.2 := hs₂.extBut _ _ (N' p hp).2.1 (N' p hp).1
  refine ⟨hs''.extBut _ _ ?_ zz, (N' p hp).2⟩
  rcases List.mem_cons.mp hp with rfl | hp
  · exact Ne.symm hCD
  · exact offC p hp
  run_tac Mine.shrink
end
end Mine
namespace Mine
end Mine
namespace Mine
open PyProof.Rows.LCg
section
variable {prog : Program} {w : World} {A : Around} {E : Value → Shared → Prop} {s : Shared} {h₀ : Heap} {L : Addr} {m : Str → Option Value} {env : Env}
/-- a range as the inner source -/
theorem InSrc.range {elt : Expr} {y : Str} {scope : Scope} {cl : List (Str × Addr)} {C D r : Addr} {oC : Obj} {mc : Str → Option Value} {ys0 : List Value} {news : List (Addr × Obj)} {K : List Value → Prop} {n : Nat} {t u v : Tok} (hh : A.handled = none) (F : Fr h₀ L s.heap m) (N : News h₀ L s.heap ((C, oC) :: (D, lst ys0) :: news)) (hns : NsObj oC mc)
    (hr : IsRange s.heap r 0 n 1 t u v) (hn : n ≤ 1000000) (J : Nat → List Value → Prop) (hJ : J 0 ys0) (hlen : ∀ i ys, J i ys → ys.length ≤ 1000000)
    (turn : ∀ i ys t h tk oC mc' oI I (E' : Value → Shared → Prop), i < n → J i ys → NsObj oC mc' → mc' y = some (.int ((i : Nat) : Int) t) → (∀ z, z ≠ y → mc' z = mc z) → Fr h₀ L h m → News h₀ L h ((I, oI) :: (C, oC) :: (D, lst ys) :: news) →
      wpAny (model prog w) A (eval elt (compEnvC scope cl C env)) (fun x s₄ => ∃ h' tk', s₄ = { s with heap := h', toks := tk' } ∧ Fr h₀ L h' m ∧ News h₀ L h' ((I, oI) :: (C, oC) :: (D, lst ys) :: news) ∧ J (i + 1) (ys ++ [x])) E' { s with heap := h, toks := tk })
    (fin : ∀ ys, J n ys → K ys) :
    wpAny (model prog w) A (pyIter (.ref r)) (fun it s₄ => (∃ h4 tk4, s₄ = { s with heap := h4, toks := tk4 }) ∧ InSrc prog w A h₀ L m env elt y scope cl C D mc ys0 news K it s₄) E s := by
  run_tac Mine.mark
  obtain ⟨f1, f2⟩ := range_facts n hn
  refine wpAny_pyIter_range hr f1 ?_
  have nC : C ≠ s.heap.objs.size := Nat.ne_of_lt (Heap.lt_size (N (C, oC) (.head _)).1)
  have nD : D ≠ s.heap.objs.size := Nat.ne_of_lt (Heap.lt_size (N (D, lst ys0) (.tail _ (.head _))).1)
  refine ⟨⟨_, s.toks, rfl⟩, s.heap.objs.size, _, _, _, _, J, oC, rfl, range_walks hh 0 n, (fun i h st => ⟨_, st⟩), (fun i h h' o st e e' k N' => range_st i h h' o news st e e' k N' trivial), (by show IsRangeIter _ _ _ _ _; rw [f2]; simpa using Heap.get?_push_size _ rfl), ?_, ?_,
    F.keeps fun _ _ e => Heap.get?_push_of_some _ e, hns, N.grown fun _ _ e => Heap.get?_push_of_some _ e, Nat.ne_of_lt F.ns.lt, next_is_new F, (fun p hp => Nat.ne_of_lt (Heap.lt_size (N p hp).1)), hJ, hlen, ?_, fin⟩
  · intro hq; exact nC (List.mem_singleton.mp hq)
  · intro hq; exact nD (List.mem_singleton.mp hq)
  · rintro i ys v h tk oC mc' oI E' hi ⟨t', rfl⟩ hJ' hns' hy
    have e0 : (0 : Int) + (i : Int) = ((i : Nat) : Int) := by omega
    rw [e0] at hy
    exact turn i ys t' h tk oC mc' oI _ E' hi hJ' hns' hy
  run_tac Mine.shrink
def RangeOu (I : Addr) (n : Nat) (i : Nat) (oo : List (Addr × Obj)) : Prop := oo = [(I, { cls := .type "range_iterator", dict := none, data := .fields #[rawInt i, rawInt ((n : Int) - i), rawInt 1], slots := #[] })]
theorem OutIt.range {I : Addr} {n : Nat} {base : List (Addr × Obj)} (hh : A.handled = none) : OutIt prog w A h₀ L I n base (RangeOu I n) (fun i v _ => ∃ t, v = .int ((i : Nat) : Int) t) where
  item := by
    rintro i oo s Q E hi rfl N HQ
    have g : IsRangeIter s.heap I (i : Int) ((n : Int) - i) 1 := (N _ (.head _)).1
    refine wpAny_pyNext_range_item g (by omega) fun h' hit hs => ?_
    refine HQ _ h' (s.toks + 1) _ ⟨_, rfl⟩ rfl (fun c o hc e => hs.extBut c o (hc _ (.head _)) e) fun p hp => ?_
    rw [List.mem_singleton.mp hp]
    refine ⟨?_, .inl ⟨_, .head _, rfl⟩⟩
    have e1 : (i : Int) + 1 = ((i + 1 : Nat) : Int) := by push_cast; rfl
    have e2 : (n : Int) - i - 1 = (n : Int) - ((i + 1 : Nat) : Int) := by push_cast; omega
    rw [e1, e2] at hit
    exact hit
  done := by
    rintro oo s Q E rfl N HQ
    have g : IsRangeIter s.heap I (n : Int) ((n : Int) - n) 1 := (N _ (.head _)).1
    exact wpAny_pyNext_range_end hh g (by omega) fun h' hs => HQ h' s.toks fun c o hc e => hs c o (hc _ (.head _)) e
  self := by
    rintro oo s Q E rfl N hQ
    have g : IsRangeIter s.heap I (((0 : Nat)) : Int) ((n : Int) - ((0 : Nat) : Int)) 1 := (N _ (.head _)).1
    exact (Walks.range (prog := prog) (w := w) (A := A) hh I 0 1 n).self 0 s _ _ (by simpa using g) hQ
end
end Mine
namespace Mine
open PyProof.Rows.LCg
theorem goodRow_due {N k f : Nat} (h : N + k ≤ 32) (hf : f < 2 ^ N) : GoodRow (dueNames N f (wordsOf N k)) := by
  run_tac Mine.mark
  rw [← names_due h hf]
  refine goodRow_names _ ?_
  have h1 : f * 2 ^ k < 2 ^ N * 2 ^ k := Nat.mul_lt_mul_of_pos_right hf (Nat.two_pow_pos k)
  rw [← Nat.pow_add] at h1
  exact Nat.lt_of_lt_of_le h1 (Nat.pow_le_pow_right (by decide) h)
  run_tac Mine.shrink
end Mine
namespace Mine
open PyProof.Rows.LCg
abbrev rngIt (i n : Int) : Obj := { cls := .type "range_iterator", dict := none, data := .fields #[rawInt i, rawInt (n - i), rawInt 1], slots := #[] }
/-- a turn of a loop over a range has ended: the frame, the ledger (its addresses are the same) -/
def EndH (h₀ : Heap) (L : Addr) (I : Addr) (it : Obj) (J : (Str → Option Value) → List (Addr × Obj) → Prop) (s₁ s₃ : Shared) : Prop :=
  ∃ h' tk m' nw, s₃ = { s₁ with heap := h', toks := tk } ∧ Fr h₀ L h' m' ∧ News h₀ L h' ((I, it) :: nw) ∧ (∀ p ∈ nw, p.1 ≠ I) ∧ J m' nw
def EndHQ (h₀ : Heap) (L : Addr) (I : Addr) (it : Obj) (J : (Str → Option Value) → List (Addr × Obj) → Prop) (s₁ : Shared) (Q : Flow → Shared → Prop) (f : Flow) (s₃ : Shared) : Prop :=
  match f with
  | .next | .cont => EndH h₀ L I it J s₁ s₃
  | .brk => Q .next s₃
  | .ret v => Q (.ret v) s₃
section
variable {prog : Program} {w : World} {A : Around} {s : Shared} {env : Env} {h₀ : Heap} {L : Addr} {E : Value → Shared → Prop} {m : Str → Option Value}
/-- a for loop over a range, its target a name or a cell -/
def LoopH (prog : Program) (w : World) (A : Around) (h₀ : Heap) (L : Addr) (env : Env) (x : Str) (px : Pos) (body : List Stmt) (Q : Flow → Shared → Prop) (E : Value → Shared → Prop) (it : Value) (s : Shared) : Prop :=
  ∃ (I : Addr) (n : Nat) (m : Str → Option Value) (news : List (Addr × Obj)) (J : Nat → (Str → Option Value) → List (Addr × Obj) → Prop), it = .ref I ∧ A.handled = none ∧ Fr h₀ L s.heap m ∧ News h₀ L s.heap ((I, rngIt (0 : Nat) n) :: news) ∧ (∀ p ∈ news, p.1 < I) ∧ J 0 m news ∧
    (∀ i t m₁ nw h tk, i < n → (∀ p ∈ nw, p.1 ≠ I) → J i m₁ nw → Fr h₀ L h m₁ → News h₀ L h ((I, rngIt ((i + 1 : Nat) : Int) n) :: nw) →
      wpAny (model prog w) A (assign (.Name x px) env (.int ((i : Nat) : Int) t)) (fun _ s₂ => wpAny (model prog w) A (execs body env) (EndHQ h₀ L I (rngIt ((i + 1 : Nat) : Int) n) (J (i + 1)) { s with heap := h, toks := tk } Q) E s₂) E { s with heap := h, toks := tk }) ∧
    ∀ h tk m₁ nw, Fr h₀ L h m₁ → News h₀ L h nw → J n m₁ nw → Q .next { s with heap := h, toks := tk }
theorem forH {Q : Flow → Shared → Prop} {x : Str} {px pos : Pos} {iter : Expr} {body : List Stmt} (_F : Fr h₀ L s.heap m)
    (h : wpAny (model prog w) A (eval iter env) (fun xv s₁ => wpAny (model prog w) A (pyIter xv) (fun it s₂ => LoopH prog w A h₀ L env x px body Q E it s₂) E s₁) E s)
    (hs : ∀ x, foldedSetIterable iter env x = pure x := by intro _; rfl)
    (hE : PassesOwn (model prog w) A env E := by passes_own) :
    wpAny (model prog w) A (exec (.For (.Name x px) iter body [] pos) env) Q E s := by
  run_tac Mine.mark
  refine wpAny_For (wpAny_mono h (fun xv s₁ h₁ => wpAny_mono h₁ (fun it s₂ h₂ => ?_) fun _ _ e => e) fun _ _ e => e) hs
  obtain ⟨I, n, m, news, J, rfl, hh, F, N, hlt, h0, step, hQ⟩ := h₂
  have aux : codeAny (model prog w) A (.forLoop (.Name x px) (.ref I) body [] env) (fun r s' => match r with | .ok f => Q f s' | .error e => cameBackBy (model prog w) A env E e s') s₂ := by
    refine codeAny_forLoop (fun k s' => ∃ h' tk m' nw i, s' = { s₂ with heap := h', toks := tk } ∧ Fr h₀ L h' m' ∧ News h₀ L h' ((I, rngIt ((i : Nat) : Int) n) :: nw) ∧ (∀ p ∈ nw, p.1 ≠ I) ∧ J i m' nw ∧ i ≤ n ∧ k = n + 1 - i) ?_ (n + 1)
      ⟨s₂.heap, s₂.toks, m, news, 0, rfl, F, N, fun p hp => Nat.ne_of_lt (hlt p hp), h0, Nat.zero_le _, rfl⟩
    rintro k s' ⟨h', tk, m', nw, i, rfl, F', N', nI, hJ, hi, rfl⟩
    have zI := N' _ (.head _)
    have next : ∀ h₁ : Heap, (∀ b o, b ≠ I → h'.get? b = some o → h₁.get? b = some o) → Fr h₀ L h₁ m' ∧ News h₀ L h₁ nw := fun h₁ hk =>
      ⟨⟨F'.ns.at' fun o e => hk _ o (Ne.symm zI.2.1) e, fun b o e => hk b o (fun q => by rw [q, zI.2.2] at e; cases e) (F'.keep b o e), F'.above⟩, fun p hp => ⟨hk _ _ (nI p hp) (N' p (.tail _ hp)).1, (N' p (.tail _ hp)).2⟩⟩
    have g : IsRangeIter h' I ((i : Nat) : Int) ((n : Int) - ((i : Nat) : Int)) 1 := zI.1
    by_cases hlt' : i < n
    · refine wpAny_pyNext_range_item g (by omega) fun h₂ hit hs₂ => ?_
      obtain ⟨F₂, N₂⟩ := next h₂ fun b o hb e => hs₂.extBut b o hb e
      have e1 : ((i : Nat) : Int) + 1 = ((i + 1 : Nat) : Int) := by push_cast; rfl
      have e2 : (n : Int) - ((i : Nat) : Int) - 1 = (n : Int) - ((i + 1 : Nat) : Int) := by push_cast; omega
      rw [e1, e2] at hit
      have N₃ : News h₀ L h₂ ((I, rngIt ((i + 1 : Nat) : Int) n) :: nw) := fun p hp => by
        rcases List.mem_cons.mp hp with rfl | hp
        · exact ⟨hit, zI.2⟩
        · exact N₂ p hp
      have st := step i tk m' nw h₂ (tk + 1) hlt' nI hJ F₂ N₃
      refine wpAny_mono (wpAny_passesOwn hE st) (fun _ s₃ h₃ => wpAny_mono (wpAny_passesOwn hE h₃) (fun f s₄ h₄ => ?_) fun _ _ e => e) fun _ _ e => e
      cases f with
      | ret v => exact h₄
      | brk => exact h₄
      | cont =>
        obtain ⟨h5, tk5, m5, nw5, rfl, F5, N5, a5, J5⟩ := h₄
        exact ⟨n + 1 - (i + 1), by omega, h5, tk5, m5, nw5, i + 1, rfl, F5, N5, a5, J5, hlt', rfl⟩
      | next =>
        obtain ⟨h5, tk5, m5, nw5, rfl, F5, N5, a5, J5⟩ := h₄
        exact ⟨n + 1 - (i + 1), by omega, h5, tk5, m5, nw5, i + 1, rfl, F5, N5, a5, J5, hlt', rfl⟩
    · have hin : i = n := by omega
      subst hin
      refine wpAny_pyNext_range_end hh g (by omega) fun h₂ hs₂ => ?_
      obtain ⟨F₂, N₂⟩ := next h₂ fun b o hb e => hs₂ b o hb e
      exact wpAny_execs_nil (hQ h₂ tk m' nw F₂ N₂ hJ)
  exact aux
  run_tac Mine.shrink
theorem LoopH.range {Q : Flow → Shared → Prop} {x : Str} {px : Pos} {body : List Stmt} {r : Addr} {n : Nat} {t u v : Tok} {news : List (Addr × Obj)} (hh : A.handled = none) (F : Fr h₀ L s.heap m) (N : News h₀ L s.heap news) (hr : IsRange s.heap r 0 n 1 t u v) (hn : n ≤ 1000000)
    (J : Nat → (Str → Option Value) → List (Addr × Obj) → Prop) (h0 : J 0 m news)
    (step : ∀ I i t m₁ nw h tk, i < n → (∀ p ∈ nw, p.1 ≠ I) → (@LT.lt Nat _ L I) → AllLt I news → J i m₁ nw → Fr h₀ L h m₁ → News h₀ L h ((I, rngIt ((i + 1 : Nat) : Int) n) :: nw) →
      wpAny (model prog w) A (assign (.Name x px) env (.int ((i : Nat) : Int) t)) (fun _ s₂ => wpAny (model prog w) A (execs body env) (EndHQ h₀ L I (rngIt ((i + 1 : Nat) : Int) n) (J (i + 1)) { s with heap := h, toks := tk } Q) E s₂) E { s with heap := h, toks := tk })
    (done : ∀ h tk m₁ nw, Fr h₀ L h m₁ → News h₀ L h nw → J n m₁ nw → Q .next { s with heap := h, toks := tk }) :
    wpAny (model prog w) A (pyIter (.ref r)) (fun it s₂ => LoopH prog w A h₀ L env x px body Q E it s₂) E s := by
  run_tac Mine.mark
  obtain ⟨f1, f2⟩ := range_facts n hn
  refine wpAny_pyIter_range hr f1 ?_
  rw [f2]
  have e0 : rngIt ((0 : Nat) : Int) (n : Int) = { cls := .type "range_iterator", dict := none, data := .fields #[rawInt 0, rawInt n, rawInt 1], slots := #[] } := by simp [rngIt]
  have Np := News.push F N { cls := .type "range_iterator", dict := none, data := .fields #[rawInt 0, rawInt n, rawInt 1], slots := #[] } rfl
  rw [← e0] at Np
  exact ⟨s.heap.objs.size, n, m, news, J, rfl, hh, F.push _, by rw [← e0]; exact Np, fun p hp => Heap.lt_size (N p hp).1, h0, fun i t m₁ nw h tk hi ha => step _ i t m₁ nw h tk hi ha F.ns.lt (allLt_of fun p hp => Heap.lt_size (N p hp).1), done⟩
  run_tac Mine.shrink
end
theorem News.tail {h₀ h : Heap} {L : Addr} {x : Addr × Obj} {l : List (Addr × Obj)} (N : News h₀ L h (x :: l)) : News h₀ L h l := fun p hp => N p (.tail _ hp)
theorem Acc2.int {x x' y : Str} {m₀ m : Str → Option Value} {z z' : Int} {t : Tok} (h : m y = some (.int z t)) (e : z = z') (hk : ∀ z, z ≠ x → z ≠ x' → z ≠ y → m z = m₀ z) : Acc2 x x' y m₀ (.int z' t) m := e ▸ Acc2.next h hk
end Mine
namespace Mine
def lowF (n : Nat) (z : Int) : List Int := ((List.range n).filter (fun k => decide (z / 2 ^ k % 2 = 1))).map fun k => ((k : Nat) : Int)
theorem lowF_succ (n : Nat) (z : Int) : lowF (n + 1) z = lowF n z ++ if z / 2 ^ n % 2 = 1 then [((n : Nat) : Int)] else [] := by
  run_tac Mine.mark
  unfold lowF
  rw [List.range_succ, List.filter_append, List.map_append]
  congr 1
  by_cases h : z / 2 ^ n % 2 = 1
  · simp [h]
  · simp [h]
  run_tac Mine.shrink
theorem low_min {N : Nat} {z M : Int} (h : M ∈ lowF N z ++ [((N : Nat) : Int)]) (k : ∀ a, a ∈ lowF N z ++ [((N : Nat) : Int)] → M ≤ a) : M = (lowZ N z : Nat) := by
  run_tac Mine.mark
  obtain ⟨h1, h2, h3⟩ := first_spec N fun k => decide (z / 2 ^ k % 2 = 1)
  change lowZ N z ≤ N at h1
  change ∀ j, j < lowZ N z → _ at h2
  change lowZ N z < N → (decide (z / 2 ^ lowZ N z % 2 = 1)) = true at h3
  generalize lowZ N z = d at h1 h2 h3
  have hm : ((d : Nat) : Int) ∈ lowF N z ++ [((N : Nat) : Int)] := by
    rcases Nat.lt_or_ge d N with q | q
    · exact List.mem_append_left _ (List.mem_map.mpr ⟨d, List.mem_filter.mpr ⟨List.mem_range.mpr q, h3 q⟩, rfl⟩)
    · have : d = N := by omega
      rw [this]; exact List.mem_append_right _ (.head _)
  have hle := k _ hm
  have hge : ((d : Nat) : Int) ≤ M := by
    rcases List.mem_append.mp h with h | h
    · obtain ⟨n, hn, rfl⟩ := List.mem_map.mp h
      obtain ⟨hn1, hn2⟩ := List.mem_filter.mp hn
      rcases Nat.lt_or_ge n d with q | q
      · have := h2 n q
        rw [hn2] at this; cases this
      · omega
    · rw [List.mem_singleton.mp h]; omega
  omega
  run_tac Mine.shrink
theorem bit_z (z : Int) (i : Nat) : (z.fdiv (2 ^ (0 + (i : Int)).toNat)).fmod 2 = 1 ↔ z / 2 ^ i % 2 = 1 := by
  rw [nat_k0, Int.fdiv_eq_ediv_of_nonneg _ (Int.le_of_lt (pow_pos2 i)), Int.fmod_eq_emod_of_nonneg _ (by decide)]
section
variable {prog : Program} {w : World} {A : Around} {E : Value → Shared → Prop} {s : Shared} {h₀ : Heap} {L l : Addr} {m : Str → Option Value} {news : List (Addr × Obj)}
theorem min_news {N n : Nat} {z : Int} {vs : List Value} {Q : Value → Shared → Prop} (hh : A.handled = none) (F : Fr h₀ L s.heap m) (Nw : News h₀ L s.heap news) (hm : (l, W.listOf vs.toArray n) ∈ news) (hi : IntsAre vs (lowF N z ++ [((N : Nat) : Int)]))
    (h : ∀ h' t tk, Fr h₀ L h' m → News h₀ L h' news → Q (.int ((lowZ N z : Nat) : Int) t) { s with heap := h', toks := tk }) : wpAny (model prog w) A (call (.builtin "min") [.ref l]) Q E s :=
  min_list_N hh F Nw ⟨_, Nw.get hm, rfl, _, rfl⟩ hi (by simp) fun h' M t tk F' N' a b => by rw [low_min a b]; exact h h' t tk F' N'
theorem item_strs_at {value slice : PySem.Expr} {its : Array Value} {ws : List Str} {k : Nat} {x : Str} {u : Tok} {Q : Value → Shared → Prop} (N : News h₀ L s.heap news) (hm : ∃ n, (l, W.listOf its n) ∈ news) (hi : StrsAre its.toList ws) (hx : ws[k]? = some x) (hl : ws.length ≤ 1000000)
    (h : ∀ t, Q (.str x t) s) (hs : subscripted slice false (.ref l) (.int ((k : Nat) : Int) u) = operate [.ref l, .int ((k : Nat) : Int) u] (getItem (.ref l) (.int ((k : Nat) : Int) u)) := by with_unfolding_all rfl) (ht : ∀ r, letTemporaryGo value (.ref l) r = pure () := by intro _; with_unfolding_all rfl) :
    wpAny (model prog w) A (subscriptTail value slice (.ref l) (.int ((k : Nat) : Int) u)) Q E s := by
  run_tac Mine.mark
  obtain ⟨n, hm⟩ := hm
  have hlt : k < ws.length := (List.getElem?_eq_some_iff.mp hx).1
  obtain ⟨t, e⟩ := StrsAre.get hi k x hx
  exact item_list (News.isList N hm) (Int.natCast_nonneg _) (by omega) (by rw [Int.toNat_natCast, ← Array.getElem?_toList]; exact e) (h t) hs ht
  run_tac Mine.shrink
theorem item_ints_at {value slice : PySem.Expr} {its : Array Value} {ws : List Int} {k : Nat} {x : Int} {u : Tok} {Q : Value → Shared → Prop} (N : News h₀ L s.heap news) (hm : ∃ n, (l, W.listOf its n) ∈ news) (hi : IntsAre its.toList ws) (hx : ws[k]? = some x) (hl : ws.length ≤ 1000000)
    (h : ∀ t, Q (.int x t) s) (hs : subscripted slice false (.ref l) (.int ((k : Nat) : Int) u) = operate [.ref l, .int ((k : Nat) : Int) u] (getItem (.ref l) (.int ((k : Nat) : Int) u)) := by with_unfolding_all rfl) (ht : ∀ r, letTemporaryGo value (.ref l) r = pure () := by intro _; with_unfolding_all rfl) :
    wpAny (model prog w) A (subscriptTail value slice (.ref l) (.int ((k : Nat) : Int) u)) Q E s := by
  run_tac Mine.mark
  obtain ⟨n, hm⟩ := hm
  have hlt : k < ws.length := (List.getElem?_eq_some_iff.mp hx).1
  have hlv : its.toList.length = ws.length := IntsAre.length hi
  have hk : k < its.toList.length := by omega
  obtain ⟨n', t, e, e2⟩ := hi.at k _ (List.getElem?_eq_getElem hk)
  rw [hx] at e2
  have e2 := Option.some.inj e2
  exact item_list (News.isList N hm) (Int.natCast_nonneg _) (by omega) (by rw [Int.toNat_natCast, ← Array.getElem?_toList, List.getElem?_eq_getElem hk, e, ← e2]) (h t) hs ht
  run_tac Mine.shrink
end
theorem lowF_len (n : Nat) (z : Int) : (lowF n z).length ≤ n := by
  unfold lowF
  rw [List.length_map]
  exact Nat.le_trans (List.length_filter_le _ _) (by simp)
theorem getD_at {ys : List Int} {i : Nat} {y : Int} (h : ys[i]? = some y) : ys.getD ((i : Nat) : Int).toNat 0 = y := by
  rw [Int.toNat_natCast, List.getD, h]; rfl
theorem put_again {t : Str} {a b : Option Value} {m : Str → Option Value} : (fun y => if y = t then a else if y = t then b else m y) = fun z => if z = t then a else m z := by
  run_tac Mine.mark
  funext z
  by_cases h : z = t
  · simp only [if_pos h]
  · simp only [if_neg h]
  run_tac Mine.shrink
theorem bit_val (P : Int) {i : Nat} (hi : i < 8) : (P.fdiv (2 ^ (0 + (i : Int)).toNat)).fmod 2 = 1 ↔ (P % 256).toNat.testBit i = true := by
  run_tac Mine.mark
  rw [bit_z, bit_div, decide_eq_true_iff]
  have e : ((P % 256).toNat : Int) = P % 256 := Int.toNat_of_nonneg (Int.emod_nonneg _ (by decide))
  generalize (P % 256).toNat = n at e
  have h8 : i = 0 ∨ i = 1 ∨ i = 2 ∨ i = 3 ∨ i = 4 ∨ i = 5 ∨ i = 6 ∨ i = 7 := by omega
  rcases h8 with rfl | rfl | rfl | rfl | rfl | rfl | rfl | rfl <;> simp only [Int.reducePow, Nat.reducePow] <;> omega
  run_tac Mine.shrink
theorem strs_pick_both {its : Array Value} {ws : List Str} (hi : StrsAre its.toList ws) {a b : Nat} (hab : a ≤ b) (hbl : b ≤ ws.length) : StrsAre (kms_pick its.toList (some ((a : Nat) : Int)) (some ((b : Nat) : Int))) ((ws.drop a).take (b - a)) := by
  run_tac Mine.mark
  have hl := hi.length
  unfold kms_pick kms_lo kms_hi
  dsimp only
  rw [if_neg (by omega), if_neg (by omega), Int.toNat_natCast, Int.toNat_natCast, hl, Nat.min_eq_left (by omega), Nat.min_eq_left (by omega)]
  exact StrsAre.take' (StrsAre.drop' hi _) _
  run_tac Mine.shrink
theorem slice_both {prog : Program} {w : World} {A : Around} {E : Value → Shared → Prop} {s : Shared} {h₀ : Heap} {L l : Addr} {m : Str → Option Value} {news : List (Addr × Obj)} {value slice : PySem.Expr} {its : Array Value} {ws : List Str} {i j : Int} {a b : Nat} {u u2 : Tok} {Q : Value → Shared → Prop} (F : Fr h₀ L s.heap m) (N : News h₀ L s.heap news) (hm : ∃ n, (l, W.listOf its n) ∈ news) (hi : StrsAre its.toList ws)
    (ha : i = ((a : Nat) : Int)) (hb : j = ((b : Nat) : Int)) (hab : a ≤ b) (hbl : b ≤ ws.length) (hl : ws.length ≤ 1000000)
    (h : ∀ D vs h', StrsAre vs ((ws.drop a).take (b - a)) → Fr h₀ L h' m → News h₀ L h' ((D, W.listOf vs.toArray 0) :: news) → (∀ p ∈ news, p.1 < D) → Q (.ref D) { s with heap := h' })
    (hs : subscripted slice false (.ref l) (.ref s.heap.objs.size) = operate [.ref s.heap.objs.size, .ref l] (getItem (.ref l) (.ref s.heap.objs.size)) := by with_unfolding_all rfl) (ht : ∀ r, letTemporaryGo value (.ref l) r = pure () := by intro _; with_unfolding_all rfl) :
    wpAny (model prog w) A (subscriptTail value slice (.ref l) (.ref s.heap.objs.size)) Q E { s with heap := s.heap.push { cls := .type "slice", data := .fields #[.int i u, .int j u2, .none] } } := by
  run_tac Mine.mark
  obtain ⟨n, hm⟩ := hm
  subst ha hb
  have e := strs_size hi
  have k : (1000000 : Nat) ≤ sizeLine := by decide
  exact kms_slice_lit F N (News.isList N hm) (.int _ u) (.int _ u2) rfl (fun D h' F' N' l1 => h D _ h' (strs_pick_both hi hab hbl) F' N' l1) hs ht (by omega)
  run_tac Mine.shrink
def wordsB (k : Nat) : Bool := ((lowNames ++ wordsOf 22 10).drop k).take 8 == wordsOf 8 k
theorem words_cut' : ∀ k, k ≤ 24 → wordsB k = true := by decide +kernel
theorem words_cut {k : Nat} (h : k ≤ 24) : ((lowNames ++ wordsOf 22 10).drop k).take 8 = wordsOf 8 k := eq_of_beq (words_cut' k h)
theorem lown_len : (lowNames ++ wordsOf 22 10).length = 32 := by decide +kernel
end Mine
namespace Mine
open PyProof.Rows.LCg
/-- g of all pairs, the second one lower -/
def pairsZ (g : Nat → Nat → Int) (n : Nat) : List Int := (List.range n).flatMap fun i => (List.range i).map (g i)
theorem pairs_succ (g : Nat → Nat → Int) (n : Nat) : pairsZ g (n + 1) = pairsZ g n ++ (List.range n).map (g n) := by
  unfold pairsZ
  rw [List.range_succ, List.flatMap_append]
  simp
theorem pairs_len (g : Nat → Nat → Int) : ∀ n, (pairsZ g n).length ≤ n * n
  | 0 => Nat.le_refl _
  | n + 1 => by
    have := pairs_len g n
    rw [pairs_succ, List.length_append, List.length_map, List.length_range]
    have : (n + 1) * (n + 1) = n * n + n + n + 1 := by grind
    omega
/-- an item of such a list has been told -/
def PairEnd (h₀ : Heap) (L : Addr) (m : Str → Option Value) (news : List (Addr × Obj)) (s : Shared) (k : Int) (z : Value) (s₄ : Shared) : Prop := ∃ h' tk' t', z = .int k t' ∧ s₄ = { s with heap := h', toks := tk' } ∧ Fr h₀ L h' m ∧ News h₀ L h' news
section
variable {prog : Program} {w : World} {A : Around} {E : Value → Shared → Prop} {s : Shared} {h₀ : Heap} {L : Addr} {m : Str → Option Value} {env : Env}
theorem pairs_range {elt i2 : Expr} {x y : Str} {scope : Scope} {cl : List (Str × Addr)} {up : Addr → Str → Option Value} {Kf : Addr → Shared → Prop} {r : Addr} {n : Nat} {t u v : Tok} {base : List (Addr × Obj)} (g : Nat → Nat → Int) (hh : A.handled = none) (hxy : x ≠ y)
    (F : Fr h₀ L s.heap m) (N : News h₀ L s.heap base) (hr : IsRange s.heap r 0 n 1 t u v) (hn : n ≤ 100)
    (src : ∀ i t' ys h tk C D I oC oI mc (Q' : Value → Shared → Prop) (E' : Value → Shared → Prop), i < n → NsObj oC mc → mc x = some (.int ((i : Nat) : Int) t') → Fr h₀ L h m → News h₀ L h ((C, oC) :: (D, lst ys) :: (I, oI) :: base) →
      (∀ r' h' tk' t u v, Fr h₀ L h' m → News h₀ L h' ((C, oC) :: (D, lst ys) :: (I, oI) :: base) → IsRange h' r' 0 i 1 t u v → Q' (.ref r') { s with heap := h', toks := tk' }) →
      wpAny (model prog w) A (eval i2 (compEnvC scope cl C env)) Q' E' { s with heap := h, toks := tk })
    (turn : ∀ i j t' u' ys h tk C D I J oC oI oJ mc (E' : Value → Shared → Prop), i < n → j < i → NsObj oC mc → mc x = some (.int ((i : Nat) : Int) t') → mc y = some (.int ((j : Nat) : Int) u') → Fr h₀ L h m → News h₀ L h ((J, oJ) :: (C, oC) :: (D, lst ys) :: (I, oI) :: base) →
      wpAny (model prog w) A (eval elt (compEnvC scope cl C env)) (PairEnd h₀ L m ((J, oJ) :: (C, oC) :: (D, lst ys) :: (I, oI) :: base) s (g i j)) E' { s with heap := h, toks := tk })
    (fin : ∀ D h tk ys, Fr h₀ L h (up D) → News h₀ L h ((D, lst ys) :: base) → (∀ p ∈ base, p.1 ≠ D) → IntsAre ys (pairsZ g n) → Kf D { s with heap := h, toks := tk }) :
    wpAny (model prog w) A (pyIter (.ref r)) (SrcO prog w A h₀ L m env elt i2 x y scope cl up Kf) E s := by
  run_tac Mine.mark
  obtain ⟨f1, f2⟩ := range_facts n (by omega)
  refine wpAny_pyIter_range hr f1 ?_
  rw [f2]
  have up' : ∀ b o, s.heap.get? b = some o → (s.heap.push (rngIt ((0 : Nat) : Int) (n : Nat))).get? b = some o := fun b o e => Heap.get?_push_of_some _ e
  have e0 : ({ cls := .type "range_iterator", data := .fields #[rawInt 0, rawInt ((n : Nat) : Int), rawInt 1] } : Obj) = rngIt ((0 : Nat) : Int) (n : Nat) := by
    unfold rngIt
    congr 4
  rw [e0]
  refine ⟨s.heap.objs.size, n, base, [(s.heap.objs.size, rngIt ((0 : Nat) : Int) (n : Nat))], RangeOu s.heap.objs.size n, _, fun i ys => IntsAre ys (pairsZ g i), rfl, OutIt.range hh, F.keeps up', ?_, ?_, rfl, .nil, ?_, ?_⟩
  · intro p hp
    rcases List.mem_cons.mp hp with rfl | hp
    · exact ⟨Heap.get?_push_size _ rfl, Nat.ne_of_gt F.ns.lt, next_is_new F⟩
    · exact ⟨up' _ _ (N p hp).1, (N p hp).2⟩
  · intro p hp q hq
    rw [List.mem_singleton.mp hp]
    exact Nat.ne_of_gt (Heap.lt_size (N q hq).1)
  · rintro i ys v h tk C D oC mc oo E' hi ⟨t', rfl⟩ hO hK hns hmx F₁ N₁ hoff hof
    have hO : oo = _ := hO
    subst hO
    refine wpAny_mono (src i t' ys h tk C D _ oC _ mc (fun xv s₃ => wpAny (model prog w) A (pyIter xv) _ E' s₃) E' hi hns hmx F₁ N₁ fun r' h' tk' t u v F₂ N₂ hr2 => ?_) (fun _ _ q => q) fun _ _ q => q
    refine InSrc.range hh (s := { s with heap := h', toks := tk' }) F₂ N₂ hns hr2 (by omega) (fun j zs => IntsAre zs (pairsZ g i ++ (List.range j).map (g i)) ∧ j ≤ i) ⟨by simpa using hK, Nat.zero_le _⟩ ?_ ?_ ?_
    · rintro j zs ⟨hz, hj⟩
      rw [IntsAre.length hz, List.length_append, List.length_map, List.length_range]
      have h1 := pairs_len g i
      have h2 : i * i ≤ 100 * 100 := Nat.mul_le_mul (by omega) (by omega)
      omega
    · rintro j zs u' h2 tk2 oC2 mc2 oI I E2 hj ⟨hz, -⟩ hns2 hmy hsame F₃ N₃
      refine wpAny_mono (turn i j t' u' zs h2 tk2 C D _ I oC2 _ oI mc2 E2 hi hj hns2 ((hsame x hxy).trans hmx) hmy F₃ N₃) (fun z s₄ hz4 => ?_) fun _ _ q => q
      obtain ⟨h', tk', t', rfl, rfl, F₄, N₄⟩ := hz4
      refine ⟨h', tk', rfl, F₄, N₄, ?_, hj⟩
      rw [List.range_succ, List.map_append, ← List.append_assoc]
      exact IntsAre.append hz (.cons _ _ .nil)
    · rintro zs ⟨hz, -⟩
      show IntsAre zs (pairsZ g (i + 1))
      rw [pairs_succ]
      exact hz
  · intro D h tk ys F₁ N₁ o1 hK
    exact fin D h tk ys F₁ N₁ o1 hK
  run_tac Mine.shrink
end
end Mine
namespace Mine
/-- the five numbers -/
def placesL (t v : Int) : List Int := [t, t + 1, t + 2, t + 3, v]
/-- where the paths of two of them part -/
def gotZ (c0 c1 c2 c3 c4 c5 : Int) (pl : List Int) (i j : Nat) : Int := ((lowDiff 8 (valN c0 c1 c2 c3 c4 c5 (pl.getD i 0)) (valN c0 c1 c2 c3 c4 c5 (pl.getD j 0)) : Nat) : Int)
/-- where they should -/
def twoZ (pl : List Int) (i j : Nat) : Int := ((lowZ 8 (pl.getD i 0 - pl.getD j 0) : Nat) : Int)
theorem pairs_iff {c0 c1 c2 c3 c4 c5 t v : Int} : pairsZ (gotZ c0 c1 c2 c3 c4 c5 (placesL t v)) 5 = pairsZ (twoZ (placesL t v)) 5 ↔ goodP c1 c2 c3 c4 c5 := by
  run_tac Mine.mark
  constructor
  · intro h
    have h : [gotZ c0 c1 c2 c3 c4 c5 (placesL t v) 1 0, gotZ c0 c1 c2 c3 c4 c5 (placesL t v) 2 0, gotZ c0 c1 c2 c3 c4 c5 (placesL t v) 2 1, gotZ c0 c1 c2 c3 c4 c5 (placesL t v) 3 0, gotZ c0 c1 c2 c3 c4 c5 (placesL t v) 3 1, gotZ c0 c1 c2 c3 c4 c5 (placesL t v) 3 2, gotZ c0 c1 c2 c3 c4 c5 (placesL t v) 4 0, gotZ c0 c1 c2 c3 c4 c5 (placesL t v) 4 1, gotZ c0 c1 c2 c3 c4 c5 (placesL t v) 4 2, gotZ c0 c1 c2 c3 c4 c5 (placesL t v) 4 3]
      = [twoZ (placesL t v) 1 0, twoZ (placesL t v) 2 0, twoZ (placesL t v) 2 1, twoZ (placesL t v) 3 0, twoZ (placesL t v) 3 1, twoZ (placesL t v) 3 2, twoZ (placesL t v) 4 0, twoZ (placesL t v) 4 1, twoZ (placesL t v) 4 2, twoZ (placesL t v) 4 3] := h
    injection h with e10 h
    injection h with e20 h
    injection h with e21 h
    injection h with e30 h
    injection h with e31 h
    have e10 : ((lowDiff 8 (valN c0 c1 c2 c3 c4 c5 (t + 1)) (valN c0 c1 c2 c3 c4 c5 t) : Nat) : Int) = ((lowZ 8 (t + 1 - t) : Nat) : Int) := e10
    have e20 : ((lowDiff 8 (valN c0 c1 c2 c3 c4 c5 (t + 2)) (valN c0 c1 c2 c3 c4 c5 t) : Nat) : Int) = ((lowZ 8 (t + 2 - t) : Nat) : Int) := e20
    have e31 : ((lowDiff 8 (valN c0 c1 c2 c3 c4 c5 (t + 3)) (valN c0 c1 c2 c3 c4 c5 (t + 1)) : Nat) : Int) = ((lowZ 8 (t + 3 - (t + 1)) : Nat) : Int) := e31
    rw [show t + 1 - t = 1 by omega, lowZ_one] at e10
    rw [show t + 2 - t = 2 by omega, lowZ_two] at e20
    rw [show t + 3 - (t + 1) = 2 by omega, lowZ_two, show t + 3 = t + 1 + 2 by omega] at e31
    exact val_conv (Int.ofNat_inj.mp e10) (Int.ofNat_inj.mp e20) (Int.ofNat_inj.mp e31)
  · intro h
    congr 1
    funext i j
    unfold gotZ twoZ
    rw [(val_iso h).low]
  run_tac Mine.shrink
theorem got_ge {c0 c1 c2 c3 c4 c5 : Int} {pl : List Int} {n : Nat} : ∀ z ∈ pairsZ (gotZ c0 c1 c2 c3 c4 c5 pl) n, 0 ≤ z := by
  run_tac Mine.mark
  intro z hz
  unfold pairsZ at hz
  obtain ⟨i, _, hi⟩ := List.mem_flatMap.mp hz
  obtain ⟨j, _, rfl⟩ := List.mem_map.mp hi
  exact Int.natCast_nonneg _
  run_tac Mine.shrink
theorem mod25 (z : Int) : 0 ≤ z.fmod 25 ∧ z.fmod 25 ≤ 24 := by
  rw [Int.fmod_eq_emod_of_nonneg _ (by decide)]
  omega
theorem mod256 (z : Int) : 0 ≤ z.fmod 256 ∧ z.fmod 256 < 256 := by
  rw [Int.fmod_eq_emod_of_nonneg _ (by decide)]
  omega
theorem mod65536 (z : Int) : 0 ≤ z.fmod 65536 ∧ z.fmod 65536 < 65536 := by
  rw [Int.fmod_eq_emod_of_nonneg _ (by decide)]
  omega
theorem places_at {t v : Int} {i : Nat} (h : i < 5) (ht : 0 ≤ t ∧ t ≤ 300) (hv : 0 ≤ v ∧ v ≤ 65536) : ∃ x, (placesL t v)[i]? = some x ∧ 0 ≤ x ∧ x ≤ 70000 := by
  run_tac Mine.mark
  match i, h with
  | 0, _ => exact ⟨t, rfl, by omega, by omega⟩
  | 1, _ => exact ⟨t + 1, rfl, by omega, by omega⟩
  | 2, _ => exact ⟨t + 2, rfl, by omega, by omega⟩
  | 3, _ => exact ⟨t + 3, rfl, by omega, by omega⟩
  | 4, _ => exact ⟨v, rfl, by omega, by omega⟩
  run_tac Mine.shrink
theorem getD_of {ys : List Int} {i : Nat} {y : Int} (h : ys[i]? = some y) : ys.getD i 0 = y := by
  rw [List.getD, h]; rfl
/-- what a call has made joins the ledger -/
theorem news_made {h₀ h h' : Heap} {L D : Addr} {o : Obj} {m : Str → Option Value} {news : List (Addr × Obj)} (g : Grow h h') (F : Fr h₀ L h m) (N : News h₀ L h news) (e : h'.get? D = some o) (n : h.get? D = none) : News h₀ L h' ((D, o) :: news) ∧ neAll D news := by
  run_tac Mine.mark
  have hL : D ≠ L := by
    rintro rfl
    obtain ⟨oC, eC, _⟩ := PyProof.Rows.LCg.ns_obj F.ns
    rw [eC] at n; cases n
  refine ⟨fun p hp => ?_, neAll_of fun p hp q => ?_⟩
  · rcases List.mem_cons.mp hp with rfl | hp
    · exact ⟨e, hL, fresh_back n F⟩
    · exact news_grow' g N p hp
  · have := (N p hp).1
    rw [q, n] at this; cases this
  run_tac Mine.shrink
/-- the words of all the paths -/
def rowsV (c0 c1 c2 c3 c4 c5 : Int) (k0 : Nat) (pl : List Int) : List (List Str) := pl.map fun x => dueNames 8 (valN c0 c1 c2 c3 c4 c5 x) (wordsOf 8 k0)
theorem rowsV_good {c0 c1 c2 c3 c4 c5 : Int} {k0 : Nat} {pl : List Int} (hk : k0 ≤ 24) : ∀ r ∈ rowsV c0 c1 c2 c3 c4 c5 k0 pl, GoodRow r := fun r hr => by
  obtain ⟨x, _, rfl⟩ := List.mem_map.mp hr
  exact goodRow_due (by omega) (val_lt ..)
theorem rowsV_at {c0 c1 c2 c3 c4 c5 : Int} {k0 i : Nat} {pl : List Int} {x : Int} (h : pl[i]? = some x) : ((rowsV c0 c1 c2 c3 c4 c5 k0 pl).map pathOf)[i]? = some (pathOf (dueNames 8 (valN c0 c1 c2 c3 c4 c5 x) (wordsOf 8 k0))) := by
  unfold rowsV
  rw [List.getElem?_map, List.getElem?_map, h]; rfl
end Mine
namespace Mine
local macro_rules | `(tactic| walk_at "my enter") => `(tactic| first
  | (refine' code_defS ?k1 ?k2 ?k3 ?k5 ?kA ?kF ?kK ?k6 ?k7 ?k8 ?k9 ?kB ?_ ?c2 ?c3 ?c4 ?c5; (case kA => exact rfl); (case kF => exact rfl); (case kK => assumption); (case k1 => k_asm); (case k2 => k_asm); (case k3 => k_asm); (case k5 => k_asm); (case k6 => k_is); (case k7 => k_is); (case k8 => ktr_room); (case k9 => first | exact BindsTo.of_eq rfl | exact binds_K (by first | k_in | exact Frag.In.keeps (by assumption) (Fr.keep (by assumption))) rfl (by k_is) rfl rfl rfl); (case c5 => decide); (case kB => exact locs rfl); (case c2 => exact rfl); (case c3 => exact rfl); (case c4 => exact rfl); k_whole; intro L' h' F' N' B' X' T'; (try dsimp only); (try k_fold))
  | (refine' code_restS ?k1 ?k2 ?k3 ?k5 ?kA ?kF ?kK ?k6 ?k7 ?k8 ?kV ?kP ?kG ?kB ?_ ?c2 ?c3 ?c4 ?c5; (case kA => exact rfl); (case kF => exact rfl); (case kK => assumption); (case k1 => k_asm); (case k2 => k_asm); (case k3 => k_asm); (case k5 => k_asm); (case k6 => k_is); (case k7 => k_is); (case k8 => ktr_room); (case kV => kl_lit); (case kP => exact rfl); (case kG => exact fun _ => rfl); (case kB => exact fun _ => locs rfl); (case c5 => decide); (case c2 => exact rfl); (case c3 => exact rfl); (case c4 => exact rfl); k_whole; intro D' L' h' F' N' B' X' T'; (try dsimp only); (try k_fold)))
local macro_rules | `(tactic| walk_at "call builtin:issubclass") => `(tactic| (k_here; k_dflt (refine' issub_tup ?k1 ?_; (case k1 => exact News.get (by k_asm) (by k_mem)); k_whole); intro tk'))

theorem fspath_spec (w : World) (prog : Program) (hp : prog = PySem.Challenge.rw_rt0040_02.prog) (x : Str) (t : Tok) : Spec (hd02.heap_39 w.params) prog w 111 3 [.str x t] (fun _ => True) (fun _ _ r => r = .str x t) := by
  run_tac Mine.mark
  revert hp; k_fill; intro hp
  intro p loose mean mg mb dp un gd cn cs a ccd cl outer A₀ base h₀ L m s Q E B F X T hk hd hu hpre hQ
  refine wpAny_call ?_
  k_dflt walk_at "my enter"
  k_steps
  exact hQ _ _ _ (Fr.keep (by k_asm)) rfl
  run_tac Mine.shrink

theorem getsep_spec (w : World) (prog : Program) (hp : prog = PySem.Challenge.rw_rt0040_02.prog) (x : Str) (t : Tok) : Spec (hd02.heap_39 w.params) prog w 125 3 [.str x t] (fun _ => True) (fun _ _ r => ∃ t', r = .str (Str.ofString "/") t') := by
  run_tac Mine.mark
  revert hp; k_fill; intro hp
  intro p loose mean mg mb dp un gd cn cs a ccd cl outer A₀ base h₀ L m s Q E B F X T hk hd hu hpre hQ
  refine wpAny_call ?_
  k_dflt walk_at "my enter"
  k_steps
  exact hQ _ _ _ (Fr.keep (by k_asm)) ⟨_, rfl⟩
  run_tac Mine.shrink

local macro_rules | `(tactic| walk_at "my use") => `(tactic| ((case hp => first | assumption | exact rfl); (case k1 => k_asm); (case k2 => k_asm); (case k3 => k_asm); (case k5 => k_asm); (case kK => first | exact rfl | assumption); (case kd => ktr_room); (case ku => ktr_units)))
local macro_rules | `(tactic| walk_at "call ref") => `(tactic| (k_here; k_dflt (refine' Spec.use (fspath_spec _ _ ?hp _ _) ?k1 ?k2 ?k3 ?k5 ?kK ?kd ?ku trivial ?_; walk_at "my use"; k_whole); intro r' h' tk' g' F' o'; (have N' := news_grow' g' (by assumption)); clear g'; k_sweep; (try dsimp only at o'); subst o'; (try dsimp only); (try k_fold)))
local macro_rules | `(tactic| walk_at "call ref") => `(tactic| (k_here; k_dflt (refine' Spec.use (getsep_spec _ _ ?hp _ _) ?k1 ?k2 ?k3 ?k5 ?kK ?kd ?ku trivial ?_; walk_at "my use"; k_whole); intro r' h' tk' g' F' o'; (have N' := news_grow' g' (by assumption)); clear g'; k_sweep; (try dsimp only at o'); (obtain ⟨t', o'⟩ := o'); subst o'; (try dsimp only); (try k_fold)))
local macro_rules | `(tactic| walk_at "truthy str") => `(tactic| (k_here; k_dflt (refine' truthy_ne ?k1 ?k2 ?_; (case k1 => assumption); (case k2 => omega); k_whole); intro tk'))
theorem join_spec (w : World) (prog : Program) (hp : prog = PySem.Challenge.rw_rt0040_02.prog) (x y : Str) (t u : Tok) (hx0 : 0 < x.length) (hx : x.length ≤ 1000000) (hy : y.length ≤ 1000000) (hys : Txt.startswith y (Str.ofString "/") = false) : Spec (hd02.heap_39 w.params) prog w 132 6 [.str x t, .str y u] (fun _ => True) (fun _ _ r => ∃ t', r = .str (joinStr x y) t') := by
  run_tac Mine.mark
  revert hp; k_fill; intro hp
  intro p loose mean mg mb dp un gd cn cs a ccd cl outer A₀ base h₀ L m s Q E B F X T hk hd hu hpre hQ
  refine wpAny_call ?_
  k_dflt walk_at "my enter"
  k_steps
  all_goals first
    | (rename Txt.startswith y _ = true => ha; rw [hys] at ha; cases ha)
    | (refine hQ _ _ _ (Fr.keep (by k_asm)) (out_str ?_); unfold joinStr; simp only [*, if_true, if_false, Bool.false_eq_true])
  run_tac Mine.shrink
local macro_rules | `(tactic| walk_at "call builtin:iter") => `(tactic| (k_here; k_dflt (refine' iter_strs ?k1 ?k2 ?k3 ?_; (case k1 => k_asm); (case k2 => k_asm); (case k3 => assumption); k_whole); intro I' h' F' N' l1; (try k_lt l1); (try k_sweep)))
local macro_rules | `(tactic| walk_at "compareOp Is") => `(tactic| (k_here; k_dflt (refine' wpAny_is_other ?k1 ?k2 ?_; (case k1 => exact rfl); (case k2 => intro e; cases e); k_whole)))
local macro_rules | `(tactic| walk_at "call ref") => `(tactic| (k_here; k_dflt (refine' Spec.use (join_spec _ _ ?hp _ _ _ _ ?j1 ?j2 ?j3 ?j4) ?k1 ?k2 ?k3 ?k5 ?kK ?kd ?ku trivial ?_; walk_at "my use"; (case j1 => assumption); (case j2 => assumption); (case j3 => assumption); (case j4 => assumption); k_whole); intro r' h' tk' g' F' o'; (have N' := news_grow' g' (by assumption)); clear g'; k_sweep; (try dsimp only at o'); (obtain ⟨t', o'⟩ := o'); subst o'; (try dsimp only); (try k_fold)))
section
local macro_rules | `(tactic| walk_at "exec For Name Name cons nil") => `(tactic| (k_here; (with_reducible rename Fr _ _ _ _ => lF'); (with_unfolding_all refine' forS lF' ?k1 ?k2 ?_; (case k1 => exact rfl); (case k2 => exact rfl)); k_whole))
theorem reduce_join_spec (w : World) (prog : Program) (hp : prog = PySem.Challenge.rw_rt0040_02.prog) (x : Str) (t : Tok) (l : Addr) (vs : List Value) (xs : List Str) (hi : StrsAre vs xs)
    (hx0 : 0 < x.length) (hok : ∀ i, i < xs.length → ((xs.take i).foldl joinStr x).length ≤ 1000000 ∧ 0 < ((xs.take i).foldl joinStr x).length) (hxs : ∀ y ∈ xs, y.length ≤ 1000000 ∧ Txt.startswith y (Str.ofString "/") = false) :
    Spec (hd02.heap_39 w.params) prog w 38 16 [.ref 132, .ref l, .str x t] (fun h => h.IsList l vs.toArray) (fun _ _ r => ∃ t', r = .str (xs.foldl joinStr x) t') := by
  run_tac Mine.mark
  revert hp; k_fill; intro hp
  intro p loose mean mg mb dp un gd cn cs a ccd cl outer A₀ base h₀ L m s Q E B F X T hk hd hu hpre hQ
  refine wpAny_call ?_
  k_dflt walk_at "my enter"
  k_steps
  rename Fr _ _ _ _ => F1
  rename News _ _ _ _ => N1
  have hI := N1 _ (List.Mem.head _)
  refine wpAny_pyIter_listiter (l := l) (i := 0) ⟨_, hI.1, rfl, rfl⟩ ?_
  refine LoopS.listIter (news := []) rfl ⟨_, hI.1, rfl, rfl⟩ hpre hI.2.2 hI.2.1 F1 News.nil (fun _ h => nomatch h)
    (fun i m' nws => nws = [] ∧ ∃ t', Acc1 (Str.ofString "element") (Str.ofString "value") _ (.str ((xs.take i).foldl joinStr x) t') m') ⟨rfl, _, Acc1.start rfl⟩ ?_ ?_
  · rintro i v m₁ news₁ h tk own hv - hoff ⟨rfl, t', u, rfl⟩ F N
    obtain ⟨y, ty, rfl, hy⟩ := hi.item i v (by simpa using hv)
    obtain ⟨h2, h1⟩ := hok i (List.getElem?_eq_some_iff.mp hy).1
    obtain ⟨h3, h4⟩ := hxs y (List.mem_of_getElem? hy)
    clear F1 N1
    k_steps
    rename Fr _ _ _ _ => F2
    rename News _ _ _ _ => N2
    have e : (xs.take (i + 1)).foldl joinStr x = joinStr ((xs.take i).foldl joinStr x) y := by rw [List.take_add_one, hy]; simp
    refine InvEndN.intro (nx := []) F2 N2 ⟨rfl, ?_⟩ rfl (fun _ h => nomatch h) (fun p hp => hp)
    rw [e]
    exact Acc1.strs rfl fun z h1 h2 => by simp only [if_neg h1, if_neg h2]
  · rintro h' tk m' news' F N ⟨rfl, t', u, rfl⟩
    have e : xs.take vs.toArray.size = xs := by rw [List.size_toArray, StrsAre.length hi, List.take_length]
    rw [e] at F
    k_steps
    exact hQ _ _ _ (Fr.keep (by k_asm)) ⟨_, rfl⟩
  run_tac Mine.shrink
end
local macro_rules | `(tactic| walk_at "call ref") => `(tactic| (k_here; k_dflt (refine' Spec.use (reduce_join_spec _ _ ?hp _ _ _ _ _ ?j1 ?j2 ?j3 ?j4) ?k1 ?k2 ?k3 ?k5 ?kK ?kd ?ku ?kp ?_; walk_at "my use"; (case j1 => assumption); (case j2 => decide); (case j3 => assumption); (case j4 => assumption); (case kp => first | exact News.isList (by k_asm) (by k_mem) | assumption); k_whole); intro r' h' tk' g' F' o'; (have N' := news_grow' g' (by assumption)); clear g'; k_sweep; (try dsimp only at o'); (obtain ⟨t', o'⟩ := o'); subst o'; (try dsimp only); (try k_fold)))
section
local macro_rules | `(tactic| walk_at "exec For") => `(tactic| (k_here; (with_reducible rename Fr _ _ _ _ => lF'); (with_unfolding_all refine' forS lF' ?k1 ?k2 ?_; (case k1 => exact rfl); (case k2 => exact rfl)); k_whole))
local macro_rules | `(tactic| walk_at "call builtin:hex") => `(tactic| (k_here; (with_reducible show wpAny _ _ (call (Value.builtin "hex") [Value.int (1 * 2 ^ Int.toNat (0 + _)) _]) _ _ _); k_dflt (refine' hex_flag ?k1 ?_; (case k1 => assumption); k_whole); intro tk' tk''))
local macro_rules | `(tactic| walk_at "call builtin:dict.get") => `(tactic| (k_here; k_dflt (refine' get_flag ?k1 ?k2 ?k3 ?_; (case k1 => assumption); (case k2 => assumption); (case k3 => k_asm); k_whole); intro tk' tk''))
local macro_rules | `(tactic| walk_at "call builtin:list.append") => `(tactic| (k_here; (with_reducible show wpAny _ _ (call (Value.builtin _) [Value.ref _, _]) _ _ _); k_dflt (refine' append_K ?k1 ?k2 ?k3 ?_ ?z; (case k1 => k_asm); (case k2 => k_asm); (case k3 => k_upd); (case z => exact Nat.le_trans (by assumption) (show 32 ≤ sizeLine by decide)); k_whole); intro h' F' N'; (try k_sweep)))
theorem pretty_spec (w : World) (prog : Program) (hp : prog = PySem.Challenge.rw_rt0040_02.prog) (n : Nat) (t : Tok) (hn : n < 2 ^ 32) : Spec (hd02.heap_39 w.params) prog w 29 6 [.int n t] (fun _ => True) (fun _ _ r => ∃ t', r = .str (Str.join (Str.ofString ", ") (flagNames n)) t') := by
  run_tac Mine.mark
  revert hp; k_fill; intro hp
  intro p loose mean mg mb dp un gd cn cs a ccd cl outer A₀ base h₀ L m s Q E B F X T hk hd hu hpre hQ
  refine wpAny_call ?_
  k_dflt walk_at "my enter"
  k_steps
  rename IsRange _ _ _ _ _ _ _ _ => hr
  rename Fr _ _ _ _ => F0
  rename News _ _ _ _ => N0
  obtain ⟨D, hD, N1⟩ := news_named N0
  subst hD
  obtain ⟨m₀, hm₀, F1⟩ := fr_named F0
  have hfl : ∃ tf, m₀ (Str.ofString "flags") = some (.int n tf) := ⟨_, by rw [hm₀]; rfl⟩
  obtain ⟨tf, hfl⟩ := hfl
  refine LoopS.range (n := 32) rfl hr (by decide +kernel) (by decide +kernel) F1 N1
    (fun i m' nws => (∃ vs k, nws = [(D, W.listOf vs k)] ∧ StrsAre vs.toList (flagsUpTo n i)) ∧ (n / 2 ^ i ≠ 0 ∨ n = 0) ∧ ∃ t', Acc2 (Str.ofString "i") (Str.ofString "flag") (Str.ofString "flags") m₀ (.int (n / 2 ^ i * 2 ^ i : Nat) t') m')
    ⟨⟨#[], 0, rfl, .nil⟩, by omega, tf, Acc2.start (by rw [hfl]; simp)⟩ ?_ ?_
  · rintro i ti m₁ news₁ h tk own hi - hoff ⟨⟨vs, k, rfl, hvs⟩, hnz, t', u1, u2, rfl⟩ F N
    subst hm₀
    clear F1 N1 F0 hfl
    simp only [List.map_cons, List.map_nil] at hoff
    simp only [List.cons_append, List.nil_append] at N
    have hsz : vs.size ≤ 32 := by have := strs_size hvs; have := flagsUpTo_len n i; omega
    have KD : KTD.Keyed s.heap 22 dTab := kt_keyed_in (by assumption) (by kernel_rfl)
    k_steps
    · -- the flag is in it, and more are left
      rename Builtin.bitAnd _ _ ≠ 0 => ha
      rename Builtin.bitXor _ _ ≠ 0 => hb
      have hbit : n.testBit i = true := by
        rw [and_flag] at ha
        cases hc : n.testBit i with
        | true => rfl
        | false => rw [hc] at ha; exact absurd rfl ha
      rw [xor_flag n i hbit] at hb
      rename Fr _ _ _ _ => F2
      rename News _ _ _ _ => N2
      refine inv_end1 F2 N2 ⟨⟨_, _, rfl, ?_⟩, .inl (fun q => hb (by rw [q]; simp)), Acc2.ints (by rw [← xor_flag n i hbit]; rfl) fun z h1 h2 h3 => by simp only [if_neg h1, if_neg h2, if_neg h3]⟩
      rw [flagsUpTo_succ, if_pos hbit]
      exact strsAre_push hvs
    · -- the last one
      rename Builtin.bitAnd _ _ ≠ 0 => ha
      rename Builtin.bitXor _ _ = 0 => hb
      have hbit : n.testBit i = true := by
        rw [and_flag] at ha
        cases hc : n.testBit i with
        | true => rfl
        | false => rw [hc] at ha; exact absurd rfl ha
      rw [xor_flag n i hbit] at hb
      have h0 : n / 2 ^ (i + 1) = 0 := by
        have : n / 2 ^ (i + 1) * 2 ^ (i + 1) = 0 := by exact_mod_cast hb
        rcases Nat.mul_eq_zero.mp this with q | q
        · exact q
        · exact absurd q (Nat.ne_of_gt (Nat.two_pow_pos _))
      have hn0 : n ≠ 0 := by rintro rfl; simp at hbit
      have e : flagNames n = flagsUpTo n (i + 1) := by
        unfold flagNames
        rw [if_neg hn0]
        exact flagsUpTo_done h0 32 (by omega)
      refine join_news (by k_asm) (.head _) (ys := flagsUpTo n (i + 1)) (by rw [flagsUpTo_succ, if_pos hbit]; exact strsAre_push hvs) (by decide) ?_ fun tk tk' => ?_
      · have := flagsUpTo_weight n (i + 1) (by omega); have := flagsUpTo_len n (i + 1); omega
      · rw [← e]
        exact hQ _ _ _ (Fr.keep (by k_asm)) ⟨_, rfl⟩
    · rename Builtin.bitAnd _ _ = 0 => ha
      have hbit : n.testBit i = false := by
        rw [and_flag] at ha
        cases hc : n.testBit i with
        | true => rw [hc] at ha; exact absurd ha (by rw [if_pos rfl]; have := Nat.two_pow_pos i; omega)
        | false => rfl
      rename Fr _ _ _ _ => F2
      rename News _ _ _ _ => N2
      refine inv_end1 F2 N2 ⟨⟨_, _, rfl, ?_⟩, ?_, Acc2.ints (by rw [← no_flag n i hbit]; rfl) fun z h1 h2 h3 => by simp only [if_neg h1, if_neg h2, if_neg h3]⟩
      · rw [flagsUpTo_succ, hbit]
        simpa using hvs
      · rcases hnz with h | h
        · left
          rw [bit_div, decide_eq_false_iff_not] at hbit
          rw [div_succ]
          omega
        · exact .inr h
  · rintro h' tk' m' news' F N ⟨⟨vs, k, rfl, hvs⟩, hnz, t', u1, u2, rfl⟩
    subst hm₀
    clear F1 N1 F0 hfl
    have h32 : n / 2 ^ 32 = 0 := Nat.div_eq_of_lt hn
    have hn0 : n = 0 := by rcases hnz with h | h; exact absurd h32 h; exact h
    subst hn0
    k_steps
    have e : flagsUpTo 0 32 ++ [baseText "0x" 16 ((0 / 2 ^ 32 * 2 ^ 32 : Nat) : Int)] = [Str.ofString "0x0"] := by decide +kernel
    refine join_news (by k_asm) (.head _) (ys := [Str.ofString "0x0"]) (by rw [← e]; exact strsAre_push hvs) (by decide) (by decide +kernel) fun tk tk' => ?_
    exact hQ _ _ _ (Fr.keep (by k_asm)) ⟨_, rfl⟩
  run_tac Mine.shrink
end
local macro_rules | `(tactic| walk_at "my pad") => `(tactic| fail)
theorem pretty_spec' (w : World) (prog : Program) (hp : prog = PySem.Challenge.rw_rt0040_02.prog) (z : Int) (n : Nat) (t : Tok) (hz : z = n) (hn : n < 2 ^ 32) : Spec (hd02.heap_39 w.params) prog w 29 6 [.int z t] (fun _ => True) (fun _ _ r => ∃ t', r = .str (Str.join (Str.ofString ", ") (flagNames n)) t') := by
  subst hz; exact pretty_spec w prog hp n t hn
local macro_rules | `(tactic| walk_at "call ref") => `(tactic| (k_here; k_dflt (refine' Spec.use (pretty_spec' _ _ ?hp _ _ _ ?j1 ?j2) ?k1 ?k2 ?k3 ?k5 ?kK ?kd ?ku trivial ?_; walk_at "my use"; (case j1 => assumption); (case j2 => assumption); k_whole); intro r' h' tk' g' F' o'; (have N' := news_grow' g' (by assumption)); clear g'; k_sweep; (try dsimp only at o'); (obtain ⟨t', o'⟩ := o'); subst o'; (try dsimp only); (try k_fold)))
local macro_rules | `(tactic| walk_at "call builtin:str.split") => `(tactic| (k_here; k_dflt (refine' split_news ?k1 ?k2 ?ky ?kz ?ke ?_; (case k1 => k_asm); (case k2 => k_asm); (case ky => decide +kernel); (case ke => assumption); (case kz => assumption); k_whole); intro D' vs' h' k' e' F' N' l1; (try k_lt l1); (try k_sweep)))
theorem path_spec (w : World) (prog : Program) (hp : prog = PySem.Challenge.rw_rt0040_02.prog) (f k : Nat) (t u : Tok) (hf : f < 256) (hk : k ≤ 25) (hfk : f * 2 ^ k < 2 ^ 32) : Spec (hd02.heap_39 w.params) prog w 154 20 [.int f t, .int k u] (fun _ => True) (fun _ _ r => ∃ t', r = .str (pathOf (flagNames (f * 2 ^ k))) t') := by
  run_tac Mine.mark
  revert hp; k_fill; intro hp
  intro p loose mean mg mb dp un gd cn cs a ccd cl outer A₀ base h₀ L m s Q E B F X T hkk hd hu hpre hQ
  have hz : (f : Int) * 2 ^ ((k : Int)).toNat = ((f * 2 ^ k : Nat) : Int) := by rw [Int.toNat_natCast]; push_cast; rfl
  have hg := flagNames_good (f * 2 ^ k)
  have hne := flagNames_ne (f * 2 ^ k) hfk
  have hl := flagNames_len (f * 2 ^ k)
  have hsp := split_names hne hg
  have hz2 : (Str.join (Str.ofString ", ") (flagNames (f * 2 ^ k))).length ≤ 1000000 := Nat.le_trans (good_join_len hg (by omega) (by decide)) (by decide)
  have hr1 := fold_ok hg hl
  have hr2 := good_red hg
  refine wpAny_call ?_
  k_dflt walk_at "my enter"
  k_steps
  exact hQ _ _ _ (Fr.keep (by k_asm)) ⟨_, by rw [fold_path hne hg]⟩
  run_tac Mine.shrink
local macro_rules | `(tactic| walk_at "call ref") => `(tactic| (k_here; k_dflt (refine' Spec.use (path_spec _ _ ?hp _ _ _ _ ?j1 ?j2 ?j3) ?k1 ?k2 ?k3 ?k5 ?kK ?kd ?ku trivial ?_; walk_at "my use"; (case j1 => assumption); (case j2 => assumption); (case j3 => assumption); k_whole); intro r' h' tk' g' F' o'; (have N' := news_grow' g' (by assumption)); clear g'; k_sweep; (try dsimp only at o'); (obtain ⟨t', o'⟩ := o'); subst o'; (try dsimp only); (try k_fold)))
local macro_rules | `(tactic| walk_at "my enterC") => `(tactic|
  (refine' code_defCS ?k1 ?k2 ?k3 ?k5 ?kA ?kF ?kK ?k6 ?k7 ?k8 ?k9 ?kB ?kD ?_ ?c2 ?c3 ?c4; (case kA => exact rfl); (case kF => exact rfl); (case kK => assumption); (case k1 => k_asm); (case k2 => k_asm); (case k3 => k_asm); (case k5 => k_asm); (case k6 => k_is); (case k7 => k_is); (case k8 => ktr_room); (case k9 => first | exact BindsTo.of_eq rfl | exact binds_K (by first | k_in | exact Frag.In.keeps (by assumption) (Fr.keep (by assumption))) rfl (by k_is) rfl rfl rfl); (case kB => exact rfl); (case kD => decide +kernel); (case c2 => exact rfl); (case c3 => exact rfl); (case c4 => exact rfl); k_whole; intro L' h' tk' cells' F' N' Y' B' X' T'; k_cells Y'; (try simp only [List.cons_append, List.nil_append] at N'); (try dsimp only); (try k_fold)))
local macro_rules | `(tactic| walk_at "my mem") => `(tactic| first | assumption | exact List.Mem.head _ | (refine List.Mem.tail _ ?_; walk_at "my mem") | (refine List.mem_append_right _ ?_; walk_at "my mem") | (refine List.mem_append_left _ ?_; walk_at "my mem"))
local macro_rules | `(tactic| walk_at "eval Name") => `(tactic| (k_here; (with_reducible show wpAny _ _ (eval (Expr.Name _ _) (compEnvC _ _ _ _)) _ _ _); k_dflt (first
  | (refine' lcf_cell ?N ?c ?m ?d ?_ ?a ?b; (case a => rfl); (case b => rfl); (case N => k_asm); (case c => rfl); (case m => walk_at "my mem"); (case d => k_asm); k_whole)
  | (refine' lcf_free ?N ?c ?m ?d ?_ ?a ?b; (case a => rfl); (case b => rfl); (case N => k_asm); (case c => rfl); (case m => walk_at "my mem"); (case d => k_asm); k_whole))))
local macro_rules | `(tactic| walk_at "subscriptTail") => `(tactic| (k_here; (with_reducible show wpAny _ _ (subscriptTail _ (Expr.Slice (some _) none none _) (Value.str (pathOf _) _) (Value.ref _)) _ _ _); k_dflt (refine' slice_path (s := ⟨_, _, _, _, _⟩) ?g ?F ?N ?_; (case g => assumption); (case F => k_asm); (case N => k_asm); k_whole); intro h' t' k' F' N'; (try k_sweep)))
section
local macro_rules | `(tactic| walk_at "eval ListComp") => `(tactic| (k_here; k_dflt (refine' ListComp_J ?F ?c ?x ?k ?n ?_ ?s; (case F => k_asm); (case x => first | exact .inl ⟨by decide, rfl⟩ | exact .inr ⟨_, _, rfl, by decide⟩); (case c => first | exact rfl | with_unfolding_all rfl);  (case k => rfl); (case n => decide); (case s => exact fun _ => rfl); k_whole)))
local macro_rules | `(tactic| walk_at "call builtin:len") => `(tactic| (k_here; k_dflt (refine' len_news ?N ?m ?i ?l ?_; (case N => k_asm); (case i => assumption); (case m => exact ⟨_, by walk_at "my mem"⟩); (case l => assumption); k_whole); intro t' tk'))
local macro_rules | `(tactic| walk_at "exec Assign cons ListComp") => `(tactic| (k_here; k_dflt (refine' Assign_ListComp_J ?F ?e ?w ?c ?x ?k ?n ?y ?p ?_ ?s; (case F => k_asm); (case e => rfl); (case w => with_unfolding_all rfl); (case c => first | exact rfl | with_unfolding_all rfl); (case x => first | exact .inl ⟨by decide, rfl⟩ | exact .inr ⟨_, _, rfl, by decide⟩); (case k => rfl); (case n => decide); (case y => rfl); (case p => rfl); (case s => exact fun _ => rfl); k_whole)))
local macro_rules | `(tactic| walk_at "subscriptTail") => `(tactic| (k_here; (with_reducible show wpAny _ _ (subscriptTail _ (Expr.Slice none (some _) none _) (Value.ref _) (Value.ref _)) _ _ _); k_dflt (refine' slice_strs (s := ⟨_, _, _, _, _⟩) ?F ?N ?m ?i ?j ?l ?_; (case F => k_asm); (case N => k_asm); (case m => exact ⟨_, by walk_at "my mem"⟩); (case i => assumption); (case l => assumption); (case j => omega); k_whole); intro D' vs' h' hs' F' N' l1; (try k_lt l1); (try k_sweep)))
local macro_rules | `(tactic| walk_at "subscriptTail") => `(tactic| (k_here; (with_reducible show wpAny _ _ (subscriptTail _ _ (Value.ref _) (Value.int 0 _)) _ _ _); k_dflt (refine' item_lst ?N ?m ?a ?b ?v ?_; (case N => k_asm); (case m => walk_at "my mem"); (case a => decide); (case b => decide); (case v => exact rfl); k_whole)))
local macro_rules | `(tactic| walk_at "subscriptTail") => `(tactic| (k_here; (with_reducible show wpAny _ _ (subscriptTail _ _ (Value.ref _) (Value.int (0 + _) _)) _ _ _); k_dflt (refine' item_strs ?N ?m ?i ?a ?lt ?l ?_; (case N => k_asm); (case m => exact ⟨_, by walk_at "my mem"⟩); (case i => assumption); (case a => omega); (case lt => omega); (case l => assumption); k_whole); intro t'))
local macro_rules | `(tactic| walk_at "compareOp NotEq ref ref") => `(tactic| (k_here; k_dflt (refine' ne_strs ?N ?m1 ?m2 ?i1 ?i2 ?u ?_; (case N => k_asm); (case m1 => exact ⟨_, by walk_at "my mem"⟩); (case m2 => exact ⟨_, by walk_at "my mem"⟩); (case i1 => assumption); (case i2 => assumption); (case u => ktr_units); k_whole)))
local macro_rules | `(tactic| walk_at "compareOp Eq ref ref") => `(tactic| (k_here; k_dflt (refine' eq_empty ?N ?m1 ?m2 ?u ?_; (case N => k_asm); (case m1 => exact ⟨_, by walk_at "my mem"⟩); (case m2 => exact ⟨_, by walk_at "my mem"⟩); (case u => ktr_units); k_whole)))
local macro_rules | `(tactic| walk_at "call builtin:str.join") => `(tactic| (k_here; k_dflt (refine' join_news ?N ?m ?i ?s ?w ?_; (case N => k_asm); (case i => assumption); (case m => walk_at "my mem"); (case s => assumption); (case w => assumption); k_whole); intro t' tk'))
theorem shared_spec (w : World) (prog : Program) (hp : prog = PySem.Challenge.rw_rt0040_02.prog) (l : Addr) (vs : List Value) (rows : List (List Str)) (hi : StrsAre vs (rows.map pathOf)) (hg : ∀ r ∈ rows, GoodRow r) (h0 : rows ≠ []) (hl : rows.length ≤ 16) : Spec (hd02.heap_39 w.params) prog w 176 10 [.ref l] (fun h => h.IsList l vs.toArray) (fun _ _ r => ∃ t', r = .str (pathOf (frontOf rows)) t') := by
  run_tac Mine.mark
  revert hp; k_fill; intro hp
  intro p loose mean mg mb dp un gd cn cs a ccd cl outer A₀ base h₀ L m s Q E B F X T hkk hd hu hpre hQ
  refine wpAny_call ?_
  k_dflt walk_at "my enterC"
  k_steps
  rename Fr _ _ _ _ => F0
  rename News _ _ _ _ => N0
  obtain ⟨c, hc, N1⟩ := news_named N0
  refine SrcJ.list rfl F0 N1 (.inl hpre) ?_ (fun i ys => Made _ fun made => RowsIn made ys (rows.take i)) (.start .nil) ?_ ?_
  · rw [List.size_toArray, hi.length, List.length_map]; exact Nat.le_trans hl (by decide)
  · refine turn_nil ?_
    rintro i ys nws v I oI C cl' led D h tk E' hin hv ⟨made, rfl, hrows, hmc⟩ - hT F N hoff hID
    rcases hT with ⟨oC, m₂, -, rfl, rfl, hns, hx⟩ | ⟨_, _, _, _, _, hl, _⟩
    · obtain ⟨xp, tv, rfl, hxp⟩ := hi.item i v (by simpa using hv)
      replace hx := hx _ rfl
      obtain ⟨ws, hws, rfl⟩ : ∃ ws, rows[i]? = some ws ∧ pathOf ws = xp := by simpa using hxp
      have hgr := hg ws (List.mem_of_getElem? hws)
      have hsp := split_good hgr
      have hjl := join_len hgr
      simp only [List.cons_append, List.nil_append] at N
      k_steps
      rename StrsAre _ ws => hws'
      rename Fr _ _ _ _ => F2
      rename News _ _ _ _ => N2
      rename _ ∧ _ => l1
      have e : rows.take (i + 1) = rows.take i ++ [ws] := by rw [List.take_add_one, hws]; rfl
      refine endJ_made (pre := [(_, _)]) F2 N2 (.cons l1 .nil) hmc hoff (.inl hpre) ?_
      rw [e]
      exact (hrows.mono fun _ h => .tail _ h).snoc (.head _) hws'
    · cases hl
  · intro D h tk ys nws F N hoff hJ
    obtain ⟨made, rfl, hrows, hmc⟩ := hJ
    rw [show vs.toArray.size = rows.length by rw [List.size_toArray, hi.length, List.length_map], List.take_length] at hrows
    clear F0 N0 N1
    replace hmc : OwnOff made [c] := fun p hp b hb => by rw [List.mem_singleton.mp hb]; exact hmc p hp (c, _) (.head _)
    have hcD : c ≠ D := hoff (c, _) (List.mem_append_right _ (.head _))
    replace N : News _ _ _ ((c, _) :: (D, _) :: made) := fun p hp => N p (by
      rcases List.mem_cons.mp hp with rfl | hp
      · exact .tail _ (List.mem_append_right _ (.head _))
      · rcases List.mem_cons.mp hp with rfl | hp
        · exact .head _
        · exact .tail _ (List.mem_append_left _ hp))
    have hDc : D ≠ c := Ne.symm hcD
    cases rows with
    | nil => exact absurd rfl h0
    | cons r0 rs =>
    obtain ⟨T0, its0, n0, hy0, hm0, hi0⟩ := hrows.get 0 r0 rfl
    obtain ⟨ys', rfl⟩ : ∃ ys', ys = .ref T0 :: ys' := by
      cases ys with
      | nil => cases hy0
      | cons y r => simp at hy0; subst hy0; exact ⟨r, rfl⟩
    subst hc
    have hl0 : r0.length ≤ 1000000 := Nat.le_trans (hg r0 (.head _)).few (by decide)
    k_steps
    rename IsRange _ _ _ _ _ _ _ _ => hr
    rename Fr _ _ _ _ => F1
    rename News _ _ _ _ => N1
    refine SrcJ.range rfl F1 N1 hr (range_facts _ hl0).1 (range_facts _ hl0).2 (Nat.le_trans hl0 (by decide))
      (fun i zs => Made _ fun _ => StrsAre zs (((List.range i).filter (agreeTo (r0 :: rs) r0)).map (r0.getD · Str.empty))) (.start .nil) ?_ ?_
    · refine turn_one ?_
      rintro i zs nws v I oI C cl' led D2 h2 tk2 E2 hin ⟨tv, rfl⟩ ⟨made2, rfl, hzs, hmc2⟩ - hT F2 N2 hoff2 hID2
      rcases hT with ⟨_, _, hl, _⟩ | ⟨k, oC, m₂, ok, u, -, rfl, rfl, hCk, hns, hok, hu⟩
      · exact absurd hl (by decide)
      · replace hu := hu _ rfl
        subst hu
        simp only [List.cons_append, List.nil_append] at N2
        k_steps
        rename Fr _ _ _ _ => F3
        rename News _ _ _ _ => N3
        refine SrcJ.list rfl F3 N3 (.inr ⟨_, by walk_at "my mem", rfl, _, rfl⟩) ?_ (fun i3 zs => Made _ fun _ => (zs = [] ↔ agreeTo ((r0 :: rs).take i3) r0 i = true)) (.start (by simp [agreeTo])) ?_ ?_
        · rw [List.size_toArray, hrows.length]; exact Nat.le_trans hl (by decide)
        · refine turn_one ?_
          rintro i3 zs3 nws v3 I3 oI3 C3 cl3 led3 D3 h3 tk3 E3 hin3 hv3 ⟨made3, rfl, hiff3, hmc3⟩ hS3 hT3 F4 N4 hoff3 hID3
          rcases hT3 with ⟨oC3, m3, -, rfl, rfl, hns3, hx3⟩ | ⟨_, _, _, _, _, hl, _⟩
          · replace hx3 := hx3 _ rfl
            have hi3 : i3 < (r0 :: rs).length := by rw [← hrows.length]; simpa using hin3
            obtain ⟨T3, its3, n3, hy3, hm3, hit3⟩ := hrows.get i3 _ (List.getElem?_eq_getElem hi3)
            obtain rfl : v3 = .ref T3 := by
              have : (Value.ref T0 :: ys')[i3]? = some v3 := by simpa using hv3
              rw [hy3] at this; exact (Option.some.inj this).symm
            simp only [List.cons_append, List.nil_append] at N4
            have hgl3 : (r0 :: rs)[i3].length ≤ 1000000 := Nat.le_trans (hg _ (List.getElem_mem hi3)).few (by decide)
            k_steps
            all_goals
              rename Fr _ _ _ _ => F5
              rename News _ _ _ _ => N5
              rename _ ∧ _ ∧ _ ∧ _ ∧ _ => l2
              have l2' := fun o => OffL.one (o := o) (b := [(I3, oI3), (C3, oC3), (D3, PyProof.Rows.LCg.lst zs3)] ++ (made3 ++ _)) l2.2
              clear l2
              rename _ ∧ _ ∧ _ ∧ _ => l1
              rename (_ == _) = _ => hc3
              simp only [nat_k1] at hc3
              refine endJ_made (pre := [(_, _), (_, _)]) F5 N5 (.app (l2' _) (.one l1)) hmc3 hoff3 (.inr ⟨_, by walk_at "my mem", rfl, _, rfl⟩) ?_
              rw [agreeTo_succ hi3, hc3]
            · rw [Bool.and_true]; exact hiff3
            · simp
          · exact absurd hl (by decide)
        · rintro D3 h3 tk3 zs3 nws F4 N4 hoff3 ⟨made3, rfl, hiff3, hmc3⟩
          rw [show (Value.ref T0 :: ys').toArray.size = (r0 :: rs).length by rw [List.size_toArray, hrows.length], List.take_length] at hiff3
          k_steps
          all_goals
            rename Fr _ _ _ _ => F5
            rename News _ _ _ _ => N5
            rename _ ∧ _ => l1
            rename Array.isEmpty _ = _ => hz3
          · k_steps
            have e : agreeTo (r0 :: rs) r0 i = true := hiff3.mp (by simpa using hz3)
            refine endJ_made (pre := (_, _) :: (_, _) :: made3) (own := [(I, oI), (C, oC), (k, ok), (D2, PyProof.Rows.LCg.lst zs)]) F5 N5 (.app (a := [(_, _)]) (.back l1.2) (.cons' (fun q hq => hoff3 q (List.mem_append_right _ hq)) hmc3)) hmc2 hoff2 trivial ?_
            rw [front_succ, e, nat_k0]
            exact StrsAre.append' hzs (.cons _ _ .nil)
          · have e : agreeTo (r0 :: rs) r0 i = false := by
              cases h : agreeTo (r0 :: rs) r0 i with
              | false => rfl
              | true => rw [hiff3.mpr h] at hz3; cases hz3
            refine endJ_made (pre := (_, _) :: (_, _) :: made3) (own := [(I, oI), (C, oC), (k, ok), (D2, PyProof.Rows.LCg.lst zs)]) F5 N5 (.app (a := [(_, _)]) (.back l1.2) (.cons' (fun q hq => hoff3 q (List.mem_append_right _ hq)) hmc3)) hmc2 hoff2 trivial ?_
            rw [front_succ, e]
            simpa using hzs
    · rintro D2 h2 tk2 zs nws F2 N2 hoff2 ⟨made2, rfl, hzs, hmc2⟩
      have hz0 : StrsAre zs.toArray.toList (frontOf (r0 :: rs)) := hzs
      have hw0 := front_weight hg
      have hj0 := front_join_len hg
      have hs0 : (Str.ofString "/").length ≤ 16 := by decide
      k_steps
      exact hQ _ _ _ (Fr.keep (by k_asm)) ⟨_, rfl⟩
  run_tac Mine.shrink
end
local macro_rules | `(tactic| walk_at "call ref") => `(tactic| (k_here; k_dflt (refine' Spec.use (shared_spec _ _ ?hp _ _ _ ?j1 ?j2 ?j3 ?j4) ?k1 ?k2 ?k3 ?k5 ?kK ?kd ?ku ?kp ?_; walk_at "my use"; (case kp => first | exact News.isList (by k_asm) (by walk_at "my mem") | assumption); (case j1 => assumption); (case j2 => assumption); (case j3 => assumption); (case j4 => assumption); k_whole); intro r' h' tk' g' F' o'; (have N' := news_grow' g' (by assumption)); clear g'; k_sweep; (try dsimp only at o'); (obtain ⟨t', o'⟩ := o'); subst o'; (try dsimp only); (try k_fold)))
local macro_rules | `(tactic| walk_at "eval Name") => `(tactic| (k_here; (with_reducible show wpAny _ _ (eval (Expr.Name _ _) (envOfC _ _ _ _ _)) _ _ _); k_dflt (refine' nameX_C ?N ?c ?m ?d ?_ ?a ?b; (case a => rfl); (case b => rfl); (case N => k_asm); (case c => rfl); (case m => walk_at "my mem"); (case d => k_asm); k_whole)))
local macro_rules | `(tactic| walk_at "callWith ref") => `(tactic| (k_here; k_dflt (first | (refine' callWith_K ?k1 ?k2 ?_; (case k1 => k_asm); (case k2 => k_is); k_whole) | (refine' callWith_K0 ?k1 ?k2 ?_; (case k1 => k_in); (case k2 => k_is); k_whole))))
section
local macro_rules | `(tactic| walk_at "call type:map") => `(tactic| (k_here; k_dflt (refine' call_map ?F ?N ?l ?_; (case F => k_asm); (case N => k_asm); (case l => first | assumption | exact Fr.lst (by k_asm) (by assumption)); k_whole); intro I' h' e' F' N' l1 g'; k_sweep))
local macro_rules | `(tactic| walk_at "call type:tuple") => `(tactic| (k_here; k_dflt (refine' tuple_mapped ?hh ?F ?N ?hn ?hi ?hl ?hsz ?hc ?_; (case hh => exact rfl); (case F => k_asm); (case N => k_asm); (case hi => assumption); (case hl => assumption); (case hsz => assumption); (case hn => assumption); (case hc => (intro s' x' t' Q' E' F' hQ'; refine' Spec.use (fspath_spec _ _ ?hp _ _) ?k1 ?k2 ?k3 ?k5 ?kK ?kd ?ku trivial ?_; (case hp => first | assumption | exact rfl); (case k1 => k_asm); (case k2 => exact F'); (case k3 => k_asm); (case k5 => k_asm); (case kK => first | exact rfl | assumption); (case kd => ktr_room); (case ku => ktr_units); intro r' h' tk' g' F'' o'; subst o'; exact hQ' h' tk' g')); k_whole); intro D' h' tk' F' N' l1; (try k_lt l1); (try k_sweep)))
local macro_rules | `(tactic| walk_at "truthy ref") => `(tactic| (k_here; k_dflt (refine' truthy_tup ?N ?m ?z ?_; (case N => k_asm); (case m => walk_at "my mem"); (case z => assumption); k_whole); intro tk'))
local macro_rules | `(tactic| walk_at "subscriptTail") => `(tactic| (k_here; (with_reducible show wpAny _ _ (subscriptTail _ _ (Value.ref _) (Value.int 0 _)) _ _ _); k_dflt (refine' item0_tup ?N ?m ?_; (case N => k_asm); (case m => walk_at "my mem"); k_whole)))
local macro_rules | `(tactic| walk_at "eval ListComp") => `(tactic| (k_here; k_dflt (refine' ListComp_J ?F ?c ?x ?k ?n ?_ ?s; (case F => k_asm); (case x => first | exact .inl ⟨by decide, rfl⟩ | exact .inr ⟨_, _, rfl, by decide⟩); (case c => first | exact rfl | with_unfolding_all rfl); (case k => rfl); (case n => decide); (case s => exact fun _ => rfl); k_whole)))
local macro_rules | `(tactic| walk_at "exec Assign cons ListComp") => `(tactic| (k_here; k_dflt (refine' Assign_ListComp_J ?F ?e ?w ?c ?x ?k ?n ?y ?p ?_ ?s; (case F => k_asm); (case e => rfl); (case w => with_unfolding_all rfl); (case x => first | exact .inl ⟨by decide, rfl⟩ | exact .inr ⟨_, _, rfl, by decide⟩); (case c => first | exact rfl | with_unfolding_all rfl); (case k => rfl); (case n => decide); (case y => rfl); (case p => rfl); (case s => exact fun _ => rfl); k_whole)))
local macro_rules | `(tactic| walk_at "exec Try") => `(tactic| (k_here; (with_reducible show wpAny _ _ (exec (Stmt.Try _ (_ :: _) _ [] _) _) _ _ _); refine wpAny_Try_except ?_))
local macro_rules | `(tactic| walk_at "eval SetComp") => `(tactic| (k_here; k_dflt (refine' SetComp_true ?F ?c ?e ?x ?k ?n ?_ ?s; (case F => k_asm); (case e => decide); (case x => rfl); (case c => first | exact rfl | with_unfolding_all rfl); (case k => rfl); (case n => decide); (case s => exact fun _ => rfl); k_whole)))
local macro_rules | `(tactic| walk_at "assign Tuple") => `(tactic| (k_here; k_dflt (refine' assign_set ?hh ?F ?N ?m ?_; (case hh => exact rfl); (case F => k_asm); (case N => k_asm); (case m => walk_at "my mem"); k_whole); intro h' F' N'; (try k_sweep)))
local macro_rules | `(tactic| walk_at "exec For Tuple Call") => `(tactic| (k_here; (with_reducible rename Fr _ _ _ _ => lF'); (with_unfolding_all refine' forEnumS lF' ?k1 ?k2 ?k3 ?_; (case k1 => exact rfl); (case k2 => exact rfl); (case k3 => exact rfl)); k_whole))
local macro_rules | `(tactic| walk_at "call type:enumerate") => `(tactic| (k_here; k_dflt (refine' call_enum ?F ?N ?m ?_; (case F => k_asm); (case N => k_asm); (case m => walk_at "my mem"); k_whole); intro I' h' e' i' F' N' l1 l2; k_sweep))
local macro_rules | `(tactic| walk_at "call builtin:str.join") => `(tactic| (k_here; k_dflt (refine' join_news ?N ?m ?i ?s ?w ?_; (case N => k_asm); (case m => walk_at "my mem"); (case i => assumption); (case s => assumption); (case w => assumption); k_whole); intro t' tk'))
local macro_rules | `(tactic| walk_at "subscriptTail Name Slice ref ref") => `(tactic| (k_here; (with_reducible show wpAny _ _ (subscriptTail _ (Expr.Slice none (some _) none _) (Value.ref _) (Value.ref _)) _ _ _); k_dflt (refine' slice_strs (s := ⟨_, _, _, _, _⟩) ?F ?N ?m ?i ?j ?l ?_; (case F => k_asm); (case N => k_asm); (case m => exact ⟨_, by walk_at "my mem"⟩); (case i => assumption); (case l => assumption); (case j => omega); k_whole); intro D' vs' h' hs' F' N' l1; (try k_lt l1); (try k_sweep)))
set_option maxHeartbeats 40000000 in
theorem commonpath_spec (w : World) (prog : Program) (hp : prog = PySem.Challenge.rw_rt0040_02.prog) (l : Addr) (vs : List Value) (rows : List (List Str)) (hi : StrsAre vs (rows.map pathOf)) (hg : ∀ r ∈ rows, GoodRow r) (h0 : rows ≠ []) (hl : rows.length ≤ 16) : Spec (hd02.heap_39 w.params) prog w 137 12 [.ref l] (fun h => h.IsList l vs.toArray) (fun _ _ r => ∃ t', r = .str (pathOf (frontOf rows)) t') := by
  run_tac Mine.mark
  revert hp; k_fill; intro hp
  intro p loose mean mg mb dp un gd cn cs a ccd cl outer A₀ base h₀ L m s Q E B F X T hkk hd hu hpre hQ
  have hvs : vs.length ≤ sizeLine := by rw [hi.length, List.length_map]; exact Nat.le_trans hl (by decide)
  obtain ⟨r0, rs, rfl⟩ : ∃ r0 rs, rows = r0 :: rs := by
    cases rows with
    | nil => exact absurd rfl h0
    | cons a b => exact ⟨a, b, rfl⟩
  obtain ⟨t0, vs', rfl, hi'⟩ := StrsAre.cons_inv hi
  refine wpAny_call ?_
  k_dflt first | walk_at "my enter" | walk_at "my enterC"
  k_steps
  rename Fr _ _ _ _ => F0
  rename News _ _ _ _ => N0
  refine SrcJ.tuple rfl F0 N0 (.head _) hvs (fun i ys => Made _ fun made => RowsIn made ys (((r0 :: rs).map (Str.empty :: ·)).take i)) (.start .nil) ?_ ?_
  · refine turn_nil ?_
    rintro i ys nws v I oI C cl' led D h tk E' hin hv ⟨made, rfl, hrows, hmc⟩ hS hT F N hoff hID
    rcases hT with ⟨oC, m₂, -, rfl, rfl, hns, hx⟩ | ⟨_, _, _, _, _, hl, _⟩
    · obtain ⟨xp, tv, rfl, hxp⟩ := hi.item i v hv
      replace hx := hx _ rfl
      obtain ⟨ws, hws, rfl⟩ := Option.map_eq_some_iff.mp (List.getElem?_map.symm.trans hxp)
      have hgr := hg ws (List.mem_of_getElem? hws)
      have hsp := split_whole hgr
      have hjl : (pathOf ws).length ≤ 1000000 := Nat.le_trans (pathOf_len hgr) (by decide)
      simp only [List.cons_append, List.nil_append] at N
      clear F0 N0
      k_steps
      rename StrsAre _ (Str.empty :: ws) => hws'
      rename Fr _ _ _ _ => F2
      rename News _ _ _ _ => N2
      rename _ ∧ _ => l1
      refine endJ_made (pre := [(_, _)]) F2 N2 (.cons l1 .nil) hmc hoff (.tail _ hS) ?_
      have e : ((r0 :: rs).map (Str.empty :: ·)).take (i + 1) = ((r0 :: rs).map (Str.empty :: ·)).take i ++ [Str.empty :: ws] := by rw [List.take_add_one, List.getElem?_map, hws]; rfl
      rw [e]
      exact (hrows.mono fun _ h => .tail _ h).snoc (.head _) hws'
    · cases hl
  · rintro D h tk ys nws F N hoff ⟨made, rfl, hrows, hmc⟩
    rw [hi.length, List.length_map, List.take_of_length_le (by rw [List.length_map]; exact Nat.le_refl _)] at hrows
    clear F0 N0
    dsimp only
    k_steps
    refine ⟨_, Value.str (pathOf r0) t0 :: vs', _, rfl, rfl, F, N, by walk_at "my mem", Nat.succ_pos _, hvs, ?_, ?_⟩
    · rintro i v I oI C oC m₂ D2 oD h2 tk2 E2 hv hns hx F2 N2
      obtain ⟨xp, tv, rfl, hxp⟩ := hi.item i v hv
      obtain ⟨ws, hws, rfl⟩ := Option.map_eq_some_iff.mp (List.getElem?_map.symm.trans hxp)
      clear F N
      k_steps
      rw [starts_path]
    · rintro D2 h2 tk2 F2 N2 l2
      clear F N
      k_steps
      rename Fr _ _ _ _ => F3
      rename News _ _ _ _ => N3
      refine SrcJ.list rfl F3 N3 (.inr ⟨_, by walk_at "my mem", rfl, _, rfl⟩) ?_ (fun i zs => Made _ fun made => RowsIn made zs ((r0 :: rs).take i)) (.start .nil) ?_ ?_
      · rw [List.size_toArray, hrows.length, List.length_map]; exact Nat.le_trans hl (by decide)
      · refine turn_nil ?_
        rintro i zs nws v I oI C cl' led D3 h3 tk3 E3 hin hv ⟨made3, rfl, hrows3, hmc3⟩ hS hT F4 N4 hoff3 hID
        rcases hT with ⟨oC, m₂, -, rfl, rfl, hns, hx⟩ | ⟨_, _, _, _, _, hl, _⟩
        · replace hx := hx _ rfl
          have hi3 : i < ((r0 :: rs).map (Str.empty :: ·)).length := by rw [← hrows.length]; simpa using hin
          obtain ⟨T3, its3, n3, hy3, hm3, hit3⟩ := hrows.get i _ (List.getElem?_eq_getElem hi3)
          obtain rfl : v = .ref T3 := by
            have : ys[i]? = some v := by simpa using hv
            rw [hy3] at this; exact (Option.some.inj this).symm
          have hi3' : i < (r0 :: rs).length := by simpa using hi3
          obtain ⟨ws, hws⟩ : ∃ ws, (r0 :: rs)[i]? = some ws := ⟨_, List.getElem?_eq_getElem hi3'⟩
          have hit3 : StrsAre its3.toList (Str.empty :: ws) := by
            have e : ((r0 :: rs).map (Str.empty :: ·))[i] = Str.empty :: ws := by
              rw [List.getElem_map]
              have := List.getElem?_eq_getElem hi3'
              rw [hws] at this
              rw [Option.some.inj this]
            rw [← e]; exact hit3
          have hgr := hg ws (List.mem_of_getElem? hws)
          simp only [List.cons_append, List.nil_append] at N4
          clear F3 N3
          k_steps
          rename Fr _ _ _ _ => F5
          rename News _ _ _ _ => N5
          refine SrcJ.list rfl F5 N5 (.inr ⟨_, by walk_at "my mem", rfl, _, rfl⟩) ?_ (fun j zs => Made _ fun _ => StrsAre zs (ws.take (j - 1))) (.start .nil) ?_ ?_
          · rw [strs_size hit3, List.length_cons]; exact Nat.le_trans (Nat.succ_le_succ hgr.few) (by decide)
          · refine turn_one ?_
            rintro j zs4 nws v4 I4 oI4 C4 cl4 led4 D4 h4 tk4 E4 hin4 hv4 ⟨made4, rfl, hzs4, hmc4⟩ hS4 hT4 F6 N6 hoff4 hID4
            rcases hT4 with ⟨oC4, m4, -, rfl, rfl, hns4, hx4⟩ | ⟨_, _, _, _, _, hl, _⟩
            · obtain ⟨y, ty, rfl, hy⟩ := hit3.item j v4 (by simpa using hv4)
              replace hx4 := hx4 _ rfl
              simp only [List.cons_append, List.nil_append] at N6
              clear F5 N5
              cases j with
              | zero =>
                obtain rfl : Str.empty = y := by simpa using hy
                k_steps
                exact endJ_made (pre := []) (own := [(I4, oI4), (C4, oC4), (D4, PyProof.Rows.LCg.lst zs4)]) F6 N6 .nil hmc4 hoff4 hS4 hzs4
              | succ j =>
                have hy : ws[j]? = some y := by simpa using hy
                have hgy := hgr.good y (List.mem_of_getElem? hy)
                have hy0 : 0 < y.length := hgy.pos
                have hy1 : y.length ≤ 1000000 := Nat.le_trans hgy.len (by decide)
                k_steps
                · refine endJ_made (pre := []) (own := [(I4, oI4), (C4, oC4), (D4, PyProof.Rows.LCg.lst zs4)]) F6 N6 .nil hmc4 hoff4 hS4 ?_
                  have e : ws.take (j + 1 + 1 - 1) = ws.take j ++ [y] := by rw [Nat.add_sub_cancel, List.take_add_one, hy]; rfl
                  rw [e]
                  exact StrsAre.append' hzs4 (.cons _ _ .nil)
                · rename (y != _) = false => hyd
                  exact absurd (by simpa using hyd) hgy.dot
            · exact absurd hl (by decide)
          · rintro D4 h4 tk4 zs4 nws F6 N6 hoff4 ⟨made4, rfl, hzs4, hmc4⟩
            have hsz3 := strs_size hit3
            rw [hsz3, List.length_cons, Nat.add_sub_cancel, List.take_length] at hzs4
            refine endJ_made (pre := (_, _) :: made4) (own := [(I, oI), (C, oC), (D3, PyProof.Rows.LCg.lst zs)]) F6 N6 (.cons' (fun q hq => hoff4 q (List.mem_append_right _ hq)) hmc4) hmc3 hoff3 (.inr ⟨_, by walk_at "my mem", rfl, _, rfl⟩) ?_
            have e : (r0 :: rs).take (i + 1) = (r0 :: rs).take i ++ [ws] := by rw [List.take_add_one, hws]; rfl
            rw [e]
            exact (hrows3.mono fun _ h => List.mem_append_right _ h).snoc (n := zs4.length) (its := zs4.toArray) (.head _) hzs4
        · exact absurd hl (by decide)
      · rintro D3 h3 tk3 zs nws F4 N4 hoff3 ⟨made3, rfl, hrows3, hmc3⟩
        rw [show ys.toArray.size = (r0 :: rs).length by rw [List.size_toArray, hrows.length, List.length_map], List.take_length] at hrows3
        clear F3 N3
        dsimp only
        k_steps
        rename Fr _ _ _ _ => F5
        rename News _ _ _ _ => N5
        refine min_rows rfl F5 N5 (.head _) (hrows3.mono fun _ h => .tail _ (List.mem_append_left _ h)) h0 (by ktr_units) ?_
        (try clear F4)
        (try clear N4)
        clear F5 N5
        intro T1 its1 n1 r1 h5 tk5 hr1 hm1 hi1 hb1 F5 N5
        k_steps
        rename Fr _ _ _ _ => F6
        rename News _ _ _ _ => N6
        refine max_rows rfl F6 N6 (.head _) (hrows3.mono fun _ h => .tail _ (List.mem_append_left _ h)) h0 (by ktr_units) ?_
        clear F6 N6
        intro T2 its2 n2 r2 h6 tk6 hr2 hm2 hi2 hb2 F6 N6
        k_steps
        rename IsEnum _ _ _ _ _ => he7
        rename Heap.IsListIter _ _ _ _ => hit7
        rename Fr _ _ _ _ => F7
        rename News _ _ _ _ => N7
        rename ∀ p ∈ (_ : List (Addr × Obj)), p.1 < (_ : Addr) => l7
        rename @LT.lt Nat _ _ _ => l8
        have hz1 := strs_size hi1
        have hg1 : r1.length ≤ 1000000 := Nat.le_trans (hg r1 hr1).few (by decide)
        have hg2 : r2.length ≤ 1000000 := Nat.le_trans (hg r2 hr2).few (by decide)
        have hw0 := front_weight hg
        have hj0 := front_join_len hg
        have hs0 : (Str.ofString "/").length ≤ 16 := by decide
        obtain ⟨m₀, hm₀, F8⟩ := fr_named F7
        refine ⟨_, T1, its1, n1, m₀, _, fun i m' => r1.take i = r2.take i ∧ Acc0 (Str.ofString "c") (Str.ofString "i") m₀ m', rfl, rfl, he7, hit7, hm1, F8, N7, l7, l8, ⟨by simp, Acc0.start⟩, ?_, ?_⟩
        · rintro i v tk8 m8 h8 tk8' hv8 ⟨heq, u1, u2, rfl⟩ F9 N9
          subst hm₀
          clear F7 N7 F8
          obtain ⟨y, ty, rfl, hy⟩ := hi1.item i v (by simpa using hv8)
          have hi8 : i < r1.length := (List.getElem?_eq_some_iff.mp hy).1
          have hi9 : i < r2.length := by
            rcases Nat.lt_or_ge i r2.length with q | q
            · exact q
            · have := prefix_lt i heq q hi8
              rw [hb1 r2 hr2] at this; cases this
          replace F9 := fr_localsC F9
          replace N9 := news_localsC N9
          k_steps
          rename News _ _ _ _ => N10
          refine item_strs N10 ⟨_, hm2⟩ hi2 (Int.natCast_nonneg i) (by omega) hg2 fun t10 => ?_
          have hb11 : (y != r2.getD ((i : Nat) : Int).toNat Str.empty) = true → frontOf (r0 :: rs) = r1.take i := fun hne => by
            refine front_eq hr1 hr2 hb1 hb2 heq (Nat.le_of_lt hi8) (.inr ?_)
            rw [hy, List.getElem?_eq_getElem hi9]
            intro q
            have q := Option.some.inj q
            rw [Int.toNat_natCast, List.getD_eq_getElem?_getD, List.getElem?_eq_getElem hi9, Option.getD_some, q] at hne
            simp at hne
          have hb12 : (y != r2.getD ((i : Nat) : Int).toNat Str.empty) = false → r1.take (i + 1) = r2.take (i + 1) := fun he => by
            rw [List.take_add_one, List.take_add_one, heq, hy, List.getElem?_eq_getElem hi9]
            rw [Int.toNat_natCast, List.getD_eq_getElem?_getD, List.getElem?_eq_getElem hi9, Option.getD_some] at he
            have : y = r2[i] := by simpa using he
            rw [this]
          k_steps
          · rename (y != _) = true => hne
            rename StrsAre _ (r1.take _) => hs9
            rw [Int.toNat_natCast, ← hb11 hne] at hs9
            k_steps
            exact hQ _ _ _ (Fr.keep (by k_asm)) ⟨_, rfl⟩
          · rename (y != _) = false => hne
            rename Fr _ _ _ _ => F12
            exact ⟨_, _, _, rfl, F12, fun _ _ _ e => e, hb12 hne, Acc0.next fun z h1 h2 => by simp only [if_neg h1, if_neg h2]⟩
        · rintro h8 tk8 m8 F9 N9 ⟨heq, u1, u2, rfl⟩
          subst hm₀
          clear F7 N7 F8
          rw [hz1] at heq
          have hfr := front_eq hr1 hr2 hb1 hb2 heq (Nat.le_refl _) (.inl rfl)
          rw [List.take_length] at hfr
          replace F9 := fr_localsC F9
          replace N9 := news_localsC N9
          rw [← hfr] at hi1
          k_steps
          exact hQ _ _ _ (Fr.keep (by k_asm)) ⟨_, rfl⟩
  run_tac Mine.shrink
end
local macro_rules | `(tactic| walk_at "call ref") => `(tactic| (k_here; k_dflt (refine' Spec.use (commonpath_spec _ _ ?hp _ _ _ ?j1 ?j2 ?j3 ?j4) ?k1 ?k2 ?k3 ?k5 ?kK ?kd ?ku ?kp ?_; walk_at "my use"; (case kp => first | exact News.isList (by k_asm) (by walk_at "my mem") | assumption); (case j1 => assumption); (case j2 => assumption); (case j3 => assumption); (case j4 => assumption); k_whole); intro r' h' tk' g' F' o'; (have N' := news_grow' g' (by assumption)); clear g'; k_sweep; (try dsimp only at o'); (obtain ⟨t', o'⟩ := o'); subst o'; (try dsimp only); (try k_fold)))
section
local macro_rules | `(tactic| walk_at "eval ListComp") => `(tactic| (k_here; k_dflt (refine' ListComp_J ?F ?c ?x ?k ?n ?_ ?s; (case F => k_asm); (case x => first | exact .inl ⟨by decide, rfl⟩ | exact .inr ⟨_, _, rfl, by decide⟩); (case c => first | exact rfl | with_unfolding_all rfl); (case k => rfl); (case n => decide); (case s => exact fun _ => rfl); k_whole)))
local macro_rules | `(tactic| walk_at "exec Assign cons ListComp") => `(tactic| (k_here; k_dflt (refine' Assign_ListComp_J ?F ?e ?w ?c ?x ?k ?n ?y ?p ?_ ?s; (case F => k_asm); (case e => rfl); (case w => with_unfolding_all rfl); (case x => first | exact .inl ⟨by decide, rfl⟩ | exact .inr ⟨_, _, rfl, by decide⟩); (case c => first | exact rfl | with_unfolding_all rfl); (case k => rfl); (case n => decide); (case y => rfl); (case p => rfl); (case s => exact fun _ => rfl); k_whole)))
local macro_rules | `(tactic| walk_at "call builtin:len") => `(tactic| (k_here; (with_reducible show wpAny _ _ (call (Value.builtin _) [Value.str _ _]) _ _ _); k_dflt (refine' len_strB ?k ?_; (case k => with_reducible assumption); k_whole); intro t' tk'))
local macro_rules | `(tactic| walk_at "call builtin:str.strip") => `(tactic| (k_here; k_dflt (refine' strip_to ?e ?k ?_; (case e => with_reducible assumption); (case k => with_reducible assumption); k_whole); intro t' tk'))
local macro_rules | `(tactic| walk_at "subscriptTail") => `(tactic| (k_here; (with_reducible show wpAny _ _ (subscriptTail _ (Expr.Slice (some _) none none _) (Value.str (pathOf _) _) (Value.ref _)) _ _ _); k_dflt (refine' slice_fromB (s := ⟨_, _, _, _, _⟩) ?F ?N ?g ?_; (case F => k_asm); (case N => k_asm); (case g => with_reducible assumption); k_whole); intro h' t' k' F' N'; (try k_sweep)))
local macro_rules | `(tactic| walk_at "subscriptTail") => `(tactic| (k_here; (with_reducible show wpAny _ _ (subscriptTail _ _ (Value.ref _) (Value.int 0 _)) _ _ _); k_dflt (refine kba_turn (value' := PySem.Expr.Name (PySem.Str.ofString "_") ⟨0, 0, 0, 0⟩) (fun _ => rfl) ?_; refine' item_strs ?N ?m ?i ?a ?lt ?l ?_; (case N => k_asm); (case m => exact ⟨_, .head _⟩); (case i => with_reducible assumption); (case a => decide); (case lt => assumption); (case l => with_reducible assumption); k_whole); intro t'))
local macro_rules | `(tactic| walk_at "compareOp In") => `(tactic| (k_here; k_dflt (refine' in_strs ?l ?i ?_; (case i => with_reducible assumption); (case l => exact Fr.lst (by k_asm) (by assumption)); k_whole)))
local macro_rules | `(tactic| walk_at "call builtin:list.index") => `(tactic| (k_here; k_dflt (refine' index_strs ?l ?i ?m ?n ?_; (case l => exact Fr.lst (by k_asm) (by assumption)); (case i => with_reducible assumption); (case m => exact mem_any (by assumption)); (case n => omega); k_whole); intro t' tk'))
local macro_rules | `(tactic| walk_at "getMethod ref") => `(tactic| (k_here; (with_reducible show wpAny _ _ (getMethod (Value.ref _) (PySem.Str.ofString "index") _) _ _ _); k_dflt (refine' listMethod_G ?F ?m PySem.F.slot_list_index PySem.F.type_list_index ?_; (case m => assumption); (case F => k_asm))))
set_option maxHeartbeats 40000000 in
theorem parting_spec (w : World) (prog : Program) (hp : prog = PySem.Challenge.rw_rt0040_02.prog) (r1 r2 ws : List Str) (t1 t2 : Tok) (l : Addr) (vs : List Value) (hi : StrsAre vs ws) (hg1 : GoodRow r1) (hg2 : GoodRow r2) (hw : ws.length ≤ 8) : Spec (hd02.heap_39 w.params) prog w 181 14 [.str (pathOf r1) t1, .str (pathOf r2) t2, .ref l] (fun h => ∃ n, h.get? l = some (W.listOf vs.toArray n)) (fun _ _ r => ∃ t', r = .int (partZ 8 r1 r2 ws) t') := by
  run_tac Mine.mark
  revert hp; k_fill; intro hp
  intro p loose mean mg mb dp un gd cn cs a ccd cl outer A₀ base h₀ L m s Q E B F X T hkk hd hu hpre hQ
  obtain ⟨nl, hobj⟩ := hpre
  have hlst : s.heap.IsList l vs.toArray := ⟨_, hobj, rfl, _, rfl⟩
  have hrows : StrsAre [.str (pathOf r1) t1, .str (pathOf r2) t2] ([r1, r2].map pathOf) := .cons _ _ (.cons _ _ .nil)
  have hgr : ∀ r ∈ [r1, r2], GoodRow r := fun r hr => by
    rcases List.mem_cons.mp hr with rfl | hr
    · exact hg1
    · rw [List.mem_singleton.mp hr]; exact hg2
  have hne : [r1, r2] ≠ [] := by simp
  have hl16 : [r1, r2].length ≤ 16 := by simp
  have hzf : (pathOf (frontOf [r1, r2])).length ≤ 1000000 := by
    have h1 := front_join_len hgr
    unfold pathOf
    rw [Str.length_append, slash_len]
    have := good_join_len (sep := Str.ofString "/") (front_good hgr) (by have := front_len hgr; omega) (by decide)
    omega
  refine wpAny_call ?_
  k_dflt first | walk_at "my enter" | walk_at "my enterC"
  k_steps
  rename Fr _ _ _ _ => F0
  rename News _ _ _ _ => N0
  refine SrcJ.tuple (vs := [.str (pathOf r1) t1, .str (pathOf r2) t2]) rfl F0 N0 (.head _) (show 2 ≤ sizeLine by decide) (fun i ys => Made _ fun _ => StrsAre ys ([r1.getD (frontN [r1, r2]) Str.empty, r2.getD (frontN [r1, r2]) Str.empty].take i)) (.start .nil) ?_ ?_
  · refine turn_nil ?_
    rintro i ys nws v I oI C cl' led D h tk E' hin hv ⟨made, rfl, hys, hmc⟩ hS hT F N hoff hID
    rcases hT with ⟨oC, m₂, -, rfl, rfl, hns, hx⟩ | ⟨_, _, _, _, _, hl, _⟩
    · obtain ⟨xp, tv, rfl, hxp⟩ := hrows.item i v hv
      replace hx := hx _ rfl
      obtain ⟨r, hr, rfl⟩ := Option.map_eq_some_iff.mp (List.getElem?_map.symm.trans hxp)
      have hgr1 := hgr r (List.mem_of_getElem? hr)
      have hfr := front_take (rows := [r1, r2]) (List.mem_of_getElem? hr)
      have hm : frontN [r1, r2] ≤ r.length := by have := congrArg List.length hfr; rw [List.length_take] at this; unfold frontN at *; omega
      have hst := ahead_strip hgr1.good _ hm
      have hsp := ahead_split hgr1.good (frontN [r1, r2])
      rw [← hfr] at hst
      have hz1 : (pathOf r).length ≤ 1000000 := Nat.le_trans (pathOf_len hgr1) (by decide)
      have hz2 : (Txt.slice (pathOf r) (some (((pathOf (frontOf [r1, r2])).length : Nat) : Int)) none).length ≤ 1000000 := Nat.le_trans (PyProof.Txt.length_slice_le _ _ _) hz1
      have hz3 : (Str.join (Str.ofString "/") (r.drop (frontN [r1, r2]))).length ≤ 1000000 := Nat.le_trans (good_join_len (sep := Str.ofString "/") (fun w hw => hgr1.good w (List.mem_of_mem_drop hw)) (by have := hgr1.few; rw [List.length_drop]; omega) (by decide)) (by decide)
      obtain ⟨hz4, hz5⟩ := aheadSplit_len (m := frontN [r1, r2]) hgr1.few
      simp only [List.cons_append, List.nil_append] at N
      clear F0 N0
      k_steps
      rename Fr _ _ _ _ => F2
      rename News _ _ _ _ => N2
      rename _ ∧ _ => l1
      refine endJ_made (pre := [(_, _)]) F2 N2 (.cons l1 .nil) hmc hoff (List.mem_append_right _ (.head _)) ?_
      have e : ([r1, r2].map fun r => r.getD (frontN [r1, r2]) Str.empty).take (i + 1) = ([r1, r2].map fun r => r.getD (frontN [r1, r2]) Str.empty).take i ++ [r.getD (frontN [r1, r2]) Str.empty] := by
        rw [List.take_add_one, List.getElem?_map, hr]; rfl
      show StrsAre _ (([r1, r2].map fun r => r.getD (frontN [r1, r2]) Str.empty).take (i + 1))
      rw [e, show (0 : Int).toNat = 0 from rfl, ahead_first]
      exact StrsAre.append' hys (.cons _ _ .nil)
    · cases hl
  · rintro D h tk ys nws F N hoff ⟨made, rfl, hys, hmc⟩
    clear F0 N0
    have hys : StrsAre ys [r1.getD (frontN [r1, r2]) Str.empty, r2.getD (frontN [r1, r2]) Str.empty] := hys
    k_steps
    rename Fr _ _ _ _ => F1
    rename News _ _ _ _ => N1
    refine SrcJ.list rfl F1 N1 (.inr ⟨_, by walk_at "my mem", rfl, _, rfl⟩) ?_ (fun i zs => Made _ fun _ => IntsAre zs (([r1.getD (frontN [r1, r2]) Str.empty, r2.getD (frontN [r1, r2]) Str.empty].take i).map (idxOr 8 ws))) (.start .nil) ?_ ?_
    · rw [List.size_toArray, hys.length]; exact (show 2 ≤ sizeLine by decide)
    · refine turn_nil ?_
      rintro i zs nws v I oI C cl' led D2 h2 tk2 E2 hin hv ⟨made2, rfl, hzs, hmc2⟩ hS hT F2 N2 hoff2 hID2
      rcases hT with ⟨oC, m₂, -, rfl, rfl, hns, hx⟩ | ⟨_, _, _, _, _, hl, _⟩
      · obtain ⟨y, ty, rfl, hy⟩ := hys.item i v (by simpa using hv)
        replace hx := hx _ rfl
        simp only [List.cons_append, List.nil_append] at N2
        clear F1 N1
        k_steps
        all_goals
          rename Fr _ _ _ _ => F3
          rename News _ _ _ _ => N3
          rename List.any _ _ = _ => hd
          refine endJ_made (pre := []) (own := [(I, oI), (C, oC), (D2, PyProof.Rows.LCg.lst zs)]) F3 N3 .nil hmc2 hoff2 hS ?_
          rw [List.take_add_one, hy, List.map_append]
          refine IntsAre.append hzs ?_
          show IntsAre [_] [idxOr 8 ws y]
          first | rw [idx_any hd] | rw [idx_none hd]
          exact .cons _ _ .nil
      · cases hl
    · rintro D2 h2 tk2 zs nws F2 N2 hoff2 ⟨made2, rfl, hzs, hmc2⟩
      clear F1 N1
      have hzs : IntsAre zs [idxOr 8 ws (r1.getD (frontN [r1, r2]) Str.empty), idxOr 8 ws (r2.getD (frontN [r1, r2]) Str.empty)] := by
        rw [List.size_toArray, hys.length] at hzs; exact hzs
      k_steps
      · rename _ ∨ _ => ha
        rename _ ≤ _ ∧ _ ≤ _ => hb
        refine hQ _ _ _ (Fr.keep (by k_asm)) ⟨_, congrArg (Value.int · _) (min_two ha hb)⟩
      · rename (pathOf _ == _) = false => hf
        simp at hf
  run_tac Mine.shrink
end
local macro_rules | `(tactic| walk_at "call ref") => `(tactic| (k_here; k_dflt (refine' Spec.use (parting_spec _ _ ?hp _ _ _ _ _ _ _ ?j1 ?j2 ?j3 ?j4) ?k1 ?k2 ?k3 ?k5 ?kK ?kd ?ku ?kp ?_; walk_at "my use"; (case kp => first | exact ⟨_, News.get (by k_asm) (by walk_at "my mem")⟩ | assumption); (case j1 => assumption); (case j2 => assumption); (case j3 => assumption); (case j4 => assumption); k_whole); intro r' h' tk' g' F' o'; (have N' := news_grow' g' (by assumption)); clear g'; k_sweep; (try dsimp only at o'); (obtain ⟨t', o'⟩ := o'); subst o'; (try dsimp only); (try k_fold)))
section
local macro_rules | `(tactic| walk_at "eval ListComp") => `(tactic| (k_here; k_dflt (refine' ListComp_J ?F ?c ?x ?k ?n ?_ ?s; (case F => k_asm); (case x => first | exact .inl ⟨by decide, rfl⟩ | exact .inr ⟨_, _, rfl, by decide⟩); (case c => first | exact rfl | with_unfolding_all rfl);  (case k => rfl); (case n => decide); (case s => exact fun _ => rfl); k_whole)))
local macro_rules | `(tactic| walk_at "call type:range") => `(tactic| (k_here; k_dflt (refine' range_news ?k1 ?k2 ?_; (case k1 => k_asm); (case k2 => k_asm); k_whole); intro r' h' tk' u' v' F' N' l1; (try k_lt l1); (try k_sweep)))
local macro_rules | `(tactic| walk_at "call builtin:min") => `(tactic| (k_here; k_dflt (refine' min_news ?h ?F ?N ?m ?i ?_; (case h => exact rfl); (case F => k_asm); (case N => k_asm); (case m => walk_at "my mem"); (case i => assumption); k_whole); intro h' t' tk' F' N'; (try k_sweep)))
set_option maxHeartbeats 40000000 in
theorem twos_spec (w : World) (prog : Program) (hp : prog = PySem.Challenge.rw_rt0040_02.prog) (z : Int) (t1 : Tok) : Spec (hd02.heap_39 w.params) prog w 171 6 [.int z t1] (fun _ => True) (fun _ _ r => ∃ t', r = .int ((lowZ 8 z : Nat) : Int) t') := by
  run_tac Mine.mark
  revert hp; k_fill; intro hp
  intro p loose mean mg mb dp un gd cn cs a ccd cl outer A₀ base h₀ L m s Q E B F X T hkk hd hu hpre hQ
  refine wpAny_call ?_
  k_dflt first | walk_at "my enter" | walk_at "my enterC"
  k_steps
  rename Fr _ _ _ _ => F6
  rename News _ _ _ _ => N7
  refine SrcJ.range (n := 8) rfl F6 N7 (N7 _ (.head _)).1 (by decide +kernel) (by decide +kernel) (show 8 ≤ sizeLine by decide) (fun k zs nws => nws = _ ∧ IntsAre zs (lowF k z)) ⟨rfl, .nil⟩ ?_ ?_
  · refine turn_one ?_
    rintro k zs nws v I3 oI3 C cl' led D3 h3 tk3 E3 hk7 ⟨tv, rfl⟩ ⟨rfl, hzs⟩ - hT' F7 N8 hoff3 hID3
    rcases hT' with ⟨oC, m₂, -, rfl, rfl, hns, hx⟩ | ⟨_, _, _, _, _, hl, _⟩
    · replace hx := hx _ rfl
      simp only [List.cons_append, List.nil_append] at N8
      clear F6 N7
      k_steps
      all_goals
        rename Fr _ _ _ _ => F8
        rename News _ _ _ _ => N9
      · rename Int.fmod _ 2 = 1 => hc
        rw [bit_z] at hc
        refine endJ_same (own := [(I3, oI3), (C, oC), (D3, PyProof.Rows.LCg.lst zs)]) F8 N9 hoff3 trivial ⟨rfl, ?_⟩
        rw [lowF_succ, if_pos hc]
        refine IntsAre.append hzs ?_
        rw [show (0 : Int) + (k : Int) = ((k : Nat) : Int) by omega]
        exact .cons _ _ .nil
      · rename Int.fmod _ 2 ≠ 1 => hc
        refine endJ_same (own := [(I3, oI3), (C, oC), (D3, PyProof.Rows.LCg.lst zs)]) F8 N9 hoff3 trivial ⟨rfl, ?_⟩
        rw [lowF_succ, if_neg (fun q => hc ((bit_z _ _).mpr q)), List.append_nil]
        exact hzs
    · exact absurd hl (by decide)
  · rintro D3 h3 tk3 zs nws F7 N8 hoff3 ⟨rfl, hzs⟩
    clear F6 N7
    have hlf := lowF_len 8 z
    k_steps
    exact hQ _ _ _ (Fr.keep (by k_asm)) ⟨_, rfl⟩
  run_tac Mine.shrink
end
local macro_rules | `(tactic| walk_at "call ref") => `(tactic| (k_here; k_dflt (refine' Spec.use (twos_spec _ _ ?hp _ _) ?k1 ?k2 ?k3 ?k5 ?kK ?kd ?ku trivial ?_; walk_at "my use"; k_whole); intro r' h' tk' g' F' o'; (have N' := news_grow' g' (by assumption)); clear g'; k_sweep; (try dsimp only at o'); (obtain ⟨t', o'⟩ := o'); subst o'; (try dsimp only); (try k_fold)))
section
local macro_rules | `(tactic| walk_at "eval ListComp") => `(tactic| (k_here; k_dflt (refine' ListComp_J ?F ?c ?x ?k ?n ?_ ?s; (case F => k_asm); (case x => first | exact .inl ⟨by decide, rfl⟩ | exact .inr ⟨_, _, rfl, by decide⟩); (case c => first | exact rfl | with_unfolding_all rfl); (case k => rfl); (case n => decide); (case s => exact fun _ => rfl); k_whole)))
local macro_rules | `(tactic| walk_at "truthy ref") => `(tactic| (k_here; k_dflt (refine' truthy_lst ?N ?m ?z ?_; (case N => k_asm); (case m => walk_at "my mem"); (case z => assumption); k_whole); intro tk'))
local macro_rules | `(tactic| walk_at "call builtin:str.join") => `(tactic| (k_here; k_dflt (refine' join_news ?N ?m ?i ?s ?w ?_; (case N => k_asm); (case m => walk_at "my mem"); (case i => assumption); (case s => assumption); (case w => assumption); k_whole); intro t' tk'))
local macro_rules | `(tactic| walk_at "call type:range") => `(tactic| (k_here; k_dflt (refine' range_news ?k1 ?k2 ?_; (case k1 => k_asm); (case k2 => k_asm); k_whole); intro r' h' tk' u' v' F' N' l1; (try k_lt l1); (try k_sweep)))
set_option maxHeartbeats 40000000 in
theorem due_spec (w : World) (prog : Program) (hp : prog = PySem.Challenge.rw_rt0040_02.prog) (c0 c1 c2 c3 c4 c5 x : Int) (hx : 0 ≤ x ∧ x ≤ 70000) (ws : List Str) (t1 : Tok) (lt l : Addr) (vt vs : List Value) (hit : IntsAre vt [c0, c1, c2, c3, c4, c5]) (hc : ∀ c ∈ [c0, c1, c2, c3, c4, c5], 0 ≤ c ∧ c ≤ 300) (hi : StrsAre vs ws) (hw' : ws.length = 8) (hgw : ∀ w ∈ ws, GoodW w) :
    Spec (hd02.heap_39 w.params) prog w 166 10 [.ref lt, .int x t1, .ref l] (fun h => (∃ n, h.get? lt = some (W.listOf vt.toArray n)) ∧ ∃ n, h.get? l = some (W.listOf vs.toArray n)) (fun _ _ r => ∃ t', r = .str (pathOf (dueNames 8 (valN c0 c1 c2 c3 c4 c5 x) ws)) t') := by
  run_tac Mine.mark
  revert hp; k_fill; intro hp
  intro p loose mean mg mb dp un gd cn cs a ccd cl outer A₀ base h₀ L m s Q E B F X T hkk hd hu hpre hQ
  obtain ⟨⟨nt, htob⟩, nl, hobj⟩ := hpre
  have htl : s.heap.IsList lt vt.toArray := ⟨_, htob, rfl, _, rfl⟩
  have hlst : s.heap.IsList l vs.toArray := ⟨_, hobj, rfl, _, rfl⟩
  refine wpAny_call ?_
  k_dflt first | walk_at "my enter" | walk_at "my enterC"
  k_steps
  rename Fr _ _ _ _ => F0
  rename News _ _ _ _ => N0
  refine SrcJ.range (n := 6) rfl F0 N0 (N0 _ (.head _)).1 (by decide +kernel) (by decide +kernel) (show 6 ≤ sizeLine by decide) (fun i zs nws => nws = _ ∧ IntsAre zs (([c0, c1, c2, c3, c4, c5].zipIdx.map fun p => p.1 * x ^ p.2).take i)) ⟨rfl, .nil⟩ ?_ ?_
  · refine turn_nil ?_
    rintro k zs nws v I3 oI3 C cl' led D3 h3 tk3 E3 hk6 ⟨tv, rfl⟩ ⟨rfl, hzs⟩ - hT' F7 N8 hoff3 hID3
    rcases hT' with ⟨oC, m₂, -, rfl, rfl, hns, hx'⟩ | ⟨_, _, _, _, _, hl, _⟩
    · replace hx' := hx' _ rfl
      simp only [List.cons_append, List.nil_append] at N8
      clear F0 N0
      obtain ⟨ck, hck⟩ : ∃ ck, [c0, c1, c2, c3, c4, c5][k]? = some ck := ⟨_, List.getElem?_eq_getElem hk6⟩
      have hgd : [c0, c1, c2, c3, c4, c5].getD (0 + (k : Int)).toNat 0 = ck := by rw [nat_k0, List.getD, hck]; rfl
      have hcb := hc ck (List.mem_of_getElem? hck)
      have hml : Builtin.Int.intBits ([c0, c1, c2, c3, c4, c5].getD (0 + (k : Int)).toNat 0) ≤ 64 := by rw [hgd]; exact PySem.intBits_le_64 (by omega) (by omega)
      k_steps
      rename Fr _ _ _ _ => F8
      rename News _ _ _ _ => N9
      refine endJ_same (own := [(I3, oI3), (C, oC), (D3, PyProof.Rows.LCg.lst zs)]) F8 N9 hoff3 trivial ⟨rfl, ints_snoc hzs ?_⟩
      rw [hgd, nat_k0, List.getElem?_map, List.getElem?_zipIdx, hck]
      simp
    · exact absurd hl (by decide)
  · rintro D3 h3 tk3 zs nws F7 N8 hoff3 ⟨rfl, hzs⟩
    rw [take_all (by simp)] at hzs
    have hsum : ([c0, c1, c2, c3, c4, c5].zipIdx.map fun p => p.1 * x ^ p.2).sum = polyZ c0 c1 c2 c3 c4 c5 x := by
      unfold polyZ
      simp [List.zipIdx]
      grind
    clear F0 N0
    k_steps
    rename Fr _ _ _ _ => F0
    rename News _ _ _ _ => N0
    rename Obj.data _ = Data.cell (some (Value.int _ _)) => hv
    rw [hsum] at hv
    refine SrcJ.range (n := 8) rfl F0 N0 (N0 _ (.head _)).1 (by decide +kernel) (by decide +kernel) (show 8 ≤ sizeLine by decide)
      (fun i zs nws => nws = _ ∧ StrsAre zs (((List.range i).filter (valN c0 c1 c2 c3 c4 c5 x).testBit).map (ws.getD · Str.empty))) ⟨rfl, .nil⟩ ?_ ?_
    · refine turn_one ?_
      rintro i zs nws v I oI C cl' led D2 h2 tk2 E2 hin ⟨tv, rfl⟩ ⟨rfl, hzs⟩ - hT F2 N2 hoff2 hID2
      rcases hT with ⟨oC, m₂, -, rfl, rfl, hns, hx⟩ | ⟨_, _, _, _, _, hl, _⟩
      · replace hx := hx _ rfl
        simp only [List.cons_append, List.nil_append] at N2
        clear F0 N0
        k_steps
        · rename Int.fmod _ _ = 1 => hb
          have hbit : (valN c0 c1 c2 c3 c4 c5 x).testBit i = true := (bit_val _ hin).mp hb
          rename Fr _ _ _ _ => F3
          rename News _ _ _ _ => N3
          refine endJ_same (own := [(I, oI), (C, oC), (D2, PyProof.Rows.LCg.lst zs)]) F3 N3 hoff2 trivial ⟨rfl, ?_⟩
          rw [filter_succ, hbit]
          rename StrsAre zs _ => hzs
          refine StrsAre.append' hzs ?_
          rw [nat_k0]
          exact .cons _ _ .nil
        · rename Int.fmod _ _ ≠ 1 => hb
          have hbit : (valN c0 c1 c2 c3 c4 c5 x).testBit i = false := by
            cases e : (valN c0 c1 c2 c3 c4 c5 x).testBit i with
            | false => rfl
            | true => exact absurd ((bit_val _ hin).mpr e) hb
          rename Fr _ _ _ _ => F3
          rename News _ _ _ _ => N3
          refine endJ_same (own := [(I, oI), (C, oC), (D2, PyProof.Rows.LCg.lst zs)]) F3 N3 hoff2 trivial ⟨rfl, ?_⟩
          rw [filter_succ, hbit]
          simpa using hzs
      · exact absurd hl (by decide)
    · rintro D2 h2 tk2 zs nws F2 N2 hoff2 ⟨rfl, hzs⟩
      have hg7 : ∀ w ∈ ((List.range 8).filter (valN c0 c1 c2 c3 c4 c5 x).testBit).map (ws.getD · Str.empty), GoodW w := fun w hw => by
        obtain ⟨k, hk, rfl⟩ := List.mem_map.mp hw
        have hk7 : k < ws.length := by rw [hw']; exact List.mem_range.mp (List.mem_filter.mp hk).1
        simp only [List.getD, List.getElem?_eq_getElem hk7, Option.getD_some]
        exact hgw _ (List.getElem_mem hk7)
      have hl7 : (((List.range 8).filter (valN c0 c1 c2 c3 c4 c5 x).testBit).map (ws.getD · Str.empty)).length ≤ 8 := by
        rw [List.length_map]; exact Nat.le_trans (List.length_filter_le _ _) (by simp)
      have hzl := hzs.length
      have hw0 : ((((List.range 8).filter (valN c0 c1 c2 c3 c4 c5 x).testBit).map (ws.getD · Str.empty)).map (·.length)).sum + (((List.range 8).filter (valN c0 c1 c2 c3 c4 c5 x).testBit).map (ws.getD · Str.empty)).length ≤ 1048576 := by have := good_sum hg7; omega
      have hj0 : (Str.join (Str.ofString "/") (((List.range 8).filter (valN c0 c1 c2 c3 c4 c5 x).testBit).map (ws.getD · Str.empty))).length ≤ 1000000 := Nat.le_trans (good_join_len (sep := Str.ofString "/") hg7 (by omega) (by decide)) (by decide)
      have hs0 : (Str.ofString "/").length ≤ 16 := by decide
      have hz6 : zs.length ≤ 1000000 := by omega
      clear F0 N0
      have ez : zs = [] ↔ ((List.range 8).filter (valN c0 c1 c2 c3 c4 c5 x).testBit).map (ws.getD · Str.empty) = [] := by
        constructor <;> intro e
        · rw [e] at hzl; exact List.eq_nil_of_length_eq_zero hzl.symm
        · rw [e] at hzl; exact List.eq_nil_of_length_eq_zero hzl
      k_steps
      · rename List.isEmpty zs = true => he
        have e0 := ez.mp (by simpa using he)
        refine hQ _ _ _ (Fr.keep (by k_asm)) (out_str ?_)
        unfold dueNames
        rw [if_pos e0]; rfl
      · rename List.isEmpty zs = false => he
        have e0 : ¬ ((List.range 8).filter (valN c0 c1 c2 c3 c4 c5 x).testBit).map (ws.getD · Str.empty) = [] := fun q => by rw [ez.mpr q] at he; cases he
        refine hQ _ _ _ (Fr.keep (by k_asm)) (out_str ?_)
        unfold dueNames
        rw [if_neg e0]; rfl
  run_tac Mine.shrink
end
local macro_rules | `(tactic| walk_at "call ref") => `(tactic| (k_here; k_dflt (refine' Spec.use (due_spec _ _ ?hp _ _ _ _ _ _ _ ?j0 _ _ _ _ _ _ ?j1 ?j2 ?j3 ?j4 ?j5) ?k1 ?k2 ?k3 ?k5 ?kK ?kd ?ku ?kp ?_; walk_at "my use"; (case kp => exact ⟨⟨_, News.get (by k_asm) (by walk_at "my mem")⟩, ⟨_, News.get (by k_asm) (by walk_at "my mem")⟩⟩); (case j1 => assumption); (case j0 => assumption); (case j2 => assumption); (case j3 => assumption); (case j4 => assumption); (case j5 => assumption); k_whole); intro r' h' tk' g' F' o'; (have N' := news_grow' g' (by assumption)); clear g'; k_sweep; (try dsimp only at o'); (obtain ⟨t', o'⟩ := o'); subst o'; (try dsimp only); (try k_fold)))
section
local macro_rules | `(tactic| walk_at "eval ListComp") => `(tactic| (k_here; k_dflt (refine' ListComp_J ?F ?c ?x ?k ?n ?_ ?s; (case F => k_asm); (case x => first | exact .inl ⟨by decide, rfl⟩ | exact .inr ⟨_, _, rfl, by decide⟩); (case c => first | exact rfl | with_unfolding_all rfl); (case k => rfl); (case n => decide); (case s => exact fun _ => rfl); k_whole)))
local macro_rules | `(tactic| walk_at "binaryOp Add ref ref") => `(tactic| (k_here; k_dflt (refine' add_news ?k1 ?k2 ?k3 ?k4 ?k5 ?_; (case k1 => k_asm); (case k2 => k_asm); (case k3 => walk_at "my mem"); (case k4 => walk_at "my mem"); (case k5 => first | assumption | (simp; omega)); k_whole); intro D' h' F' N' l1; (try k_lt l1); (try k_sweep)))
local macro_rules | `(tactic| walk_at "my pad") => `(tactic| fail)
local macro_rules | `(tactic| walk_at "my pad") => `(tactic| fail)
theorem low_strs : ∀ t0 t1 t2 t3 t4 t5 t6 t7 t8 t9, StrsAre [.str (Str.ofString "OPTIMIZED") t0, .str (Str.ofString "NEWLOCALS") t1, .str (Str.ofString "VARARGS") t2, .str (Str.ofString "VARKEYWORDS") t3, .str (Str.ofString "NESTED") t4, .str (Str.ofString "GENERATOR") t5, .str (Str.ofString "NOFREE") t6, .str (Str.ofString "COROUTINE") t7, .str (Str.ofString "ITERABLE_COROUTINE") t8, .str (Str.ofString "ASYNC_GENERATOR") t9] lowNames := fun _ _ _ _ _ _ _ _ _ _ => .cons _ _ (.cons _ _ (.cons _ _ (.cons _ _ (.cons _ _ (.cons _ _ (.cons _ _ (.cons _ _ (.cons _ _ (.cons _ _ .nil)))))))))
local macro_rules | `(tactic| walk_at "subscriptTail Name Slice ref ref") => `(tactic| (k_here; k_dflt (refine' slice_both ?F ?N ?m ?i ?ha ?hb ?hab ?hbl ?hl ?h ?hs ?ht; (case F => k_asm);  (case N => k_asm); (case m => (first | exact ⟨_, .head _⟩ | exact ⟨_, List.mem_cons_self⟩));  (case i => exact StrsAre.append' (low_strs ..) (by assumption)); (case ha => exact rfl); (case hb => exact (Int.natCast_add _ 8).symm); (case hab => omega); (case hbl => (rw [lown_len]; omega)); (case hl => rw [lown_len]; decide); (case hs => with_unfolding_all rfl); (case ht => (intro _; with_unfolding_all rfl)); k_whole); intro D' vs' h' hv' F' N' l1; (try k_lt l1); (try k_sweep)))
set_option maxHeartbeats 40000000 in
theorem words_spec (w : World) (prog : Program) (hp : prog = PySem.Challenge.rw_rt0040_02.prog) (k : Nat) (hk : k ≤ 24) (t1 : Tok) : Spec (hd02.heap_39 w.params) prog w 147 6 [.int k t1] (fun _ => True) (fun h h' r => ∃ D vs n, r = .ref D ∧ h'.get? D = some (W.listOf vs.toArray n) ∧ StrsAre vs (wordsOf 8 k) ∧ h.get? D = none) := by
  run_tac Mine.mark
  revert hp; k_fill; intro hp
  intro p loose mean mg mb dp un gd cn cs a ccd cl outer A₀ base h₀ L m s Q E B F X T hkk hd hu hpre hQ
  refine wpAny_call ?_
  k_dflt first | walk_at "my enter" | walk_at "my enterC"
  k_steps
  rename IsRange _ _ _ _ _ _ _ _ => hr
  rename Fr _ _ _ _ => F0
  rename News _ _ _ _ => N0
  refine SrcJ.range (n := 22) rfl F0 N0 hr (by decide +kernel) (by decide +kernel) (show 22 ≤ sizeLine by decide) (fun i zs nws => nws = _ ∧ StrsAre zs ((wordsOf 22 10).take i)) ⟨rfl, .nil⟩ ?_ ?_
  · refine turn_nil ?_
    rintro i zs nws v I oI C cl' led D2 h2 tk2 E2 hin ⟨tv, rfl⟩ ⟨rfl, hzs⟩ - hT' F2 N2 hoff2 hID2
    rcases hT' with ⟨oC, m₂, -, rfl, rfl, hns, hx⟩ | ⟨_, _, _, _, _, hl, _⟩
    · replace hx := hx _ rfl
      simp only [List.cons_append, List.nil_append] at N2
      have e0 : (10 : Int) + (i : Int) = ((i + 10 : Nat) : Int) := by push_cast; omega
      rw [e0] at hx
      obtain ⟨e1, e2⟩ := high_name (i + 10) (by omega) (by omega)
      have hf32 : i + 10 < 32 := by omega
      have hw := words_at (N := 22) (k := 10) hin
      generalize i + 10 = f at hx e1 e2 hw hf32
      clear F0 N0 hr
      k_steps
      refine endJ_same (own := [(I, oI), (C, oC), (D2, PyProof.Rows.LCg.lst zs)]) (by k_asm) (by k_asm) hoff2 trivial ⟨rfl, strs_snoc hzs (by rw [hw, e1])⟩
    · exact absurd hl (by decide)
  · rintro D2 h2 tk2 zs nws F2 N2 hoff2 ⟨rfl, hzs⟩
    rw [take_all (by rw [words_len]; exact Nat.le_refl _)] at hzs
    have hzl := hzs.length
    rw [words_len] at hzl
    clear F0 N0 hr
    k_steps
    rename StrsAre _ (List.take _ _) => hv
    rename Fr _ _ _ _ => F9
    rename News _ _ _ _ => N9
    rw [Nat.add_sub_cancel_left, words_cut hk] at hv
    exact hQ _ _ _ (Fr.keep F9) ⟨_, _, _, rfl, (N9 _ (.head _)).1, hv, (N9 _ (.head _)).2.2⟩
  run_tac Mine.shrink
end
theorem words_spec2 (w : World) (prog : Program) (hp : prog = PySem.Challenge.rw_rt0040_02.prog) (z : Int) (h0 : 0 ≤ z) (h1 : z ≤ 24) (t1 : Tok) : Spec (hd02.heap_39 w.params) prog w 147 6 [.int z t1] (fun _ => True) (fun h h' r => ∃ D vs n, r = .ref D ∧ h'.get? D = some (W.listOf vs.toArray n) ∧ StrsAre vs (wordsOf 8 z.toNat) ∧ h.get? D = none) := by
  obtain ⟨k, rfl⟩ := Int.eq_ofNat_of_zero_le h0
  exact words_spec w prog hp k (by omega) t1
local macro_rules | `(tactic| walk_at "call ref") => `(tactic| (k_here; k_dflt (refine' Spec.use (words_spec2 _ _ ?hp _ ?j1 ?j2 _) ?k1 ?k2 ?k3 ?k5 ?kK ?kd ?ku trivial ?_; walk_at "my use"; (case j1 => first | assumption | exact (mod25 _).1); (case j2 => first | assumption | exact (mod25 _).2); k_whole); intro r' h' tk' g' F' o'; (obtain ⟨D', vt', nt', e', hm', hi', nn'⟩ := o'); subst e'; (obtain ⟨N', ne'⟩ := news_made g' (by k_asm) (by assumption) hm' nn'); (clear hm' nn' g'); (simp only [neAll] at ne'); k_sweep; (try dsimp only); (try k_fold)))
section
local macro_rules | `(tactic| walk_at "exec For Name Name cons nil") => `(tactic| (k_here; (with_reducible rename Fr _ _ _ _ => lF'); (with_unfolding_all refine' forS lF' ?k1 ?k2 ?_; (case k1 => exact rfl); (case k2 => exact rfl)); k_whole))
local macro_rules | `(tactic| walk_at "call ref") => `(tactic| (k_here; k_dflt (refine' Spec.use ?hS ?k1 ?k2 ?k3 ?k5 ?kK ?kd ?ku ?kp ?_; (case hS => assumption); (case k1 => k_asm); (case k2 => k_asm); (case k3 => k_asm); (case k5 => k_asm); (case kK => first | exact rfl | assumption); (case kd => ktr_room); (case ku => ktr_units); (case kp => assumption); k_whole); intro r' h' tk' g' F' o'; (have N' := news_grow' g' (by assumption)); clear g'; k_sweep; (try dsimp only at o'); (obtain ⟨t', o'⟩ := o'); subst o'; (try dsimp only); (try k_fold)))
local macro_rules | `(tactic| walk_at "callWith ref") => `(tactic| (k_here; k_dflt (refine' callWith_F ?k1 ?_; (case k1 => assumption); k_whole)))
local macro_rules | `(tactic| walk_at "FnAt") => `(tactic| assumption)
local macro_rules | `(tactic| walk_at "my pad") => `(tactic| fail)
local macro_rules | `(tactic| walk_at "my pad") => `(tactic| fail)
set_option maxHeartbeats 40000000 in
theorem reduce_int_spec (w : World) (prog : Program) (hp : prog = PySem.Challenge.rw_rt0040_02.prog) (f l : Addr) (c0 : Int) (t : Tok) (vs : List Value) (ks : List Int) (hi : IntsAre vs ks) (g : Int → Int → Int) (Base : Heap → Prop) (hbase : ∀ h h', Grow h h' → Base h → Base h') (hfnat : ∀ h, Base h → FnAt f h)
    (hcall : ∀ i k t u, ks[i]? = some k → Spec (hd02.heap_39 w.params) prog w f 10 [.int ((ks.take i).foldl g c0) t, .int k u] Base (fun _ _ r => ∃ t', r = .int (g ((ks.take i).foldl g c0) k) t')) :
    Spec (hd02.heap_39 w.params) prog w 38 16 [.ref f, .ref l, .int c0 t] (fun h => h.IsList l vs.toArray ∧ Base h) (fun _ _ r => ∃ t', r = .int (ks.foldl g c0) t') := by
  run_tac Mine.mark
  revert hp; k_fill; intro hp
  intro p loose mean mg mb dp un gd cn cs a ccd cl outer A₀ base h₀ L m s Q E B F X T hk hd hu hpre hQ
  obtain ⟨hpre, hbs⟩ := hpre
  refine wpAny_call ?_
  k_dflt walk_at "my enter"
  k_steps
  rename Fr _ _ _ _ => F1
  rename News _ _ _ _ => N1
  have hI := N1 _ (List.Mem.head _)
  refine wpAny_pyIter_listiter (l := l) (i := 0) ⟨_, hI.1, rfl, rfl⟩ ?_
  refine LoopS.listIter (news := []) rfl ⟨_, hI.1, rfl, rfl⟩ hpre hI.2.2 hI.2.1 F1 News.nil (fun _ h => nomatch h)
    (fun i m' nws => nws = [] ∧ ∃ t', Acc1 (Str.ofString "element") (Str.ofString "value") _ (.int ((ks.take i).foldl g c0) t') m') ⟨rfl, _, Acc1.start rfl⟩ ?_ ?_
  · rintro i v m₁ news₁ h tk own hv - hoff ⟨rfl, t', u, rfl⟩ F N
    have hv : vs[i]? = some v := by simpa using hv
    have hil : i < vs.length := (List.getElem?_eq_some_iff.mp hv).1
    obtain ⟨y, ty, hy0, hy⟩ := hi.at i v hv
    subst hy0
    have hS := hcall i y t' ty hy
    have hbh := hbase _ _ F.keep hbs
    have hfa := hfnat _ hbh
    clear F1 N1
    k_steps
    rename Fr _ _ _ _ => F2
    rename News _ _ _ _ => N2
    have e : (ks.take (i + 1)).foldl g c0 = g ((ks.take i).foldl g c0) y := by rw [List.take_add_one, hy]; simp
    refine InvEndN.intro (nx := []) F2 N2 ⟨rfl, ?_⟩ rfl (fun _ h => nomatch h) (fun p hp => hp)
    rw [e]
    exact Acc1.ints rfl fun z h1 h2 => by simp only [if_neg h1, if_neg h2]
  · rintro h' tk m' news' F N ⟨rfl, t', u, rfl⟩
    have e : ks.take vs.toArray.size = ks := by rw [List.size_toArray, IntsAre.length hi, List.take_length]
    rw [e] at F
    k_steps
    exact hQ _ _ _ (Fr.keep (by k_asm)) ⟨_, rfl⟩
  run_tac Mine.shrink
end
section
local macro_rules | `(tactic| walk_at "exec Assign cons ListComp") => `(tactic| (k_here; k_dflt (refine' Assign_ListComp_J ?F ?e ?w ?c ?x ?k ?n ?y ?p ?_ ?s; (case F => k_asm); (case e => rfl); (case w => with_unfolding_all rfl); (case c => first | exact rfl | with_unfolding_all rfl); (case x => first | exact .inl ⟨by decide, rfl⟩ | exact .inr ⟨_, _, rfl, by decide⟩); (case k => rfl); (case n => decide); (case y => rfl); (case p => rfl); (case s => exact fun _ => rfl); k_whole)))
local macro_rules | `(tactic| walk_at "call type:range") => `(tactic| (k_here; k_dflt (refine' range_news ?k1 ?k2 ?_; (case k1 => k_asm); (case k2 => k_asm); k_whole); intro r' h' tk' u' v' F' N' l1; (try k_lt l1); (try k_sweep)))
local macro_rules | `(tactic| walk_at "call builtin:sum") => `(tactic| (k_here; (with_reducible show wpAny _ _ (call (Value.builtin "sum") [Value.ref _]) _ _ _); (with_unfolding_all refine' sum_at ?k0 ?k1 ?k2 ?k3 ?k4 ?_; (case k0 => with_unfolding_all rfl); (case k1 => k_asm); (case k2 => k_asm); (case k3 => first | assumption | is_list); (case k4 => first | assumption | exact IntsAre.pick (by assumption) _ _ _); k_whole); intro h' tk' t' F' N'; (try k_sweep)))
local macro_rules | `(tactic| walk_at "my pad") => `(tactic| fail)
local macro_rules | `(tactic| walk_at "my pad") => `(tactic| fail)
local macro_rules | `(tactic| walk_at "my pad") => `(tactic| fail)
local macro_rules | `(tactic| walk_at "my pad") => `(tactic| fail)
theorem six_of {xs : List Int} (h : xs.length = 6) : ∃ c0 c1 c2 c3 c4 c5, xs = [c0, c1, c2, c3, c4, c5] := by
  match xs, h with
  | [a, b, c, d, e, f], _ => exact ⟨a, b, c, d, e, f, rfl⟩
theorem ints_six {zs : List Value} {c0 c1 c2 c3 c4 c5 : Int} (h : IntsAre zs [c0, c1, c2, c3, c4, c5]) : ∃ t0 t1 t2 t3 t4 t5, zs = [.int c0 t0, .int c1 t1, .int c2 t2, .int c3 t3, .int c4 t4, .int c5 t5] := by
  run_tac Mine.mark
  cases h with
  | cons _ t0 h => cases h with
    | cons _ t1 h => cases h with
      | cons _ t2 h => cases h with
        | cons _ t3 h => cases h with
          | cons _ t4 h => cases h with
            | cons _ t5 h => cases h with
              | nil => exact ⟨t0, t1, t2, t3, t4, t5, rfl⟩
  run_tac Mine.shrink
set_option maxHeartbeats 40000000 in
theorem terms_spec (w : World) (prog : Program) (hp : prog = PySem.Challenge.rw_rt0040_02.prog) (ns : List Int) (vn : List Value) (hin : IntsAre vn ns) (h60 : ns.length ≤ 60) (l : Addr) :
    Spec (hd02.heap_39 w.params) prog w 142 10 [.ref l] (fun h => ∃ n, h.get? l = some (W.listOf vn.toArray n)) (fun h h' r => ∃ D vt n c0 c1 c2 c3 c4 c5, r = .ref D ∧ h'.get? D = some (W.listOf vt.toArray n) ∧ IntsAre vt [c0, c1, c2, c3, c4, c5] ∧ (∀ c ∈ [c0, c1, c2, c3, c4, c5], 0 ≤ c ∧ c ≤ 300) ∧ h.get? D = none) := by
  run_tac Mine.mark
  revert hp; k_fill; intro hp
  intro p loose mean mg mb dp un gd cn cs a ccd cl outer A₀ base h₀ L m s Q E B F X T hkk hd hu hpre hQ
  obtain ⟨nl, hobj⟩ := hpre
  have hlst : s.heap.IsList l vn.toArray := ⟨_, hobj, rfl, _, rfl⟩
  refine wpAny_call ?_
  k_dflt first | walk_at "my enter" | walk_at "my enterC"
  k_steps
  rename Fr _ _ _ _ => F0
  rename News _ _ _ _ => N0
  refine SrcJ.range (n := 6) rfl F0 N0 (N0 _ (.head _)).1 (by decide +kernel) (by decide +kernel) (show 6 ≤ sizeLine by decide) (fun i zs nws => nws = _ ∧ ∃ xs : List Int, IntsAre zs xs ∧ xs.length = i ∧ ∀ x ∈ xs, 0 ≤ x ∧ x ≤ 255) ⟨rfl, [], .nil, rfl, fun _ h => nomatch h⟩ ?_ ?_
  · refine turn_nil ?_
    rintro i zs nws v I oI C cl' led D2 h2 tk2 E2 hin6 ⟨tv, rfl⟩ ⟨rfl, xs, hzs, hxl, hxb⟩ - hT' F2 N2 hoff2 hID2
    rcases hT' with ⟨oC, m₂, -, rfl, rfl, hns, hx⟩ | ⟨_, _, _, _, _, hl, _⟩
    · replace hx := hx _ rfl
      simp only [List.cons_append, List.nil_append] at N2
      clear F0 N0
      k_steps
      rename Fr _ _ _ _ => F3
      rename News _ _ _ _ => N3
      refine endJ_same (own := [(I, oI), (C, oC), (D2, PyProof.Rows.LCg.lst zs)]) F3 (fun p hp => N3 p (.tail _ hp)) hoff2 trivial ⟨rfl, _, IntsAre.append hzs (.cons _ _ .nil), by simp [hxl], fun x hx => ?_⟩
      rcases List.mem_append.mp hx with hx | hx
      · exact hxb x hx
      · rw [List.mem_singleton.mp hx, Int.fmod_eq_emod_of_nonneg _ (by decide)]; omega
    · exact absurd hl (by decide)
  · rintro D2 h2 tk2 zs nws F2 N2 hoff2 ⟨rfl, xs, hzs, hxl, hxb⟩
    obtain ⟨c0, c1, c2, c3, c4, c5, rfl⟩ := six_of hxl
    obtain ⟨u0, u1, u2, u3, u4, u5, rfl⟩ := ints_six hzs
    have b0 := hxb c0 (by simp)
    have b1 := hxb c1 (by simp)
    have b2 := hxb c2 (by simp)
    have b3 := hxb c3 (by simp)
    have b4 := hxb c4 (by simp)
    have b5 := hxb c5 (by simp)
    have hne2 := neAll_of hoff2
    dsimp only [neAll] at hne2
    obtain ⟨n1, n2, n3, n4, -⟩ := hne2
    clear F0 N0 hxb hxl hoff2
    k_steps
    · rename News _ _ _ _ => N9
      rename IntsAre _ (List.set (List.set (List.set _ _ _) _ _) _ _) => hf
      have hf : IntsAre _ [c0, c1 + (1 - c1.fmod 2), c2, c3, c4 + (c2 + c4).fmod 2, c5 + (c3 + c5).fmod 2] := hf
      refine hQ _ _ _ (Fr.keep (by k_asm)) ⟨_, _, _, _, _, _, _, _, _, rfl, (N9 _ (.head _)).1, hf, ?_, (N9 _ (.head _)).2.2⟩
      intro c hc
      simp only [List.mem_cons, List.not_mem_nil, or_false, Int.fmod_eq_emod_of_nonneg _ (show (0 : Int) ≤ 2 by decide)] at hc
      omega
    · rename News _ _ _ _ => N9
      refine hQ _ _ _ (Fr.keep (by k_asm)) ⟨_, _, _, _, _, _, _, _, _, rfl, (N9 _ (.head _)).1, hzs, ?_, (N9 _ (.head _)).2.2⟩
      intro c hc
      simp only [List.mem_cons, List.not_mem_nil, or_false] at hc
      omega
  run_tac Mine.shrink
end
local macro_rules | `(tactic| walk_at "call ref") => `(tactic| (k_here; k_dflt (refine' Spec.use (terms_spec _ _ ?hp _ _ ?j1 ?j2 _) ?k1 ?k2 ?k3 ?k5 ?kK ?kd ?ku ?kp ?_; walk_at "my use"; (case kp => exact ⟨_, News.get (by k_asm) (by walk_at "my mem")⟩); (case j1 => assumption); (case j2 => first | assumption | (rw [List.length_take]; omega)); k_whole); intro r' h' tk' g' F' o'; (obtain ⟨D', vt', nt', c0', c1', c2', c3', c4', c5', e', hm', hi', hb', nn'⟩ := o'); subst e'; (obtain ⟨N', ne'⟩ := news_made g' (by k_asm) (by assumption) hm' nn'); (clear hm' nn' g'); (simp only [neAll] at ne'); k_sweep; (try dsimp only); (try k_fold)))
section
local macro_rules | `(tactic| walk_at "my enterP") => `(tactic|
  (refine' code_defCP ?k1 ?k2 ?k3 ?k5 ?kN ?kA ?kF ?kK ?k6 ?k7 ?k8 ?k9 ?kB ?kD ?_ ?c2 ?c3 ?c4; (case kN => assumption); (case kA => exact rfl); (case kF => exact rfl); (case kK => assumption); (case k1 => k_asm); (case k2 => k_asm); (case k3 => k_asm); (case k5 => k_asm); (case k6 => k_is); (case k7 => k_is); (case k8 => ktr_room); (case k9 => first | exact BindsTo.of_eq rfl | exact binds_K (by first | k_in | exact Frag.In.keeps (by assumption) (Fr.keep (by assumption))) rfl (by k_is) rfl rfl rfl); (case kB => exact rfl); (case kD => decide +kernel); (case c2 => exact rfl); (case c3 => exact rfl); (case c4 => exact rfl); k_whole; intro g' L' h' tk' cells' st' gk' F' N' lP' Y' B' X' T'; k_cells Y'; (try simp only [List.cons_append, List.nil_append] at N'); (try dsimp only); (try k_fold)))
local macro_rules | `(tactic| walk_at "my enterL") => `(tactic|
  ((with_reducible rename BaseOf _ _ _ => qB); refine' code_lamS ?k1 ?k2 ?k3 ?k5 ?kA ?kF ?kK ?k6 ?k7 ?k8 ?k9 ?kB ?_ ?c2 ?c3 ?c4 ?c5; (case k6 => exact BaseOf.at' qB (by walk_at "my mem")); (case k7 => first | exact ⟨_, _, _, _, rfl, BaseOf.at' qB (by walk_at "my mem"), by assumption, by assumption⟩ | exact ⟨_, _, _, _, rfl, qB.1 _ _ (by assumption), by assumption, by assumption⟩); (case kA => exact rfl); (case kF => exact rfl); (case kK => assumption); (case k1 => k_asm); (case k2 => k_asm); (case k3 => k_asm); (case k5 => k_asm); (case k8 => ktr_room); (case k9 => exact rfl); (case kB => exact locs rfl); (case c2 => exact rfl); (case c3 => exact rfl); (case c4 => exact rfl); (case c5 => decide); k_whole; intro L' h' F' N' B' X' T'; (try dsimp only); (try k_fold)))
local macro_rules | `(tactic| walk_at "eval Name") => `(tactic| (k_here; (with_reducible show wpAny _ _ (eval (Expr.Name _ _) (envX _ _ _ _ _ _)) _ _ _); (with_reducible rename BaseOf _ _ _ => qB); k_dflt (refine' nameX_FG ?F ?c ?m ?d ?_ ?a ?b; (case a => rfl); (case b => rfl); (case F => k_asm); (case c => rfl); (case m => exact BaseOf.at' qB (by walk_at "my mem")); (case d => k_asm); k_whole)))
local macro_rules | `(tactic| walk_at "my pad") => `(tactic| fail)
local macro_rules | `(tactic| walk_at "my pad") => `(tactic| fail)
local macro_rules | `(tactic| walk_at "my pad") => `(tactic| fail)
local macro_rules | `(tactic| walk_at "my pad") => `(tactic| fail)
local macro_rules | `(tactic| walk_at "my pad") => `(tactic| fail)
theorem fold_rng (g : Int → Int → Int) (hg : ∀ a k, 0 ≤ g a k ∧ g a k ≤ 255) : ∀ (ks : List Int) (a : Int), (0 ≤ a ∧ a ≤ 255) → 0 ≤ ks.foldl g a ∧ ks.foldl g a ≤ 255
  | [], _, h => h
  | k :: ks, a, _ => fold_rng g hg ks (g a k) (hg a k)
theorem hor_step (a x c : Int) : (a % 256 * x + c) % 256 = (a * x + c) % 256 := by
  rw [Int.add_emod, Int.mul_emod, Int.emod_emod_of_dvd _ (Int.dvd_refl _), ← Int.mul_emod, ← Int.add_emod]
abbrev horG (cs : List Int) (x : Int) (a k : Int) : Int := (a * x + cs.getD k.toNat 0).fmod 256
theorem hor_rng (cs : List Int) (x a k : Int) : 0 ≤ horG cs x a k ∧ horG cs x a k ≤ 255 := by
  unfold horG
  rw [Int.fmod_eq_emod_of_nonneg _ (by decide)]
  omega
theorem hor_val (c0 c1 c2 c3 c4 c5 x : Int) : [5, 4, 3, 2, 1, 0].foldl (horG [c0, c1, c2, c3, c4, c5] x) 0 = ((valN c0 c1 c2 c3 c4 c5 x : Nat) : Int) := by
  run_tac Mine.mark
  have e : ((valN c0 c1 c2 c3 c4 c5 x : Nat) : Int) = polyZ c0 c1 c2 c3 c4 c5 x % 256 := Int.toNat_of_nonneg (Int.emod_nonneg _ (by decide))
  rw [e]
  simp only [List.foldl, horG, Int.fmod_eq_emod_of_nonneg _ (show (0 : Int) ≤ 256 by decide)]
  show ((((((0 * x + c5) % 256 * x + c4) % 256 * x + c3) % 256 * x + c2) % 256 * x + c1) % 256 * x + c0) % 256 = _
  have h : ∀ a c, (a % 256 * x + c) % 256 = (a * x + c) % 256 := fun a c => hor_step a x c
  rw [h (((((0 * x + c5) % 256 * x + c4) % 256 * x + c3) % 256 * x + c2) % 256 * x + c1) c0]
  have s1 : ∀ a b c, a % 256 = b % 256 → (a * x + c) % 256 = (b * x + c) % 256 := fun a b c e => by rw [← h a c, e, h b c]
  have e1 := s1 _ _ c4 (Int.emod_emod_of_dvd (0 * x + c5) (Int.dvd_refl 256))
  have e2 := s1 _ _ c3 ((Int.emod_emod_of_dvd _ (Int.dvd_refl 256)).trans e1)
  have e3 := s1 _ _ c2 ((Int.emod_emod_of_dvd _ (Int.dvd_refl 256)).trans e2)
  have e4 := s1 _ _ c1 ((Int.emod_emod_of_dvd _ (Int.dvd_refl 256)).trans e3)
  have e5 := s1 _ _ c0 ((Int.emod_emod_of_dvd _ (Int.dvd_refl 256)).trans e4)
  rw [← h, e5]
  congr 1
  unfold polyZ
  grind
  run_tac Mine.shrink
set_option maxHeartbeats 40000000 in
theorem value_spec (w : World) (prog : Program) (hp : prog = PySem.Challenge.rw_rt0040_02.prog) (c0 c1 c2 c3 c4 c5 x : Int) (hx : 0 ≤ x ∧ x ≤ 70000) (t1 : Tok) (lt : Addr) (vt : List Value) (hit : IntsAre vt [c0, c1, c2, c3, c4, c5]) (hc : ∀ c ∈ [c0, c1, c2, c3, c4, c5], 0 ≤ c ∧ c ≤ 300) :
    SpecT (hd02.heap_39 w.params) prog w 160 156 (Str.ofString "_law_value.<locals>.<lambda>") 159 18 161 20 [.ref lt, .int x t1] (fun h => ∃ n, h.get? lt = some (W.listOf vt.toArray n)) (fun _ _ r => ∃ t', r = .int ((valN c0 c1 c2 c3 c4 c5 x : Nat) : Int) t') := by
  run_tac Mine.mark
  revert hp; k_fill; intro hp
  intro tl p loose mean mg mb dp un gd cn cs a ccd cl outer A₀ base h₀ L m s Q E B F X T C0 NT hTab hk hd hu hpre hQ
  obtain ⟨nt, hpre⟩ := hpre
  refine wpAny_call ?_
  have hltP : lt ≠ 156 := by
    obtain ⟨ps, hm⟩ := hTab.mem
    rintro rfl
    have := (NT _ hm).1
    rw [hpre] at this
    exact absurd (congrArg Obj.data (Option.some.inj this)) (by intro q; cases q)
  rcases hTab with rfl | ⟨c', oc, vs, tq, rfl, hoc, hvs⟩
  rotate_left
  have hP := (NT _ (.head _)).1
  have hC := (NT _ (.tail _ (.head _))).1
  have hne := tab_ne hP hC hoc hvs
  have NP : News h₀ L s.heap [(156, tabObj #[rawInt 159, rawInt 18, .ref c'])] := fun q hq => NT q (by rw [List.mem_singleton.mp hq]; exact .head _)
  k_dflt walk_at "my enterP"
  rename ∀ b o, b ≠ _ → Heap.get? s.heap b = some o → Heap.get? _ b = some o => gk
  have hCg := gk _ _ hne hC
  rotate_left
  have NP := NT
  k_dflt walk_at "my enterP"
  rename ∀ b o, b ≠ _ → Heap.get? s.heap b = some o → Heap.get? _ b = some o => gk
  all_goals
    have C1 := CodeHd.keeps C0 (by assumption)
    have hltg := gk _ _ hltP hpre
    k_steps
    rename News _ _ _ _ => N1
    rename Fr _ _ _ _ => F1
    obtain ⟨Bs, hBs, hB⟩ := base_news F1 N1
    refine' Spec.use (reduce_int_spec w prog hp _ _ 0 _ _ [5, 4, 3, 2, 1, 0] ?his (horG [c0, c1, c2, c3, c4, c5] x) Bs (fun h h' g b => by rw [hBs] at b ⊢; exact b.grow g) ?hfn ?hcall) ?k1 ?k2 ?k3 ?k5 rfl ?kd ?ku ⟨⟨_, (N1 _ (.head _)).1, rfl, _, rfl⟩, hB⟩ ?_
    case k1 => k_asm
    case k2 => k_asm
    case k3 => k_asm
    case k5 => k_asm
    case kd => ktr_room
    case ku => ktr_units
    case his => exact .cons _ _ (.cons _ _ (.cons _ _ (.cons _ _ (.cons _ _ (.cons _ _ .nil)))))
    case hfn =>
      intro h1 hb1
      rw [hBs] at hb1
      exact ⟨_, _, _, _, hb1.2 _ (.tail _ (.head _))⟩
    case hcall =>
      intro i k t u hik
      intro p2 loose2 mean2 mg2 mb2 dp2 un2 gd2 cn2 cs2 a2 ccd2 cl2 outer2 A2 base2 h2 L2 m2 s2 Q2 E2 B2 F2 X2 T2 hk2 hd2 hu2 hpre2 hQ2
      rw [hBs] at hpre2
      have htl2 : s2.heap.IsList lt vt.toArray := ⟨_, hpre2.1 _ _ hltg, rfl, _, rfl⟩
      have hkb : 0 ≤ k ∧ k ≤ 5 := by
        have := List.mem_of_getElem? hik
        simp only [List.mem_cons, List.not_mem_nil, or_false] at this
        omega
      have hacc : 0 ≤ (List.take i [5, 4, 3, 2, 1, 0]).foldl (horG [c0, c1, c2, c3, c4, c5] x) 0 ∧ (List.take i [5, 4, 3, 2, 1, 0]).foldl (horG [c0, c1, c2, c3, c4, c5] x) 0 ≤ 255 := fold_rng _ (hor_rng _ _) _ _ ⟨by decide, by decide⟩
      generalize (List.take i [5, 4, 3, 2, 1, 0]).foldl (horG [c0, c1, c2, c3, c4, c5] x) 0 = acc at hacc hQ2 ⊢
      clear hpre N1 F1
      refine wpAny_call ?_
      k_dflt walk_at "my enterL"
      k_steps
      exact hQ2 _ _ _ (Fr.keep (by k_asm)) ⟨_, rfl⟩
    rintro r h9 tk9 g9 F9 ⟨t9, rfl⟩
    have N9 := news_grow' g9 N1
    rw [hor_val] at *
    clear F1 N1 g9 hB
    k_steps
    rename Fr _ _ _ _ => F3
    rename News _ _ _ _ => N3
  · rename Obj.data _ = Data.fields _ => d1
    rename (_ : Array Value)[1]? = some _ => d2
    obtain ⟨tl', ht1, ht2⟩ : ∃ tl', TabL 156 (Str.ofString "_law_value.<locals>.<lambda>") 159 18 tl' ∧ ∀ p ∈ tl', _ ∧ (p.1 = 156 ∨ p ∈ [(156, tabObj #[])] ∨ s.heap.get? p.1 = none) := by
      refine' tab_end gk N3 ?hc ?hP d1 d2 ?hl
      case hc => walk_at "my mem"
      case hP => walk_at "my mem"
      case hl => omega
    exact hQ _ _ _ _ (fun b o hb e => F3.keep _ _ (gk b o hb e)) ht1 ht2 ⟨_, rfl⟩
  · refine hQ _ _ _ _ (fun b o hb e => F3.keep _ _ (gk b o hb e)) (.inr ⟨c', oc, vs, tq, rfl, hoc, hvs⟩) (fun q hq => ⟨?_, .inr (.inl hq)⟩) ⟨_, rfl⟩
    rcases List.mem_cons.mp hq with rfl | hq
    · exact (N3 _ (by walk_at "my mem")).1
    · rw [List.mem_singleton.mp hq]; exact F3.keep _ _ hCg
  run_tac Mine.shrink
end
local macro_rules | `(tactic| walk_at "call ref") => `(tactic| (k_here; k_dflt (refine' SpecT.use (value_spec _ _ ?hp _ _ _ _ _ _ _ ?j1 _ _ _ ?j2 ?j3) ?k1 ?k2 ?k3 ?k5 ?kC ?kN ?kT ?kO ?kK ?kd ?ku ?kp ?_; walk_at "my use"; (case kp => exact ⟨_, News.get (by k_asm) (by walk_at "my mem")⟩); (case j1 => assumption); (case j2 => assumption); (case j3 => assumption); (case kC => k_asm); (case kN => k_asm); (case kT => assumption); (case kO => assumption); k_whole); intro r' h' tk' tl' F' N' hT' hO' o'; (try k_sweep); (try dsimp only at o'); (obtain ⟨t', o'⟩ := o'); subst o'; (try dsimp only); (try k_fold)))
local macro_rules | `(tactic| walk_at "my sub") => `(tactic| repeat' (first | exact sub_nil | refine sub_app ?_ ?_ | refine sub_cons ?_ ?_ | (walk_at "my mem") | (intro q hq; walk_at "my mem")))
local macro_rules | `(tactic| walk_at "my pad") => `(tactic| fail)
local macro_rules | `(tactic| walk_at "my pad") => `(tactic| fail)
local macro_rules | `(tactic| walk_at "my pad") => `(tactic| fail)
local macro_rules | `(tactic| walk_at "my pad") => `(tactic| fail)
local macro_rules | `(tactic| walk_at "my pad") => `(tactic| fail)
local macro_rules | `(tactic| walk_at "my pad") => `(tactic| fail)
local macro_rules | `(tactic| walk_at "my pad") => `(tactic| fail)
theorem path_spec2 (w : World) (prog : Program) (hp : prog = PySem.Challenge.rw_rt0040_02.prog) (z : Int) (k : Nat) (t u : Tok) (h0 : 0 ≤ z) (h1 : z < 256) (hk : k ≤ 24) : Spec (hd02.heap_39 w.params) prog w 154 20 [.int z t, .int k u] (fun _ => True) (fun _ _ r => ∃ t', r = .str (pathOf (flagNames (z.toNat * 2 ^ k))) t') := by
  obtain ⟨n, rfl⟩ := Int.eq_ofNat_of_zero_le h0
  exact path_spec w prog hp n k t u (by omega) (by omega) (flag_room8 (by omega) hk)
theorem val_bound (c0 c1 c2 c3 c4 c5 x : Int) : 0 ≤ ((valN c0 c1 c2 c3 c4 c5 x : Nat) : Int) ∧ ((valN c0 c1 c2 c3 c4 c5 x : Nat) : Int) < 256 := by
  have := val_lt c0 c1 c2 c3 c4 c5 x
  omega
local macro_rules | `(tactic| walk_at "call ref") => `(tactic| (k_here; k_dflt (refine' Spec.use (path_spec2 _ _ ?hp _ _ _ _ ?j1 ?j2 ?j3) ?k1 ?k2 ?k3 ?k5 ?kK ?kd ?ku trivial ?_; walk_at "my use"; (case j1 => first | assumption | exact (val_bound _ _ _ _ _ _ _).1 | exact (mod256 _).1); (case j2 => first | assumption | exact (val_bound _ _ _ _ _ _ _).2 | exact (mod256 _).2); (case j3 => assumption); k_whole); intro r' h' tk' g' F' o'; (have N' := news_grow' g' (by assumption)); clear g'; k_sweep; (try dsimp only at o'); (obtain ⟨t', o'⟩ := o'); subst o'; (try dsimp only); (try k_fold)))
section
local macro_rules | `(tactic| walk_at "exec For Name Call cons nil") => `(tactic| (k_here; k_dflt (refine' forH ?F ?_; (case F => k_asm)); k_whole))
local macro_rules | `(tactic| walk_at "call type:range") => `(tactic| (k_here; k_dflt (refine' range_news ?k1 ?k2 ?_; (case k1 => k_asm); (case k2 => k_asm); k_whole); intro r' h' tk' u' v' F' N' l1; (try k_lt l1); (try k_sweep)))
set_option maxHeartbeats 40000000 in
theorem stageF (w : World) (prog : Program) (hp : prog = PySem.Challenge.rw_rt0040_02.prog) {p : Program} {loose : List Str} {mean : ExcName → Option Value} {mg mb : Str → Option Value} {h₀ : Heap} {L fa Dt Dw : Addr} {cd : Value} {m₀ : Str → Option Value} {tl : List (Addr × Obj)} {vt vw : List Value} {c0 c1 c2 c3 c4 c5 total : Int} {k0 nt nw : Nat} {v1 v2 v3 : Value} {t1 t4 : Tok} {owo osh ote : Obj}
    (B : Below callerA h₀ [] h₀) (X : (hd02.heap_39 w.params).In h₀) (T : Top p loose mean mg mb h₀) (C0 : CodeHd h₀ 160 156) (s : Shared)
    (F : Fr h₀ L s.heap (fun y => if y = Str.ofString "good" then some v3 else if y = Str.ofString "partings" then some v2 else if y = Str.ofString "first" then some v1 else if y = Str.ofString "total" then some (.int total t1) else m₀ y))
    (N : News h₀ L s.heap (((Dw, W.listOf vw.toArray nw) :: (Dt, W.listOf vt.toArray nt) :: (L + 1 + 1 + 1 + 1, owo) :: (L + 1 + 1 + 1, osh) :: (L + 1, ote) :: []) ++ tl))
    (hT : TabL 156 (Str.ofString "_law_value.<locals>.<lambda>") 159 18 tl)
    (hwo : owo.data = .cell (some (.ref Dw))) (hsh : osh.data = .cell (some (.int ((k0 : Nat) : Int) t4))) (hte : ote.data = .cell (some (.ref Dt)))
    (hIt : IntsAre vt [c0, c1, c2, c3, c4, c5]) (hc : ∀ c ∈ [c0, c1, c2, c3, c4, c5], 0 ≤ c ∧ c ≤ 300) (hIw : StrsAre vw (wordsOf 8 k0)) (hk0 : k0 ≤ 24) (hgood : goodP c1 c2 c3 c4 c5)
    (Q : Flow → Shared → Prop) (E : Value → Shared → Prop) (hE : PassesOwn (model prog w) (callerA.deeper (envOfC (Str.ofString "law") (lastScope PySem.Challenge.rw_rt0040_02.prog) L fa cd)) (envOfC (Str.ofString "law") (lastScope PySem.Challenge.rw_rt0040_02.prog) L fa cd) E) (hQ : ∀ h' tk' m', Fr h₀ L h' m' → (∃ ps, h'.get? 156 = some (tabObj ps)) → Q (.ret (.bool true)) { s with heap := h', toks := tk' }) :
    wpAny (model prog w) (callerA.deeper (envOfC (Str.ofString "law") (lastScope PySem.Challenge.rw_rt0040_02.prog) L fa cd)) (execs ((lastDef PySem.Challenge.rw_rt0040_02.prog).drop 14) (envOfC (Str.ofString "law") (lastScope PySem.Challenge.rw_rt0040_02.prog) L fa cd)) Q E s := by
  run_tac Mine.mark
  revert hp X; k_fill; intro hp X
  obtain ⟨sc, hs⟩ : ∃ sc, lastScope PySem.Challenge.rw_rt0040_02.prog = sc := ⟨_, rfl⟩
  rw [hs] at hE ⊢
  conv at hs => lhs; whnf
  subst hs
  show wpAny _ _ (execs (_ :: _ :: _ :: _ :: []) _) _ _ _
  k_steps
  rename Fr _ _ _ _ => F0
  rename News _ _ _ _ => N0
  have hzb := mod256 (total.fdiv 256 + 203)
  generalize hzW : (total.fdiv 256 + 203).fmod 256 = zW at F0 hzb
  obtain ⟨m₁, hm₁, F1⟩ := fr_named F0
  have N1 := news_sub (l := ((Dw, W.listOf vw.toArray nw) :: (Dt, W.listOf vt.toArray nt) :: (L + 1 + 1 + 1 + 1, owo) :: (L + 1 + 1 + 1, osh) :: (L + 1, ote) :: []) ++ tl) N0 (fun q hq => .tail _ hq)
  refine LoopH.range (n := 8) rfl F1 N1 (N0 _ (.head _)).1 (by decide) (fun i m' nw' => ∃ tl' t', nw' = ((Dw, W.listOf vw.toArray nw) :: (Dt, W.listOf vt.toArray nt) :: (L + 1 + 1 + 1 + 1, owo) :: (L + 1 + 1 + 1, osh) :: (L + 1, ote) :: []) ++ tl' ∧ TabL 156 (Str.ofString "_law_value.<locals>.<lambda>") 159 18 tl' ∧ Acc2 (Str.ofString "k") (Str.ofString "parting") (Str.ofString "found") m₁ (.int ((foundN 8 (valN c0 c1 c2 c3 c4 c5) zW.toNat i : Nat) : Int) t') m') ⟨tl, _, rfl, hT, Acc2.next (by rw [hm₁]; rfl) fun _ _ _ _ => rfl⟩ ?_ ?_
  · rintro I i t m2 nw' h tk hin hnI hLI - ⟨tl', t', rfl, hT', u1, u2, rfl⟩ F3 N3
    have hnf : noField ((Dw, W.listOf vw.toArray nw) :: (Dt, W.listOf vt.toArray nt) :: (L + 1 + 1 + 1 + 1, owo) :: (L + 1 + 1 + 1, osh) :: (L + 1, ote) :: []) := ⟨(fun _ q => by cases q), (fun _ q => by cases q), (fun _ q => by rw [hwo] at q; cases q), (fun _ q => by rw [hsh] at q; cases q), (fun _ q => by rw [hte] at q; cases q), trivial⟩
    have hO1 := tab_off (News.tail N3) hT' hnf
    have hO2 : OffL tl' ((I, rngIt ((i + 1 : Nat) : Int) (8 : Nat)) :: ((Dw, W.listOf vw.toArray nw) :: (Dt, W.listOf vt.toArray nt) :: (L + 1 + 1 + 1 + 1, owo) :: (L + 1 + 1 + 1, osh) :: (L + 1, ote) :: [])) := fun p hp q hq => by
      rcases List.mem_cons.mp hq with rfl | hq
      · exact hnI p (List.mem_append_right _ hp)
      · exact hO1 p hp q hq
    have N4 : News h₀ L h (((I, rngIt ((i + 1 : Nat) : Int) (8 : Nat)) :: ((Dw, W.listOf vw.toArray nw) :: (Dt, W.listOf vt.toArray nt) :: (L + 1 + 1 + 1 + 1, owo) :: (L + 1 + 1 + 1, osh) :: (L + 1, ote) :: [])) ++ tl') := N3
    have hIso := val_iso (c0 := c0) hgood
    have hfl := found_lt 8 (valN c0 c1 c2 c3 c4 c5) zW.toNat i
    have hf27 : 2 ^ i ≤ 2 ^ 8 := Nat.pow_le_pow_right (by decide) (Nat.le_of_lt hin)
    have hpart := found_part hIso zW.toNat i hin
    have hnext : foundN 8 (valN c0 c1 c2 c3 c4 c5) zW.toNat (i + 1) = foundN 8 (valN c0 c1 c2 c3 c4 c5) zW.toNat i + if lowDiff 8 (valN c0 c1 c2 c3 c4 c5 (foundN 8 (valN c0 c1 c2 c3 c4 c5) zW.toNat i)) zW.toNat = i then 2 ^ i else 0 := rfl
    rw [hnext]
    generalize foundN 8 (valN c0 c1 c2 c3 c4 c5) zW.toNat i = f at hfl hpart F3 ⊢
    have hf5 : 0 ≤ ((f : Nat) : Int) ∧ ((f : Nat) : Int) ≤ 70000 := by omega
    have hg1 : GoodRow (flagNames (((valN c0 c1 c2 c3 c4 c5 f : Nat) : Int).toNat * 2 ^ k0)) := goodRow_names _ (flag_room8 (val_lt c0 c1 c2 c3 c4 c5 f) hk0)
    have hg2 : GoodRow (flagNames (zW.toNat * 2 ^ k0)) := goodRow_names _ (flag_room8 (by omega) hk0)
    have hw8 : (wordsOf 8 k0).length ≤ 8 := by rw [words_len]; decide
    have hpz : partZ 8 (flagNames (((valN c0 c1 c2 c3 c4 c5 f : Nat) : Int).toNat * 2 ^ k0)) (flagNames (zW.toNat * 2 ^ k0)) (wordsOf 8 k0) = ((lowDiff 8 (valN c0 c1 c2 c3 c4 c5 f) zW.toNat : Nat) : Int) := by
      rw [Int.toNat_natCast, names_due (by omega) (val_lt c0 c1 c2 c3 c4 c5 f), names_due (by omega) (show zW.toNat < 2 ^ 8 by omega)]
      exact part_low (wordsOf_ok (by omega)) _ _
    subst hm₁
    clear F0 N0 F1 N1 N3 hO1 hnf hnext
    k_steps
    all_goals
      rename Fr _ _ _ _ => F5
      rename News _ _ _ _ => N5
      rename OffL _ _ => hO5
      rename TabL _ _ _ _ _ => hT5
      have hI5 := fun q (hq : q ∈ ((Dw, W.listOf vw.toArray nw) :: (Dt, W.listOf vt.toArray nt) :: (L + 1 + 1 + 1 + 1, owo) :: (L + 1 + 1 + 1, osh) :: (L + 1, ote) :: []) ++ _) => (List.mem_append.mp hq).elim (fun hq => hnI q (List.mem_append_left _ hq)) fun hq => hO5 q hq _ (.head _)
      rw [hpz] at *
    · rename (_ : Int) = _ => hc'
      have e : lowDiff 8 (valN c0 c1 c2 c3 c4 c5 f) zW.toNat = i := by omega
      refine ⟨_, _, _, _, rfl, F5, N5, hI5, _, _, rfl, hT5, Acc2.int rfl ?_ fun z h1 h2 h3 => by simp only [if_neg h1, if_neg h2, if_neg h3]⟩
      rw [if_pos e, Int.toNat_natCast]
      push_cast; rfl
    · rename ¬ (_ : Int) = _ => hc'
      have e : ¬ lowDiff 8 (valN c0 c1 c2 c3 c4 c5 f) zW.toNat = i := by omega
      refine ⟨_, _, _, _, rfl, F5, N5, hI5, _, _, rfl, hT5, Acc2.int rfl ?_ fun z h1 h2 h3 => by simp only [if_neg h1, if_neg h2, if_neg h3]⟩
      rw [if_neg e]
      simp
  · rintro h tk m2 nw' F3 N3 ⟨tl', t', rfl, hT', u1, u2, rfl⟩
    have hnf : noField ((Dw, W.listOf vw.toArray nw) :: (Dt, W.listOf vt.toArray nt) :: (L + 1 + 1 + 1 + 1, owo) :: (L + 1 + 1 + 1, osh) :: (L + 1, ote) :: []) := ⟨(fun _ q => by cases q), (fun _ q => by cases q), (fun _ q => by rw [hwo] at q; cases q), (fun _ q => by rw [hsh] at q; cases q), (fun _ q => by rw [hte] at q; cases q), trivial⟩
    have hO1 := tab_off N3 hT' hnf
    have hIso := val_iso (c0 := c0) hgood
    have hfl := found_lt 8 (valN c0 c1 c2 c3 c4 c5) zW.toNat 8
    have hend := found_end hIso (show zW.toNat < 2 ^ 8 by omega) (val_lt c0 c1 c2 c3 c4 c5)
    generalize foundN 8 (valN c0 c1 c2 c3 c4 c5) zW.toNat 8 = f at hfl hend F3
    have hf5 : 0 ≤ ((f : Nat) : Int) ∧ ((f : Nat) : Int) ≤ 70000 := by omega
    have heq : (((valN c0 c1 c2 c3 c4 c5 f : Nat) : Int)).toNat = zW.toNat := by rw [Int.toNat_natCast, hend]
    subst hm₁
    clear F0 N0 F1 N1 hnf
    dsimp only
    k_steps
    rw [heq, beq_self_eq_true]
    rename Fr _ _ _ _ => F5
    rename News _ _ _ _ => N5
    rename TabL _ _ _ _ _ => hT5
    obtain ⟨ps, hm⟩ := hT5.mem
    exact hQ _ _ _ F5 ⟨ps, (N5 _ (List.mem_append_right _ hm)).1⟩
  run_tac Mine.shrink
end
local macro_rules | `(tactic| walk_at "execs cons") => `(tactic| (k_here; (with_reducible show wpAny _ _ (execs (Stmt.Assign [Expr.Name (Str.ofString "wanted") _] _ _ :: _) _) _ _ _); refine stop_at ?_))
section
local macro_rules | `(tactic| walk_at "eval ListComp") => `(tactic| (k_here; k_dflt (refine' ListComp_O ?F ?c ?l ?k ?x ?y ?xy ?n ?_ ?s ?s1; (case F => k_asm); (case c => first | exact rfl | with_unfolding_all rfl); (case l => decide); (case k => rfl); (case x => rfl); (case y => rfl); (case xy => decide); (case n => decide); (case s => exact fun _ _ => rfl); (case s1 => exact fun _ => rfl); k_whole)))
local macro_rules | `(tactic| walk_at "call type:range") => `(tactic| (k_here; k_dflt (refine' range_news ?k1 ?k2 ?_; (case k1 => k_asm); (case k2 => k_asm); k_whole); intro r' h' tk' u' v' F' N' l1; (try k_lt l1); (try k_sweep)))
local macro_rules | `(tactic| walk_at "subscriptTail") => `(tactic| (k_here; (with_reducible show wpAny _ _ (subscriptTail _ _ (Value.ref _) (Value.int _ _)) _ _ _); k_dflt (refine' item_ints_at ?N ?m ?i ?x ?l ?_; (case N => k_asm); (case m => exact ⟨_, by walk_at "my mem"⟩); (case i => assumption); (case x => assumption); (case l => assumption); k_whole); intro t'))
set_option maxHeartbeats 40000000 in
theorem stageE (w : World) (prog : Program) (hp : prog = PySem.Challenge.rw_rt0040_02.prog) {p : Program} {loose : List Str} {mean : ExcName → Option Value} {mg mb : Str → Option Value} {h₀ : Heap} {L fa Dg Dp Dt Dw : Addr} {cd : Value} {m₀ : Str → Option Value} {tl : List (Addr × Obj)} {vg vp vt vw : List Value} {c0 c1 c2 c3 c4 c5 total t v : Int} {b : Bool} {k0 nt nw : Nat} {v1 : Value} {t1 t4 : Tok} {owo osh opl ote : Obj}
    (B : Below callerA h₀ [] h₀) (X : (hd02.heap_39 w.params).In h₀) (T : Top p loose mean mg mb h₀) (C0 : CodeHd h₀ 160 156) (s : Shared)
    (F : Fr h₀ L s.heap (fun y => if y = Str.ofString "good" then some (.bool b) else if y = Str.ofString "partings" then some (.ref Dg) else if y = Str.ofString "first" then some v1 else if y = Str.ofString "total" then some (.int total t1) else m₀ y))
    (N : News h₀ L s.heap (((Dg, PyProof.Rows.LCg.lst vg) :: (Dw, W.listOf vw.toArray nw) :: (Dp, W.listOf vp.toArray 0) :: (Dt, W.listOf vt.toArray nt) :: (L + 1 + 1 + 1 + 1, owo) :: (L + 1 + 1 + 1, osh) :: (L + 1 + 1, opl) :: (L + 1, ote) :: []) ++ tl))
    (hT : TabL 156 (Str.ofString "_law_value.<locals>.<lambda>") 159 18 tl)
    (hwo : owo.data = .cell (some (.ref Dw))) (hsh : osh.data = .cell (some (.int ((k0 : Nat) : Int) t4))) (hpl : opl.data = .cell (some (.ref Dp))) (hte : ote.data = .cell (some (.ref Dt)))
    (hIg : IntsAre vg (pairsZ (gotZ c0 c1 c2 c3 c4 c5 (placesL t v)) 5)) (hIp : IntsAre vp (placesL t v)) (hIt : IntsAre vt [c0, c1, c2, c3, c4, c5]) (hc : ∀ c ∈ [c0, c1, c2, c3, c4, c5], 0 ≤ c ∧ c ≤ 300) (hIw : StrsAre vw (wordsOf 8 k0)) (hk0 : k0 ≤ 24) (ht : 0 ≤ t ∧ t ≤ 300) (hv : 0 ≤ v ∧ v ≤ 65536) (hb : b = true ↔ goodP c1 c2 c3 c4 c5)
    (Q : Flow → Shared → Prop) (E : Value → Shared → Prop) (hE : PassesOwn (model prog w) (callerA.deeper (envOfC (Str.ofString "law") (lastScope PySem.Challenge.rw_rt0040_02.prog) L fa cd)) (envOfC (Str.ofString "law") (lastScope PySem.Challenge.rw_rt0040_02.prog) L fa cd) E) (hQ : ∀ h' tk' m', Fr h₀ L h' m' → (∃ ps, h'.get? 156 = some (tabObj ps)) → Q (.ret (.bool true)) { s with heap := h', toks := tk' }) :
    wpAny (model prog w) (callerA.deeper (envOfC (Str.ofString "law") (lastScope PySem.Challenge.rw_rt0040_02.prog) L fa cd)) (execs ((lastDef PySem.Challenge.rw_rt0040_02.prog).drop 12) (envOfC (Str.ofString "law") (lastScope PySem.Challenge.rw_rt0040_02.prog) L fa cd)) Q E s := by
  run_tac Mine.mark
  revert hp X; k_fill; intro hp X
  obtain ⟨sc, hs⟩ : ∃ sc, lastScope PySem.Challenge.rw_rt0040_02.prog = sc := ⟨_, rfl⟩
  rw [hs] at hE ⊢
  conv at hs => lhs; whnf
  subst hs
  show wpAny _ _ (execs (_ :: _ :: _ :: _ :: _ :: _ :: []) _) _ _ _
  k_steps
  rename Fr _ _ _ _ => F0
  rename News _ _ _ _ => N0
  refine pairs_range (n := 5) (twoZ (placesL t v)) rfl (by decide) F0 N0 (N0 _ (.head _)).1 (by decide) ?_ ?_ ?_
  · rintro i t' ys h tk C D I oC oI mc Q' E' hi hns hmx F1 N1 hQ'
    clear F0 N0
    k_steps
    rename Fr _ _ _ _ => F2
    rename News _ _ _ _ => N2
    exact hQ' _ _ _ _ _ _ F2 (News.tail N2) (N2 _ (.head _)).1
  · rintro i j t' u' ys h tk C D I J oC oI oJ mc E' hi hj hns hmx hmy F1 N1
    obtain ⟨xi, hxi, -, -⟩ := places_at hi ht hv
    obtain ⟨xj, hxj, -, -⟩ := places_at (show j < 5 by omega) ht hv
    have hl5 : (placesL t v).length ≤ 1000000 := show 5 ≤ 1000000 by decide
    clear F0 N0
    k_steps
    rename Fr _ _ _ _ => F2
    rename News _ _ _ _ => N2
    exact ⟨_, _, _, by unfold twoZ; rw [getD_of hxi, getD_of hxj], rfl, F2, N2⟩
  · rintro D h tk ys F1 N1 hoff hys
    have hdb : (decide (pairsZ (gotZ c0 c1 c2 c3 c4 c5 (placesL t v)) 5 = pairsZ (twoZ (placesL t v)) 5) != b) = false := by
      have h1 : (pairsZ (gotZ c0 c1 c2 c3 c4 c5 (placesL t v)) 5 = pairsZ (twoZ (placesL t v)) 5) ↔ b = true := pairs_iff.trans hb.symm
      simp only [h1]
      cases b <;> rfl
    clear F0 N0
    k_steps
    · refine Stop.mk ?_
      rename b = true => hbt
      refine stageF (nw := nw) (nt := nt) w prog hp B X T C0 _ F1 (news_sub N1 ?_) hT hwo hsh hte hIt hc hIw hk0 (hb.mp hbt) Q E hE hQ
      walk_at "my sub"
    · obtain ⟨ps, hm⟩ := hT.mem
      exact hQ _ _ _ F1 ⟨ps, (N1 _ (.tail _ (.tail _ (List.mem_append_right _ hm)))).1⟩
  run_tac Mine.shrink
end
local macro_rules | `(tactic| walk_at "execs cons") => `(tactic| (k_here; (with_reducible show wpAny _ _ (execs (Stmt.If (Expr.Compare _ [CmpOp.NotEq] [Expr.Name (Str.ofString "good") _] _) _ _ _ :: _) _) _ _ _); refine stop_at ?_))
section
local macro_rules | `(tactic| walk_at "my pad") => `(tactic| fail)
theorem good_iff3 {c1 c2 c3 c4 c5 : Int} (h1 : c1.fmod 2 = 1) (h2 : (c2 + c4).fmod 2 = 0) : ((c3 + c5).fmod 2 == 0) = true ↔ goodP c1 c2 c3 c4 c5 := by
  rw [Int.fmod_eq_emod_of_nonneg _ (by decide)] at *
  rw [beq_iff_eq]
  exact ⟨fun h => ⟨h1, h2, h⟩, fun h => h.2.2⟩
theorem good_iff2 {c1 c2 c3 c4 c5 : Int} (h2 : (c2 + c4).fmod 2 ≠ 0) : ((c2 + c4).fmod 2 == 0) = true ↔ goodP c1 c2 c3 c4 c5 := by
  rw [Int.fmod_eq_emod_of_nonneg _ (by decide)] at *
  rw [beq_iff_eq]
  exact ⟨fun h => absurd h h2, fun h => h.2.1⟩
theorem good_iff1 {c1 c2 c3 c4 c5 : Int} (h1 : c1.fmod 2 ≠ 1) : (c1.fmod 2 == 1) = true ↔ goodP c1 c2 c3 c4 c5 := by
  rw [Int.fmod_eq_emod_of_nonneg _ (by decide)] at *
  rw [beq_iff_eq]
  exact ⟨fun h => absurd h h1, fun h => h.1⟩
set_option maxHeartbeats 40000000 in
theorem stageG (w : World) (prog : Program) (hp : prog = PySem.Challenge.rw_rt0040_02.prog) {p : Program} {loose : List Str} {mean : ExcName → Option Value} {mg mb : Str → Option Value} {h₀ : Heap} {L fa Dg Dp Dt Dw : Addr} {cd : Value} {m₀ : Str → Option Value} {tl : List (Addr × Obj)} {vg vp vt vw : List Value} {c0 c1 c2 c3 c4 c5 total t v : Int} {k0 nt nw : Nat} {v1 : Value} {t1 t4 : Tok} {owo osh opl ote : Obj}
    (B : Below callerA h₀ [] h₀) (X : (hd02.heap_39 w.params).In h₀) (T : Top p loose mean mg mb h₀) (C0 : CodeHd h₀ 160 156) (s : Shared)
    (F : Fr h₀ L s.heap (fun y => if y = Str.ofString "partings" then some (.ref Dg) else if y = Str.ofString "first" then some v1 else if y = Str.ofString "total" then some (.int total t1) else m₀ y))
    (N : News h₀ L s.heap (((Dg, PyProof.Rows.LCg.lst vg) :: (Dw, W.listOf vw.toArray nw) :: (Dp, W.listOf vp.toArray 0) :: (Dt, W.listOf vt.toArray nt) :: (L + 1 + 1 + 1 + 1, owo) :: (L + 1 + 1 + 1, osh) :: (L + 1 + 1, opl) :: (L + 1, ote) :: []) ++ tl))
    (hT : TabL 156 (Str.ofString "_law_value.<locals>.<lambda>") 159 18 tl)
    (hwo : owo.data = .cell (some (.ref Dw))) (hsh : osh.data = .cell (some (.int ((k0 : Nat) : Int) t4))) (hpl : opl.data = .cell (some (.ref Dp))) (hte : ote.data = .cell (some (.ref Dt)))
    (hIg : IntsAre vg (pairsZ (gotZ c0 c1 c2 c3 c4 c5 (placesL t v)) 5)) (hIp : IntsAre vp (placesL t v)) (hIt : IntsAre vt [c0, c1, c2, c3, c4, c5]) (hc : ∀ c ∈ [c0, c1, c2, c3, c4, c5], 0 ≤ c ∧ c ≤ 300) (hIw : StrsAre vw (wordsOf 8 k0)) (hk0 : k0 ≤ 24) (ht : 0 ≤ t ∧ t ≤ 300) (hv : 0 ≤ v ∧ v ≤ 65536)
    (Q : Flow → Shared → Prop) (E : Value → Shared → Prop) (hE : PassesOwn (model prog w) (callerA.deeper (envOfC (Str.ofString "law") (lastScope PySem.Challenge.rw_rt0040_02.prog) L fa cd)) (envOfC (Str.ofString "law") (lastScope PySem.Challenge.rw_rt0040_02.prog) L fa cd) E) (hQ : ∀ h' tk' m', Fr h₀ L h' m' → (∃ ps, h'.get? 156 = some (tabObj ps)) → Q (.ret (.bool true)) { s with heap := h', toks := tk' }) :
    wpAny (model prog w) (callerA.deeper (envOfC (Str.ofString "law") (lastScope PySem.Challenge.rw_rt0040_02.prog) L fa cd)) (execs ((lastDef PySem.Challenge.rw_rt0040_02.prog).drop 11) (envOfC (Str.ofString "law") (lastScope PySem.Challenge.rw_rt0040_02.prog) L fa cd)) Q E s := by
  run_tac Mine.mark
  revert hp X; k_fill; intro hp X
  obtain ⟨sc, hs⟩ : ∃ sc, lastScope PySem.Challenge.rw_rt0040_02.prog = sc := ⟨_, rfl⟩
  rw [hs] at hE ⊢
  conv at hs => lhs; whnf
  subst hs
  show wpAny _ _ (execs (_ :: _ :: _ :: _ :: _ :: _ :: _ :: []) _) _ _ _
  k_steps
  all_goals
    refine Stop.mk ?_
    rename Fr _ _ _ _ => F9
    rename News _ _ _ _ => N9
    refine stageE (nw := nw) (nt := nt) w prog hp B X T C0 _ F9 (news_sub N9 ?_) hT hwo hsh hpl hte hIg hIp hIt hc hIw hk0 ht hv ?_ Q E hE hQ
    · walk_at "my sub"
    · first | exact good_iff3 (by assumption) (by assumption) | exact good_iff2 (by assumption) | exact good_iff1 (by assumption)
  run_tac Mine.shrink
end
local macro_rules | `(tactic| walk_at "execs cons") => `(tactic| (k_here; (with_reducible show wpAny _ _ (execs (Stmt.Assign [Expr.Name (Str.ofString "good") _] _ _ :: _) _) _ _ _); refine stop_at ?_))
section
local macro_rules | `(tactic| walk_at "exec Assign cons ListComp") => `(tactic| (k_here; k_dflt (refine' Assign_ListComp_O ?F ?e ?w ?c ?l ?k ?x ?y ?xy ?n ?z ?p ?_ ?s ?s1; (case F => k_asm); (case e => rfl); (case w => with_unfolding_all rfl); (case c => first | exact rfl | with_unfolding_all rfl); (case l => decide); (case k => rfl); (case x => rfl); (case y => rfl); (case xy => decide); (case n => decide); (case z => rfl); (case p => rfl); (case s => exact fun _ _ => rfl); (case s1 => exact fun _ => rfl); k_whole)))
local macro_rules | `(tactic| walk_at "call type:range") => `(tactic| (k_here; k_dflt (refine' range_news ?k1 ?k2 ?_; (case k1 => k_asm); (case k2 => k_asm); k_whole); intro r' h' tk' u' v' F' N' l1; (try k_lt l1); (try k_sweep)))
local macro_rules | `(tactic| walk_at "subscriptTail") => `(tactic| (k_here; (with_reducible show wpAny _ _ (subscriptTail _ _ (Value.ref _) (Value.int _ _)) _ _ _); k_dflt (refine' item_strs_at ?N ?m ?i ?x ?l ?_; (case N => k_asm); (case m => exact ⟨_, by walk_at "my mem"⟩); (case i => assumption); (case x => assumption); (case l => assumption); k_whole); intro t'))
set_option maxHeartbeats 40000000 in
theorem stageD (w : World) (prog : Program) (hp : prog = PySem.Challenge.rw_rt0040_02.prog) {p : Program} {loose : List Str} {mean : ExcName → Option Value} {mg mb : Str → Option Value} {h₀ : Heap} {L fa Dq Dp Dt Dw : Addr} {cd : Value} {m₀ : Str → Option Value} {tl : List (Addr × Obj)} {vq vp vt vw : List Value} {c0 c1 c2 c3 c4 c5 total t v : Int} {k0 nt nw : Nat} {v1 : Value} {t1 t4 : Tok} {opa owo osh opl ote : Obj}
    (B : Below callerA h₀ [] h₀) (X : (hd02.heap_39 w.params).In h₀) (T : Top p loose mean mg mb h₀) (C0 : CodeHd h₀ 160 156) (s : Shared)
    (F : Fr h₀ L s.heap (fun y => if y = Str.ofString "first" then some v1 else if y = Str.ofString "total" then some (.int total t1) else m₀ y))
    (N : News h₀ L s.heap (((Dq, PyProof.Rows.LCg.lst vq) :: (Dw, W.listOf vw.toArray nw) :: (Dp, W.listOf vp.toArray 0) :: (Dt, W.listOf vt.toArray nt) :: (L + 1 + 1 + 1 + 1 + 1, opa) :: (L + 1 + 1 + 1 + 1, owo) :: (L + 1 + 1 + 1, osh) :: (L + 1 + 1, opl) :: (L + 1, ote) :: []) ++ tl))
    (hT : TabL 156 (Str.ofString "_law_value.<locals>.<lambda>") 159 18 tl)
    (hpa : opa.data = .cell (some (.ref Dq))) (hwo : owo.data = .cell (some (.ref Dw))) (hsh : osh.data = .cell (some (.int ((k0 : Nat) : Int) t4))) (hpl : opl.data = .cell (some (.ref Dp))) (hte : ote.data = .cell (some (.ref Dt)))
    (hIq : StrsAre vq ((rowsV c0 c1 c2 c3 c4 c5 k0 (placesL t v)).map pathOf)) (hIp : IntsAre vp (placesL t v)) (hIt : IntsAre vt [c0, c1, c2, c3, c4, c5]) (hc : ∀ c ∈ [c0, c1, c2, c3, c4, c5], 0 ≤ c ∧ c ≤ 300) (hIw : StrsAre vw (wordsOf 8 k0)) (hk0 : k0 ≤ 24) (ht : 0 ≤ t ∧ t ≤ 300) (hv : 0 ≤ v ∧ v ≤ 65536)
    (Q : Flow → Shared → Prop) (E : Value → Shared → Prop) (hE : PassesOwn (model prog w) (callerA.deeper (envOfC (Str.ofString "law") (lastScope PySem.Challenge.rw_rt0040_02.prog) L fa cd)) (envOfC (Str.ofString "law") (lastScope PySem.Challenge.rw_rt0040_02.prog) L fa cd) E) (hQ : ∀ h' tk' m', Fr h₀ L h' m' → (∃ ps, h'.get? 156 = some (tabObj ps)) → Q (.ret (.bool true)) { s with heap := h', toks := tk' }) :
    wpAny (model prog w) (callerA.deeper (envOfC (Str.ofString "law") (lastScope PySem.Challenge.rw_rt0040_02.prog) L fa cd)) (execs ((lastDef PySem.Challenge.rw_rt0040_02.prog).drop 9) (envOfC (Str.ofString "law") (lastScope PySem.Challenge.rw_rt0040_02.prog) L fa cd)) Q E s := by
  run_tac Mine.mark
  revert hp X; k_fill; intro hp X
  obtain ⟨sc, hs⟩ : ∃ sc, lastScope PySem.Challenge.rw_rt0040_02.prog = sc := ⟨_, rfl⟩
  rw [hs] at hE ⊢
  conv at hs => lhs; whnf
  subst hs
  show wpAny _ _ (execs (_ :: _ :: _ :: _ :: _ :: _ :: _ :: _ :: _ :: []) _) _ _ _
  have hl5 : ((rowsV c0 c1 c2 c3 c4 c5 k0 (placesL t v)).map pathOf).length ≤ 1000000 := show 5 ≤ 1000000 by decide
  have hw8 : (wordsOf 8 k0).length ≤ 8 := by rw [words_len]; decide
  have hRg := rowsV_good (c0 := c0) (c1 := c1) (c2 := c2) (c3 := c3) (c4 := c4) (c5 := c5) (pl := placesL t v) hk0
  have hR0 : rowsV c0 c1 c2 c3 c4 c5 k0 (placesL t v) ≠ [] := fun q => nomatch q
  have hR16 : (rowsV c0 c1 c2 c3 c4 c5 k0 (placesL t v)).length ≤ 16 := show 5 ≤ 16 by decide
  k_steps
  rename Fr _ _ _ _ => F0
  rename News _ _ _ _ => N0
  refine pairs_range (n := 5) (gotZ c0 c1 c2 c3 c4 c5 (placesL t v)) rfl (by decide) F0 N0 (N0 _ (.head _)).1 (by decide) ?_ ?_ ?_
  · rintro i t' ys h tk C D I oC oI mc Q' E' hi hns hmx F1 N1 hQ'
    clear F0 N0
    k_steps
    rename Fr _ _ _ _ => F2
    rename News _ _ _ _ => N2
    exact hQ' _ _ _ _ _ _ F2 (News.tail N2) (N2 _ (.head _)).1
  · rintro i j t' u' ys h tk C D I J oC oI oJ mc E' hi hj hns hmx hmy F1 N1
    obtain ⟨xi, hxi, -, -⟩ := places_at hi ht hv
    obtain ⟨xj, hxj, -, -⟩ := places_at (show j < 5 by omega) ht hv
    have hqi := rowsV_at (c0 := c0) (c1 := c1) (c2 := c2) (c3 := c3) (c4 := c4) (c5 := c5) (k0 := k0) hxi
    have hqj := rowsV_at (c0 := c0) (c1 := c1) (c2 := c2) (c3 := c3) (c4 := c4) (c5 := c5) (k0 := k0) hxj
    have hgi : GoodRow (dueNames 8 (valN c0 c1 c2 c3 c4 c5 xi) (wordsOf 8 k0)) := goodRow_due (by omega) (val_lt ..)
    have hgj : GoodRow (dueNames 8 (valN c0 c1 c2 c3 c4 c5 xj) (wordsOf 8 k0)) := goodRow_due (by omega) (val_lt ..)
    clear F0 N0
    k_steps
    rename Fr _ _ _ _ => F2
    rename News _ _ _ _ => N2
    exact ⟨_, _, _, by rw [part_low (wordsOf_ok (by omega))]; unfold gotZ; rw [getD_of hxi, getD_of hxj], rfl, F2, N2⟩
  · rintro D h tk ys F1 N1 hoff hys
    clear F0 N0 hoff
    have hno : ¬ ((pairsZ (gotZ c0 c1 c2 c3 c4 c5 (placesL t v)) 5).any fun x => x == -1) = true := fun q => by
      obtain ⟨z, hz, e⟩ := List.any_eq_true.mp q
      have h0 := got_ge z hz
      rw [beq_iff_eq.mp e] at h0
      exact absurd h0 (by decide)
    k_steps
    · rename (_ != _) = true => hq
      simp at hq
    · refine Stop.mk ?_
      rename Fr _ _ _ _ => F9
      rename News _ _ _ _ => N9
      refine stageG (nw := nw) (nt := nt) w prog hp B X T C0 _ F9 (news_sub N9 ?_) hT hwo hsh hpl hte hys hIp hIt hc hIw hk0 ht hv Q E hE hQ
      walk_at "my sub"
  run_tac Mine.shrink
end
local macro_rules | `(tactic| walk_at "execs cons") => `(tactic| (k_here; (with_reducible show wpAny _ _ (execs (Stmt.Assign [Expr.Name (Str.ofString "partings") _] _ _ :: _) _) _ _ _); refine stop_at ?_))
section
local macro_rules | `(tactic| walk_at "eval ListComp") => `(tactic| (k_here; k_dflt (refine' ListComp_J ?F ?c ?x ?k ?n ?_ ?s; (case F => k_asm); (case x => first | exact .inl ⟨by decide, rfl⟩ | exact .inr ⟨_, _, rfl, by decide⟩); (case c => first | exact rfl | with_unfolding_all rfl);  (case k => rfl); (case n => decide); (case s => exact fun _ => rfl); k_whole)))
local macro_rules | `(tactic| walk_at "compareOp NotEq ref ref") => `(tactic| (k_here; k_dflt (refine' ne_strs ?N ?m1 ?m2 ?i1 ?i2 ?u ?_; (case N => k_asm); (case m1 => exact ⟨_, by walk_at "my mem"⟩); (case m2 => exact ⟨_, by walk_at "my mem"⟩); (case i1 => assumption); (case i2 => assumption); (case u => ktr_units); k_whole); (try simp only [beq_self_eq_true, Bool.not_true])))
local macro_rules | `(tactic| k_all) => `(tactic| assumption)
local macro_rules | `(tactic| k_ne) => `(tactic| assumption)
local macro_rules | `(tactic| walk_at "my pad") => `(tactic| fail)
set_option maxHeartbeats 40000000 in
theorem stageC (w : World) (prog : Program) (hp : prog = PySem.Challenge.rw_rt0040_02.prog) {p : Program} {loose : List Str} {mean : ExcName → Option Value} {mg mb : Str → Option Value} {h₀ : Heap} {L fa Dp Dt Dw : Addr} {cd : Value} {m₀ : Str → Option Value} {vp vt vw : List Value} {c0 c1 c2 c3 c4 c5 total t v : Int} {z : Int} {nt nw : Nat} {v1 : Value} {t1 t4 : Tok} {opa owo osh opl ote : Obj}
    (B : Below callerA h₀ [] h₀) (X : (hd02.heap_39 w.params).In h₀) (T : Top p loose mean mg mb h₀) (C0 : CodeHd h₀ 160 156) (s : Shared)
    (F : Fr h₀ L s.heap (fun y => if y = Str.ofString "first" then some v1 else if y = Str.ofString "total" then some (.int total t1) else m₀ y))
    (N : News h₀ L s.heap ((Dw, W.listOf vw.toArray nw) :: (Dp, W.listOf vp.toArray 0) :: (Dt, W.listOf vt.toArray nt) :: (L + 1 + 1 + 1 + 1 + 1, opa) :: (L + 1 + 1 + 1 + 1, owo) :: (L + 1 + 1 + 1, osh) :: (L + 1 + 1, opl) :: (L + 1, ote) :: (156, tabObj #[]) :: []))
    (hPL : @LT.lt Nat _ 156 L) (hpa : opa.data = .cell none) (hwo : owo.data = .cell (some (.ref Dw))) (hsh : osh.data = .cell (some (.int z t4))) (hpl : opl.data = .cell (some (.ref Dp))) (hte : ote.data = .cell (some (.ref Dt)))
    (hIp : IntsAre vp (placesL t v)) (hIt : IntsAre vt [c0, c1, c2, c3, c4, c5]) (hc : ∀ c ∈ [c0, c1, c2, c3, c4, c5], 0 ≤ c ∧ c ≤ 300) (hIw : StrsAre vw (wordsOf 8 z.toNat)) (hz : 0 ≤ z ∧ z ≤ 24) (ht : 0 ≤ t ∧ t ≤ 300) (hv : 0 ≤ v ∧ v ≤ 65536)
    (Q : Flow → Shared → Prop) (E : Value → Shared → Prop) (hE : PassesOwn (model prog w) (callerA.deeper (envOfC (Str.ofString "law") (lastScope PySem.Challenge.rw_rt0040_02.prog) L fa cd)) (envOfC (Str.ofString "law") (lastScope PySem.Challenge.rw_rt0040_02.prog) L fa cd) E) (hQ : ∀ h' tk' m', Fr h₀ L h' m' → (∃ ps, h'.get? 156 = some (tabObj ps)) → Q (.ret (.bool true)) { s with heap := h', toks := tk' }) :
    wpAny (model prog w) (callerA.deeper (envOfC (Str.ofString "law") (lastScope PySem.Challenge.rw_rt0040_02.prog) L fa cd)) (execs ((lastDef PySem.Challenge.rw_rt0040_02.prog).drop 7) (envOfC (Str.ofString "law") (lastScope PySem.Challenge.rw_rt0040_02.prog) L fa cd)) Q E s := by
  run_tac Mine.mark
  obtain ⟨k0, rfl⟩ := Int.eq_ofNat_of_zero_le hz.1
  have hk0 : k0 ≤ 24 := by omega
  rw [Int.toNat_natCast] at hIw
  clear hz
  revert hp X; k_fill; intro hp X
  obtain ⟨sc, hs⟩ : ∃ sc, lastScope PySem.Challenge.rw_rt0040_02.prog = sc := ⟨_, rfl⟩
  rw [hs] at hE ⊢
  conv at hs => lhs; whnf
  subst hs
  show wpAny _ _ (execs (_ :: _ :: _ :: _ :: _ :: _ :: _ :: _ :: _ :: _ :: _ :: []) _) _ _ _
  have q1 : ∀ {a : Addr} {o : Obj}, (a, o) ∈ ((Dw, W.listOf vw.toArray nw) :: (Dp, W.listOf vp.toArray 0) :: (Dt, W.listOf vt.toArray nt) :: (L + 1 + 1 + 1 + 1 + 1, opa) :: (L + 1 + 1 + 1 + 1, owo) :: (L + 1 + 1 + 1, osh) :: (L + 1 + 1, opl) :: (L + 1, ote) :: (156, tabObj #[]) :: []) → (∃ u n, o.data = .seq u n) → @Ne Nat a (L + 1 + 1 + 1 + 1 + 1) := fun hm ho => by
    obtain ⟨u, n, ho⟩ := ho
    exact news_ne N hm (by walk_at "my mem") (by rw [ho, hpa]; exact fun q => nomatch q)
  have nDw := q1 (a := Dw) (.head _) ⟨_, _, rfl⟩
  have nDp := q1 (a := Dp) (.tail _ (.head _)) ⟨_, _, rfl⟩
  have nDt := q1 (a := Dt) (.tail _ (.tail _ (.head _))) ⟨_, _, rfl⟩
  clear q1
  have q2 : ∀ {a : Addr} {u : Array Value} {n : Nat}, (a, W.listOf u n) ∈ ((Dw, W.listOf vw.toArray nw) :: (Dp, W.listOf vp.toArray 0) :: (Dt, W.listOf vt.toArray nt) :: (L + 1 + 1 + 1 + 1 + 1, opa) :: (L + 1 + 1 + 1 + 1, owo) :: (L + 1 + 1 + 1, osh) :: (L + 1 + 1, opl) :: (L + 1, ote) :: (156, tabObj #[]) :: []) → @Ne Nat a 156 := fun hm => news_ne (y := tabObj #[]) N hm (by walk_at "my mem") (fun q => nomatch q)
  have nPw := q2 (a := Dw) (.head _)
  have nPp := q2 (a := Dp) (.tail _ (.head _))
  have nPt := q2 (a := Dt) (.tail _ (.tail _ (.head _)))
  clear q2
  have hpll := hIp.length
  have h5 : (placesL t v).length = 5 := rfl
  have hw8 := words_len 8 k0
  have hwg := (wordsOf_ok (N := 8) (k := k0) (by omega)).good
  k_steps
  rename Fr _ _ _ _ => F0
  rename News _ _ _ _ => N0
  obtain ⟨fx, hfx, N1⟩ := news_last N0 rfl
  clear N0
  refine SrcJ.list rfl F0 N1 (.inr ⟨_, by rw [hfx]; walk_at "my mem", rfl, _, rfl⟩) ?_ (fun i zs nws => ∃ tl, nws = fx ++ tl ∧ TabL 156 (Str.ofString "_law_value.<locals>.<lambda>") 159 18 tl ∧ OffL tl fx ∧ StrsAre zs (((rowsV c0 c1 c2 c3 c4 c5 k0 (placesL t v)).map pathOf).take i)) ⟨_, rfl, .inl rfl, ?_, .nil⟩ ?_ ?_
  · rw [List.size_toArray, hpll]; exact show 5 ≤ sizeLine by decide
  · refine off_one ?_
    rw [hfx]
    simp only [neAll, List.dropLast]
    and_intros <;> first | assumption | omega | trivial
  · refine turn_nil ?_
    rintro i zs4 nws v9 I oI C cl' led D5 h5' tk5 E5 hin hv9 ⟨tl, rfl, hTl, hOl, hzs4⟩ hS hT' F2 N2 hoff5 hID5
    rcases hT' with ⟨oC, m₂, -, rfl, rfl, hns, hx⟩ | ⟨_, _, _, _, _, hl, _⟩
    · obtain ⟨x, tx, rfl, hxi⟩ := hIp.at i v9 (by simpa using hv9)
      replace hx := hx _ rfl
      obtain ⟨x', hx', hxb⟩ := places_at (by simpa [hpll, h5] using hin) ht hv
      obtain rfl : x' = x := Option.some.inj (hx'.symm.trans hxi)
      have hoff6 : OffL tl ([(I, oI), (C, oC), (D5, PyProof.Rows.LCg.lst zs4)] ++ fx) := fun p hp q hq => (List.mem_append.mp hq).elim (fun hq => hoff5 p (List.mem_append_right _ hp) q hq) fun hq => hOl p hp q hq
      have N3 : News h₀ L h5' (([(I, oI), (C, oC), (D5, PyProof.Rows.LCg.lst zs4)] ++ fx) ++ tl) := by simpa using N2
      clear F0 N1 N2
      subst hfx
      k_steps
      rename Fr _ _ _ _ => F3
      rename News _ _ _ _ => N4
      rename TabL _ _ _ _ _ => hT4
      rename OffL _ ([(I, oI), (C, oC), (D5, PyProof.Rows.LCg.lst zs4)] ++ _) => hO4
      refine endJ_same (own := [(I, oI), (C, oC), (D5, PyProof.Rows.LCg.lst zs4)]) (news := _ ++ _) F3 (by rw [← List.append_assoc]; exact N4) (fun p hp q hq => ?_) (.inr ⟨_, by walk_at "my mem", rfl, _, rfl⟩) ⟨_, rfl, hT4, fun p hp q hq => hO4 p hp q (List.mem_append_right _ hq), ?_⟩
      · rcases List.mem_append.mp hp with hp | hp
        · exact hoff5 p (List.mem_append_left _ hp) q hq
        · exact hO4 p hp q (List.mem_append_left _ hq)
      · refine strs_snoc hzs4 ?_
        rw [rowsV_at hxi, Int.toNat_natCast, names_due (by omega) (val_lt ..)]
    · exact absurd hl (by decide)
  · rintro D5 h5' tk5 zs4 nws F2 N2 hoff5 ⟨tl, rfl, hTl, hOl, hzs4⟩
    rw [take_all (by rw [List.size_toArray, hpll]; exact Nat.le_refl _)] at hzs4
    clear F0 N1
    subst hfx
    have nD5 : @Ne Nat D5 (L + 1 + 1 + 1 + 1 + 1) := Ne.symm (hoff5 (L + 1 + 1 + 1 + 1 + 1, opa) (by walk_at "my mem"))
    have tl5 : ∀ q ∈ tl, q.1 ≠ L + 1 + 1 + 1 + 1 + 1 := fun q hq => hOl q hq (L + 1 + 1 + 1 + 1 + 1, opa) (by walk_at "my mem")
    have N3 : News h₀ L h5' ((D5, PyProof.Rows.LCg.lst zs4) :: (Dw, W.listOf vw.toArray nw) :: (Dp, W.listOf vp.toArray 0) :: (Dt, W.listOf vt.toArray nt) :: (L + 1 + 1 + 1 + 1 + 1, opa) :: (L + 1 + 1 + 1 + 1, owo) :: (L + 1 + 1 + 1, osh) :: (L + 1 + 1, opl) :: (L + 1, ote) :: tl) := N2
    clear N2 hoff5 hOl
    k_steps
    rename Fr _ _ _ _ => F0
    rename News _ _ _ _ => N0
    rename Obj.data _ = Data.cell (some (Value.ref D5)) => hpa5
    refine SrcJ.list rfl F0 N0 (.inr ⟨_, by walk_at "my mem", rfl, _, rfl⟩) ?_ (fun i zs nws => nws = _ ∧ StrsAre zs (((rowsV c0 c1 c2 c3 c4 c5 k0 (placesL t v)).map pathOf).take i)) ⟨rfl, .nil⟩ ?_ ?_
    · rw [List.size_toArray, hpll]; exact show 5 ≤ sizeLine by decide
    · refine turn_nil ?_
      rintro i zs6 nws v9 I oI C cl' led D6 h6 tk6 E6 hin hv9 ⟨rfl, hzs6⟩ hS hT' F3 N4 hoff6 hID6
      rcases hT' with ⟨oC, m₂, -, rfl, rfl, hns, hx⟩ | ⟨_, _, _, _, _, hl, _⟩
      · obtain ⟨x, tx, rfl, hxi⟩ := hIp.at i v9 (by simpa using hv9)
        replace hx := hx _ rfl
        obtain ⟨x', hx', hxb⟩ := places_at (by simpa [hpll, h5] using hin) ht hv
        obtain rfl : x' = x := Option.some.inj (hx'.symm.trans hxi)
        simp only [List.cons_append, List.nil_append] at N4
        clear F0 N0
        k_steps
        rename Fr _ _ _ _ => F5
        rename News _ _ _ _ => N5
        exact endJ_same (own := [(I, oI), (C, oC), (D6, PyProof.Rows.LCg.lst zs6)]) F5 N5 hoff6 hS ⟨rfl, strs_snoc hzs6 (rowsV_at hxi)⟩
      · exact absurd hl (by decide)
    · rintro D6 h6 tk6 zs6 nws F3 N4 hoff6 ⟨rfl, hzs6⟩
      rw [take_all (by rw [List.size_toArray, hpll]; exact Nat.le_refl _)] at hzs6
      clear F0 N0 hoff6
      k_steps
      refine Stop.mk ?_
      rename Fr _ _ _ _ => F9
      rename News _ _ _ _ => N9
      refine stageD (nw := nw) (nt := nt) w prog hp B X T C0 _ F9 (news_sub N9 ?_) hTl hpa5 hwo hsh hpl hte hzs4 hIp hIt hc hIw hk0 ht hv Q E hE hQ
      walk_at "my sub"
  run_tac Mine.shrink
end
local macro_rules | `(tactic| walk_at "execs cons") => `(tactic| (k_here; (with_reducible show wpAny _ _ (execs (Stmt.Assign [Expr.Name (Str.ofString "paths") _] _ _ :: _) _) _ _ _); refine stop_at ?_))
section
theorem news_drop4 {h₀ h : Heap} {L : Addr} {a b c d : Addr × Obj} {l : List (Addr × Obj)} (N : News h₀ L h (a :: b :: c :: d :: l)) : News h₀ L h (a :: b :: c :: l) := fun p hp => by
  rcases List.mem_cons.mp hp with rfl | hp
  · exact N _ (.head _)
  · rcases List.mem_cons.mp hp with rfl | hp
    · exact N _ (.tail _ (.head _))
    · rcases List.mem_cons.mp hp with rfl | hp
      · exact N _ (.tail _ (.tail _ (.head _)))
      · exact N _ (.tail _ (.tail _ (.tail _ (.tail _ hp))))
theorem places_ints {t v : Int} {t0 t1 t2 t3 t4 : Tok} : IntsAre [.int t t0, .int (t + 1) t1, .int (t + 2) t2, .int (t + 3) t3, .int v t4] (placesL t v) := .cons _ _ (.cons _ _ (.cons _ _ (.cons _ _ (.cons _ _ .nil))))
theorem mod256b (z : Int) : 0 ≤ z.fmod 256 ∧ z.fmod 256 ≤ 300 := by have := mod256 z; omega
theorem mod65536b (z : Int) : 0 ≤ z.fmod 65536 ∧ z.fmod 65536 ≤ 65536 := by have := mod65536 z; omega
local macro_rules | `(tactic| walk_at "call builtin:sum") => `(tactic| (k_here; (with_reducible show wpAny _ _ (call (Value.builtin "sum") [Value.ref _]) _ _ _); (with_unfolding_all refine' sum_at ?k0 ?k1 ?k2 ?k3 ?k4 ?_; (case k0 => with_unfolding_all rfl); (case k1 => k_asm); (case k2 => k_asm); (case k3 => is_list); (case k4 => exact IntsAre.pick (by assumption) _ _ _); k_whole); intro h' tk' t' F' N0'; (have N' := News.tail N0'); (clear N0'); (try k_sweep)))
local macro_rules | `(tactic| walk_at "my pad") => `(tactic| fail)
local macro_rules | `(tactic| walk_at "my pad") => `(tactic| fail)
set_option maxHeartbeats 40000000 in
theorem law_holds : PySem.Challenge.rw_rt0040_02.Holds := by
  run_tac Mine.mark
  refine hd02 ?_
  k_go0
  rename Fr _ _ _ _ => F0
  rename News _ _ _ _ => N0
  refine close_true 156 F0 (fun h' tk' m' F9 hP => ?_) ?_
  · clear F0 N0
    refine ⟨?_, hP, True.intro⟩
    refine goodW_bool F9 (by assumption) (raisesW_false ?_) ?_
    · wrow_none_raised
    · wrow_post
  intro Q hQ
  rename IntsAre _ _ => hIs
  k_steps
  refine Stop.mk ?_
  rename Fr _ _ _ _ => F3
  rename News _ _ _ _ => N3
  refine stageC _ _ rfl (by assumption) (by assumption) (by assumption) (by assumption) _ F3 (news_drop4 N3) (by assumption) (by assumption) (by assumption) (by assumption) (by assumption) (by assumption) places_ints (by assumption) (by assumption) (by assumption) (mod25 _) (mod256b _) (mod65536b _) Q _ (by passes_own) hQ
  run_tac Mine.shrink
end
end Mine
set_option maxRecDepth 100000 in
theorem PySem.Challenge.cw_rt0040_02_holds : PySem.Challenge.rw_rt0040_02.Holds :=
  Mine.law_holds
