import PyProof.Rows.All
import Wide.All
import OpenK.AllK
import Wide.FinOn
import PyProof.ExcStrCall
import PyProof.AssignAttr
import PyProof.ForAppend
import PyProof.RangeFor
import PyProof.Rows.GenSrcRange
import PySem.Challenge.RW_dm0088_03
set_option Elab.async false
section
open PySem PySem.W PySem.W.X PyProof.Rows
namespace Mine
local macro_rules | `(tactic| k_head) => `(tactic| z_head)
set_option maxRecDepth 100000 in
set_option maxHeartbeats 8000000 in
open_top hd for PySem.Challenge.rw_dm0088_03
end Mine

end
section
open PySem PySem.W PySem.Calls PySem.Spec PyProof.Rows
set_option maxRecDepth 100000
namespace Mine

/-- the trees that a run is made over: the model's own, or their twins -/
structure Src where
  den : Code → Sem Fin
  execs : List Stmt → Env → Sem Flow
  eval : Expr → Env → Sem Value
  truthy : Value → Sem Bool
  cmp : CmpOp → Value → Value → Sem Value
  bindA : FuncData → Args → Sem (List (Str × Value))
  newEnv : Scope → Addr → List (Str × Addr) → List (Str × Value) → Str → Option Addr → Value → Option Env → Addr → Sem Env
  hits : Value → Value → Sem Bool
  store : Env → Str → Value → Sem Unit
  goes : Env → Str → Pos → Sem Unit
  red : Int → Int
  add : Value → Value → Sem Value
  getA : Value → Str → Sem Value
  setA : Value → Str → Value → Sem Unit
  getI : Value → Value → Sem Value

/-- what a run is told -/
structure Ev where
  src : Src
  K : Addr → Option Obj
  S : Setting
  base : Nat
  tok : Nat
  bot : Option Env
  srch : Bool

/-- the ledger: objects known whole; tracebacks known by their mark; how many were made; tokens drawn; where each address is found -/
structure Sg where
  news : List (Addr × Obj)
  tbs : List (Addr × Option Addr)
  m : Nat
  tk : Nat
  cert : List (Option Nat)
  nm : List (Str × Value)

/-- what must be equal -/
inductive Ob where
  | n (a b : Nat)
  | i (a b : Int)
  | s (a b : Str)
  | l (a b : Nat)
abbrev Obs := List Ob
/-- a run that ends: a value or a raise, the ledger behind it, what must be equal -/
abbrev V (α : Type) := Sg → Option (Except Value α × Sg × Obs)

noncomputable def after {α : Type} (l : Obs) : Option (α × Sg × Obs) → Option (α × Sg × Obs)
  | some (r, σ, o) => some (r, σ, l ++ o)
  | none => none

noncomputable def V.pure {α : Type} (a : α) : V α := fun σ => some (.ok a, σ, [])
noncomputable def V.raise {α : Type} (x : Value) : V α := fun σ => some (.error x, σ, [])
noncomputable def V.fail {α : Type} : V α := fun _ => none
noncomputable def V.bind {α β : Type} (m : V α) (f : α → V β) : V β := fun σ => match m σ with
  | some (.ok a, σ', o) => after o (f a σ')
  | some (.error x, σ', o) => some (.error x, σ', o)
  | none => none
noncomputable def V.ends {α β : Type} (m : V α) (f : Except Value α → V β) : V β := fun σ => match m σ with
  | some (r, σ', o) => after o (f r σ')
  | none => none
noncomputable def V.sure {α β : Type} (m : V α) (f : α → V β) : V β := fun σ => match m σ with
  | some (.ok a, σ', o) => after o (f a σ')
  | _ => none
noncomputable def V.must {α : Type} (a : Ob) (m : V α) : V α := fun σ => after [a] (m σ)

noncomputable def findIx {β : Type} : List (Addr × β) → Addr → Nat → Option Nat
  | [], _, _ => none
  | p :: l, a, i => match Nat.beq p.1 a with
    | true => some i
    | false => findIx l a (i + 1)

/-- the next entry of the certificate, or the search for it -/
noncomputable def nextIx {β : Type} (e : Ev) (l : List (Addr × β)) (σ : Sg) (a : Addr) : Option (Option Nat × Sg) := match e.srch with
  | true => some (findIx l a 0, { σ with cert := findIx l a 0 :: σ.cert })
  | false => match σ.cert with
    | x :: ct => some (x, { σ with cert := ct })
    | [] => none

noncomputable def look (e : Ev) (σ : Sg) (a : Addr) : Option (Addr × Obj × Sg) := match nextIx e σ.news σ a with
  | some (none, σ') => match e.K a with
    | some o => some (a, o, σ')
    | none => none
  | some (some i, σ') => match σ.news[i]? with
    | some (b, o) => some (b, o, σ')
    | none => none
  | none => none

noncomputable def okM (hd : Option Value) : Bool := match hd with
  | none => true
  | some v => !decide (v = byPass)

abbrev Ih := Option Value → Option Value → Code → Sg → Option (Result × Sg × Obs)

noncomputable def more {α : Type} (p : Ob) : Option (α × Sg × Obs) → Option (α × Sg × Obs)
  | some (r, σ, o) => some (r, σ, p :: o)
  | none => none

noncomputable def run (e : Ev) (ih : Ih) (hdl : Option Value) {α : Type} : Sem α → V α
  | .pure a, σ => some (.ok a, σ, [])
  | .raise x, σ => some (.error x, σ, [])
  | .rule _ k, σ => run e ih hdl (k ()) σ
  | .at _ k, σ => run e ih hdl (k ()) σ
  | .point _ k, σ => run e ih hdl (k ()) σ
  | .ask k, σ => run e ih hdl (k e.S) σ
  | .load a _ k, σ => match look e σ a with
    | some (b, o, σ') => more (.n a b) (run e ih hdl (k o) σ')
    | none => none
  | .loadIfAlive a k, σ => match look e σ a with
    | some (b, o, σ') => more (.n a b) (run e ih hdl (k (some o)) σ')
    | none => none
  | .update a _ f k, σ => match nextIx e σ.news σ a with
    | some (some i, σ') => match σ.news[i]? with
      | some (b, o) => match (f o).isFreed with
        | true => none
        | false => more (.n a b) (run e ih hdl (k ()) { σ' with news := σ'.news.set i (b, f o) })
      | none => none
    | _ => none
  | .alloc o k, σ => match o.isFreed with
    | true => none
    | false => run e ih hdl (k (e.base + σ.m)) { σ with news := (e.base + σ.m, o) :: σ.news, m := σ.m + 1 }
  | .fresh k, σ => run e ih hdl (k (e.tok + σ.tk)) { σ with tk := σ.tk + 1 }
  | .handled own k, σ => match own with
    | false => run e ih hdl (k hdl) σ
    | true => none
  | .call c hd _ _ k, σ => match okM hd with
    | true => match ih hd hdl c σ with
      | some (r, σ', o) => after o (run e ih hdl (k r) σ')
      | none => none
    | false => none
  | .unsupported _, _ => none
  | .finish _, _ => none
  | .register _ _, _ => none
  | .choose _ _ _, _ => none
  | .os _ _ _, _ => none
  | .newGen _ _, _ => none
  | .genState _ _, _ => none
  | .resume _ _ _ _, _ => none
  | .yield _ _ _ _, _ => none
  | .stack _, _ => none
  | .fork _ _, _ => none
  | .thread _, _ => none
  | .await _ _ _ _ _, _ => none

/-- the built-ins that look at their own name on the stack -/
noncomputable def newIds : List String := ["ValueError.__new__", "LookupError.__new__", "TypeError.__new__", "ArithmeticError.__new__", "Exception.__new__", "UnicodeError.__new__", "UnicodeDecodeError.__new__", "UnicodeEncodeError.__new__"]
noncomputable def ownLook : Code → Bool
  | .builtin id _ => newIds.contains id
  | _ => false
noncomputable def headOf (c : Code) : Sem Fin → Option (Sem Fin)
  | .stack k => match ownLook c with
    | true => some (k [(c, ⟨0, 0, 0, 0⟩)])
    | false => none
  | t => some t
/-- a code of the machine that is no def's -/
noncomputable def code (e : Ev) : Nat → Ih
  | 0 => fun _ _ _ _ => none
  | n + 1 => fun hd hdl c σ => match isDef c with
    | true => none
    | false => match headOf c (e.src.den c) with
     | none => none
     | some t => match run e (code e n) (hd.or hdl) t σ with
      | some (.ok (.done f), σ', o) => some (.ok f, σ', o)
      | some (.ok (.again c'), σ', o) => match c'.quiet with
        | true => after o (code e n hd hdl c' σ')
        | false => none
      | some (.error x, σ', o) => some (.error x, σ', o)
      | none => none
where
  isDef : Code → Bool
    | .call (.ref _) _ => true
    | .func .. => true
    | .handlers .. => true
    | .forLoop .. => true
    | _ => false

/-- an object of the ledger by its address -/
noncomputable def getV (e : Ev) (a : Addr) : V (Nat × Obj) := fun σ => match nextIx e σ.news σ a with
  | some (some i, σ') => match σ.news[i]? with
    | some (b, o) => some (.ok (i, o), σ', [.n a b])
    | none => none
  | _ => none
noncomputable def setV (i : Nat) (o : Obj) : V Unit := fun σ => match σ.news[i]? with
  | some (b, _) => match o.isFreed with
    | true => none
    | false => some (.ok (), { σ with news := σ.news.set i (b, o) }, [])
  | none => none
/-- a traceback's mark -/
noncomputable def getT (e : Ev) (a : Addr) : V (Nat × Option Addr) := fun σ => match nextIx e σ.tbs σ a with
  | some (some i, σ') => match σ.tbs[i]? with
    | some (b, mk) => some (.ok (i, mk), σ', [.n a b])
    | none => none
  | _ => none
noncomputable def setT (i : Nat) (mk : Option Addr) : V Unit := fun σ => match σ.tbs[i]? with
  | some (b, _) => some (.ok (), { σ with tbs := σ.tbs.set i (b, mk) }, [])
  | none => none
noncomputable def newT (e : Ev) (f : Addr) : V Addr := fun σ => some (.ok (e.base + σ.m), { σ with tbs := (e.base + σ.m, some f) :: σ.tbs, m := σ.m + 1 }, [])

noncomputable def slotsOf (env : Env) (back : Value) (o : Obj) : Obj :=
  { o with slots := #[some env.code, some (.ref env.globals), o.slots.getD 2 none, some back, o.slots.getD 4 none, env.func.map Value.ref, some (.ref env.builtins)] ++ (env.cells.map fun c => some (Value.ref c.2)).toArray }

noncomputable def botE (e : Ev) : List Env := match e.bot with
  | some p => [p]
  | none => []

noncomputable def readyV (e : Ev) : List Env → V Unit
  | [] => match e.bot with
    | some _ => V.pure ()
    | none => V.fail
  | env :: outer => match env.frame, env.scope.kind with
    | some f, .function => V.bind (getV e f) fun io => match (io.2.slots.getD 3 none).isSome with
      | true => V.pure ()
      | false => match outer ++ botE e with
        | [] => V.fail
        | caller :: _ => match env.scope.isGenerator || env.scope.isCoroutine with
          | true => V.fail
          | false => V.bind (setV io.1 (slotsOf env (caller.frame.elim .notImplemented Value.ref) io.2)) fun _ => readyV e outer
    | _, _ => V.fail

/-- a new entry of the exception's traceback -/
noncomputable def noteNew (e : Ev) (frs : List Env) (a f : Addr) : V Unit := match frs with
  | [] => V.fail
  | env' :: rest => match env'.frame with
    | some f' => V.must (.n f f') <| V.bind (readyV e (env' :: rest)) fun _ => V.bind (newT e f) fun t => V.bind (getV e a) fun io => match io.2.data with
        | .fields vs => match (vs[1]? : Option Value) with
          | some _ => setV io.1 (io.2.mapFields (·.setIfInBounds 1 (.ref t)))
          | none => V.fail
        | _ => V.fail
    | none => V.fail
noncomputable def noteV (e : Ev) (frs : List Env) (x : Value) (env : Env) : V Unit := match x, env.frame with
  | .ref a, some f => V.bind (getV e a) fun io => match io.2.data with
    | .fields vs => match (vs[1]? : Option Value) with
      | some .none => noteNew e frs a f
      | some (.ref t) => V.bind (getT e t) fun jm => match jm.2 with
        | some f' => V.must (.n f' f) (V.pure ())
        | none => noteNew e frs a f
      | _ => V.fail
    | _ => V.fail
  | _, _ => V.fail
/-- the mark of the exception's newest entry -/
noncomputable def flightV (e : Ev) (x : Value) (fr : Option Addr) : V Unit := match x with
  | .ref a => V.bind (getV e a) fun io => match io.2.data with
    | .fields vs => match (vs[1]? : Option Value) with
      | some .none => V.pure ()
      | some (.ref t) => V.bind (getT e t) fun jm => setT jm.1 fr
      | _ => V.fail
    | _ => V.fail
  | _ => V.fail
/-- it has a traceback -/
noncomputable def tracedV (e : Ev) (x : Value) : V Unit := match x with
  | .ref a => V.bind (getV e a) fun io => match io.2.data with
    | .fields vs => match (vs[1]? : Option Value) with
      | some (.ref _) => V.pure ()
      | _ => V.fail
    | _ => V.fail
  | _ => V.fail

structure Sc where
  hdl : Option Value
  frs : List Env
  dep : Nat
  uni : Nat

structure Fns where
  code : Sc → Code → V Flow
  execs : Sc → List Stmt → Env → V Flow
  exec : Sc → Stmt → Env → V Flow
  eval : Sc → Expr → Env → V Value
  test : Sc → Expr → Env → V Bool
  handle : Sc → Value → Env → List ExceptHandler → V Flow

noncomputable def Sc.mark (sc : Sc) (hd : Option Value) : Sc := { sc with hdl := hd.or sc.hdl }
noncomputable def Sc.deeper (sc : Sc) (env : Env) : Sc := { sc with frs := env :: sc.frs, dep := sc.dep + 1, uni := sc.uni + 3 }

/-- a result of a code, and back -/
noncomputable def toR : Except Value Flow → Result := id
noncomputable def excStrs : List String := ["TypeError", "AttributeError"]
/-- an exception whose text is its one argument -/
noncomputable def excOf (o : Obj) : Option Addr := match o.cls, o.data with
  | .type X, .fields vs => match (vs[0]? : Option Value), excStrs.contains X with
    | some (.ref t), true => some t
    | _, _ => none
  | _, _ => none
noncomputable def oneText (o : Obj) : Option (Str × Tok) := match o.cls, o.data with
  | .type "tuple", .seq ws _ => match ws.toList with
    | [.str m tk] => some (m, tk)
    | _ => none
  | _, _ => none
/-- str of an exception of one text -/
noncomputable def strV (e : Ev) (sc : Sc) (a : Addr) : V Flow := V.bind (getV e a) fun io => match excOf io.2, Nat.blt sc.uni 8000 with
  | some t, true => V.bind (getV e t) fun jt => match oneText jt.2 with
    | some p => V.pure (.ret (.str p.1 p.2))
    | none => V.fail
  | _, _ => V.fail
/-- a call that is served by a rule: str(exception) -/
noncomputable def isStr : Option Value → Code → Option Addr
  | none, .call (.type "str") ⟨[.ref a], []⟩ => some a
  | _, _ => none
/-- str(int) -/
noncomputable def isStrI : Option Value → Code → Option Int
  | none, .call (.type "str") ⟨[.int n _], []⟩ => some n
  | _, _ => none
noncomputable def strI (e : Ev) (n : Int) : V Flow := fun σ => some (.ok (.ret (.str (Str.ofString (toString n)) (e.tok + σ.tk))), { σ with tk := σ.tk + 1 }, [.l n.natAbs 100000])
/-- a residue: as it stands, or the number that the certificate says -/
noncomputable def isModI : Option Value → Code → Option (Int × Int)
  | none, .call (.builtin "int.__mod__") ⟨[.int a _, .int b _], []⟩ => some (a, b)
  | _, _ => none
noncomputable def isPos : Int → Bool
  | .ofNat (_ + 1) => true
  | _ => false
noncomputable def modI (e : Ev) (a b : Int) : V Flow := fun σ => match isPos b with
  | false => none
  | true => match e.srch with
    | true => match decide (b = 5 ∨ b = 7) with
      | true => some (.ok (.ret (.int (a.fmod b) (e.tok + σ.tk))), { σ with tk := σ.tk + 1, cert := none :: σ.cert }, [])
      | false => some (.ok (.ret (.int ((a.fmod b).toNat : Nat) (e.tok + σ.tk))), { σ with tk := σ.tk + 1, cert := some (a.fmod b).toNat :: σ.cert }, [])
    | false => match σ.cert with
      | none :: ct => some (.ok (.ret (.int (a.fmod b) (e.tok + σ.tk))), { σ with tk := σ.tk + 1, cert := ct }, [])
      | some r :: ct => some (.ok (.ret (.int (r : Nat) (e.tok + σ.tk))), { σ with tk := σ.tk + 1, cert := ct }, [.l (a.fmod b).toNat r, .l r (a.fmod b).toNat])
      | [] => none
noncomputable def ihV (e : Ev) (n : Nat) (f : Fns) (sc : Sc) : Ih := fun hd hdl c σ => match code.isDef c with
  | true => f.code { sc with hdl := hd.or hdl } c σ
  | false => match isStr hd c with
    | some a => strV e sc a σ
    | none => match isStrI hd c with
      | some i => strI e i σ
      | none => match isModI hd c with
        | some p => modI e p.1 p.2 σ
        | none => code e n hd hdl c σ
noncomputable def treeV (e : Ev) (n : Nat) (f : Fns) (sc : Sc) {α : Type} (t : Sem α) : V α := run e (ihV e n f sc) sc.hdl t

noncomputable def fnOf (o : Obj) : Option (FuncData × List Stmt) := match o.data with
  | .func fd => match fd.scope.isCoroutine, fd.scope.isGenerator, fd.body with
    | false, false, .stmts b => some (fd, b)
    | _, _, _ => none
  | _ => none

noncomputable def lookV (e : Ev) (a : Addr) : V Obj := fun σ => match look e σ a with
  | some (b, o, σ') => some (.ok o, σ', [.n a b])
  | none => none

noncomputable def isFnD (o : Obj) : Bool := match o.data with
  | .func _ => true
  | _ => false
/-- a code by its own tree -/
noncomputable def codeT (e : Ev) (n : Nat) (hdl : Option Value) (c : Code) : V Flow := fun σ => match headOf c (e.src.den c) with
  | none => none
  | some t => match run e (code e n) hdl t σ with
    | some (.ok (.done f), σ', o) => some (.ok f, σ', o)
    | some (.error x, σ', o) => some (.error x, σ', o)
    | _ => none
noncomputable def callV (e : Ev) (n : Nat) (f : Fns) (sc : Sc) (a : Addr) (args : Args) : V Flow :=
  V.bind (lookV e a) fun o => match fnOf o with
    | some (fd, body) => match fd.code with
      | .ref c => V.bind (lookV e c) fun oc => match oc.data with
        | .fields vs => match (vs[1]? : Option Value) with
          | some (.str q _) => match decide (q = fd.qualname), Nat.blt sc.dep 600, Nat.blt sc.uni 8000 with
            | true, true, true =>
              V.bind (run e (code e n) sc.hdl (e.src.bindA fd args)) fun binds =>
              V.bind (run e (code e n) sc.hdl (e.src.newEnv fd.scope fd.globals fd.closure binds (fd.qualname ++ ".<locals>.") (some a) fd.code none fd.builtins)) fun env =>
              V.ends (f.execs (sc.deeper env) body env) fun r => match r with
                | .ok (.ret v) => V.pure (.ret v)
                | .ok _ => V.pure (.ret .none)
                | .error x => V.bind (noteV e (sc.deeper env).frs x env) fun _ => V.bind (flightV e x none) fun _ => V.raise x
            | _, _, _ => V.fail
          | _ => V.fail
        | _ => V.fail
      | _ => V.fail
    | none => match isFnD o with
      | false => codeT e n sc.hdl (.call (.ref a) args)
      | true => V.fail

noncomputable def execsV (f : Fns) (sc : Sc) (env : Env) : List Stmt → V Flow
  | [] => V.pure .next
  | s :: rest => V.bind (f.exec sc s env) fun fl => match fl with
    | .next => f.execs sc rest env
    | fl => V.pure fl

noncomputable def handleV (e : Ev) (n : Nat) (f : Fns) (sc : Sc) (x : Value) (env : Env) : List ExceptHandler → V Flow
  | [] => V.bind (tracedV e x) fun _ => V.bind (flightV e x env.frame) fun _ => V.raise x
  | .ExceptHandler (some t) name (b₀ :: body) pos :: rest => match x with
   | .ref a =>
    let x := Value.ref a
    let sc' := sc.mark (some x)
    V.ends (treeV e n f sc' (e.src.eval t env)) fun r => match r with
      | .error _ => V.fail
      | .ok c => V.ends (treeV e n f sc' (e.src.hits x c)) fun r => match r with
        | .error _ => V.fail
        | .ok false => f.handle sc x env rest
        | .ok true => V.sure (flightV e x none) fun _ => match name with
          | none => V.ends (f.execs sc' (b₀ :: body) env) fun r => match r with
            | .ok fl => V.pure fl
            | .error y => V.sure (noteV e sc'.frs y env) fun _ => V.bind (tracedV e y) fun _ => V.bind (flightV e y env.frame) fun _ => V.raise y
          | some nm => V.ends (treeV e n f sc' (e.src.store env nm x)) fun r => match r with
            | .error _ => V.fail
            | .ok _ => V.ends (f.execs sc' (b₀ :: body) env) fun r => match r with
              | .error _ => V.fail
              | .ok fl => V.ends (treeV e n f sc (e.src.goes env nm pos)) fun r => match r with
                | .error _ => V.fail
                | .ok _ => V.pure fl
   | _ => V.fail
  | _ => V.fail

noncomputable def tryV (e : Ev) (f : Fns) (sc : Sc) (body : List Stmt) (h₀ : ExceptHandler) (hs : List ExceptHandler) (orelse : List Stmt) (env : Env) : V Flow :=
  V.ends (f.execs sc body env) fun r => match r with
    | .ok .next => f.execs sc orelse env
    | .ok fl => V.pure fl
    | .error x => V.bind (noteV e sc.frs x env) fun _ => V.bind (flightV e x none) fun _ => f.handle sc x env (h₀ :: hs)

/-- the keys and values of a dict of texts or of ints, its hashes as they should be -/
noncomputable def hashS (e : Ev) (k : Str) : Int := if k.cps.isEmpty = true then 0 else e.src.red (e.S.params.strHash k.cps)
noncomputable def strRows (e : Ev) : List DictEntry → Option (List (Str × Value) × Obs)
  | [] => some ([], [])
  | x :: r => match x.key, strRows e r with
    | .str k _, some (l, o) => some ((k, x.val) :: l, .i x.hash (hashS e k) :: o)
    | _, _ => none
noncomputable def intRows (e : Ev) : List DictEntry → Option (List (Int × Value) × Obs)
  | [] => some ([], [])
  | x :: r => match x.key, intRows e r with
    | .int k _, some (l, o) => some ((k, x.val) :: l, .i x.hash (hashInt k) :: o)
    | _, _ => none
noncomputable def rowOf {K : Type} [DecidableEq K] (l : List (K × Value)) (k : K) : Option Value := match l.find? fun kv => decide (kv.1 = k) with
  | some p => some p.2
  | none => none
noncomputable def allEq (eq : Value → Value → V Unit) : List Value → List Value → V Unit
  | [], [] => V.pure ()
  | x :: xs, y :: ys => V.bind (eq x y) fun _ => allEq eq xs ys
  | _, _ => V.fail
/-- two plain values that are equal -/
noncomputable def atomEq : Value → Value → V Unit
  | .none, .none => V.pure ()
  | .bool a, .bool b => match Bool.xor a b with
    | false => V.pure ()
    | true => V.fail
  | .int a _, .int b _ => V.must (.i a b) (V.pure ())
  | .str a _, .str b _ => V.must (.s a b) (V.pure ())
  | _, _ => V.fail
noncomputable def rowsEq {K : Type} [DecidableEq K] (kb : List (K × Value)) : List (K × Value) → V Unit
  | [] => V.pure ()
  | (k, v) :: r => match rowOf kb k with
    | some y => V.bind (atomEq v y) fun _ => rowsEq kb r
    | none => V.fail
noncomputable def V.musts {α : Type} (l : Obs) (m : V α) : V α := fun σ => after l (m σ)
noncomputable def dictEq {K : Type} [DecidableEq K] (x y : Option (List (K × Value) × Obs)) : V Unit := match x, y with
  | some a, some b => match decide (a.1.map (·.1)).Nodup, decide (b.1.map (·.1)).Nodup, Nat.beq a.1.length b.1.length with
    | true, true, true => V.musts (a.2 ++ b.2) (rowsEq b.1 a.1)
    | _, _, _ => V.fail
  | _, _ => V.fail
noncomputable def plainD (o : Obj) : Bool := match o.dict, o.slots.toList with
  | none, [] => true
  | _, _ => false
inductive Pair where
  | list (xs ys : Array Value)
  | tuple (xs ys : Array Value)
  | ints (es fs : Array DictEntry)
  | strs (es fs : Array DictEntry)
noncomputable def intKeyed (es : Array DictEntry) : Bool := match es.toList with
  | ⟨_, .int _ _, _⟩ :: _ => true
  | _ => false
noncomputable def pairOf (o₁ o₂ : Obj) : Option Pair := match o₁.cls, o₁.data, o₂.cls, o₂.data with
  | .type "list", .seq xs _, .type "list", .seq ys _ => some (.list xs ys)
  | .type "tuple", .seq xs _, .type "tuple", .seq ys _ => some (.tuple xs ys)
  | .type "dict", .dict es _, .type "dict", .dict fs _ => match plainD o₁, plainD o₂, intKeyed es with
    | true, true, true => some (.ints es fs)
    | true, true, false => some (.strs es fs)
    | _, _, _ => none
  | _, _, _, _ => none
/-- two containers that are equal -/
noncomputable def contEq (e : Ev) (eq : Value → Value → V Unit) (o₁ o₂ : Obj) : V Unit := match pairOf o₁ o₂ with
  | some (.list xs ys) => allEq eq xs.toList ys.toList
  | some (.tuple xs ys) => allEq eq xs.toList ys.toList
  | some (.ints es fs) => dictEq (intRows e es.toList) (intRows e fs.toList)
  | some (.strs es fs) => dictEq (strRows e es.toList) (strRows e fs.toList)
  | none => V.fail
noncomputable def eqV (e : Ev) : Nat → Value → Value → V Unit
  | n + 1, .ref x, .ref y => V.bind (getV e x) fun i => V.bind (getV e y) fun j => match Nat.beq i.1 j.1 with
    | true => V.pure ()
    | false => contEq e (eqV e n) i.2 j.2
  | _, v, y => atomEq v y
noncomputable def cmpEq (e : Ev) (sc : Sc) (x y : Addr) : V Unit := match Nat.blt sc.uni 8000 with
  | true => V.bind (getV e x) fun i => V.bind (getV e y) fun j => contEq e (eqV e 20) i.2 j.2
  | false => V.fail

noncomputable def isTup (o : Obj) : Bool := match o.cls with
  | .type "tuple" => true
  | _ => false
/-- x is y, of two objects -/
noncomputable def isV (e : Ev) (a b : Addr) : V Bool :=
  V.bind (getV e a) fun i => V.bind (getV e b) fun j => match Nat.beq i.1 j.1 with
    | true => V.pure true
    | false => match isTup i.2 with
      | true => V.fail
      | false => V.pure false

noncomputable def cmpV (e : Ev) (n : Nat) (f : Fns) (sc : Sc) (op : CmpOp) (a b : Value) : V Value := match op, a, b with
  | .Is, .ref x, .ref y => V.bind (isV e x y) fun r => V.pure (.bool r)
  | .IsNot, .ref x, .ref y => V.bind (isV e x y) fun r => V.pure (.bool (!r))
  | .Eq, .ref x, .ref y => V.bind (cmpEq e sc x y) fun _ => V.pure (.bool true)
  | .NotEq, .ref x, .ref y => V.bind (cmpEq e sc x y) fun _ => V.pure (.bool false)
  | .NotEq, .int x _, .int y _ => V.must (.i x y) (V.pure (.bool false))
  | op, a, b => treeV e n f sc (e.src.cmp op a b)

noncomputable def boolV (e : Ev) (n : Nat) (f : Fns) (sc : Sc) (op : BoolOp) (env : Env) : List Expr → V Value
  | [] => V.fail
  | [x] => f.eval sc x env
  | x :: y :: rest => V.bind (f.eval sc x env) fun v => V.bind (treeV e n f sc (e.src.truthy v)) fun t => match op, t with
    | .And, false => V.pure v
    | .Or, true => V.pure v
    | _, _ => boolV e n f sc op env (y :: rest)
/-- two texts laid together -/
noncomputable def addV (e : Ev) (n : Nat) (f : Fns) (sc : Sc) (a b : Value) : V Value := match a, b with
  | .str x _, .str y _ => match Nat.ble 1 x.length, Nat.ble 1 y.length, Nat.ble (x ++ y).length 100000 with
    | true, true, true => fun σ => some (.ok (.str (x ++ y) (e.tok + σ.tk)), { σ with tk := σ.tk + 1 }, [])
    | _, _, _ => V.fail
  | a, b => treeV e n f sc (e.src.add a b)
noncomputable def evalV (e : Ev) (n : Nat) (f : Fns) (sc : Sc) (x : Expr) (env : Env) : V Value := match x with
  | .BinOp l .Add r _ => V.bind (f.eval sc l env) fun a => V.bind (f.eval sc r env) fun b => addV e n f sc a b
  | .BoolOp op ys _ => boolV e n f sc op env ys
  | .Compare l [op] [r] _ => match behindInMarks op r with
    | false => V.bind (f.eval sc l env) fun a => V.bind (f.eval sc r env) fun b => cmpV e n f sc op a b
    | true => V.fail
  | x => treeV e n f sc (e.src.eval x env)

noncomputable def allV (f : Fns) (sc : Sc) (op : BoolOp) (env : Env) : List Expr → V Bool
  | [] => V.pure (op == .And)
  | x :: rest => V.bind (f.test sc x env) fun b => match op, b with
    | .And, false => V.pure false
    | .Or, true => V.pure true
    | _, _ => allV f sc op env rest

noncomputable def testV (e : Ev) (n : Nat) (f : Fns) (sc : Sc) (x : Expr) (env : Env) : V Bool := match x with
  | .UnaryOp .Not y _ => V.bind (f.test sc y env) fun b => V.pure (!b)
  | .BoolOp op ys _ => allV f sc op env ys
  | .Compare l [op] [r] _ => match behindInMarks op r with
    | false => V.bind (f.eval sc l env) fun a => V.bind (f.eval sc r env) fun b => V.bind (cmpV e n f sc op a b) fun c => treeV e n f sc (e.src.truthy c)
    | true => V.fail
  | .Compare .. => V.fail
  | .IfExp .. => V.fail
  | x => V.bind (f.eval sc x env) fun v => treeV e n f sc (e.src.truthy v)

noncomputable def isFn (o : Obj) : Bool := match o.cls with
  | .type "function" => true
  | _ => false
noncomputable def noAssign : Str := ⟨#[39, 102, 117, 110, 99, 116, 105, 111, 110, 39, 32, 111, 98, 106, 101, 99, 116, 32, 100, 111, 101, 115, 32, 110, 111, 116, 32, 115, 117, 112, 112, 111, 114, 116, 32, 105, 116, 101, 109, 32, 97, 115, 115, 105, 103, 110, 109, 101, 110, 116]⟩
noncomputable def excCtx (t h : Addr) : Obj := Obj.mapFields (·.setIfInBounds 2 (.ref h)) { cls := .type "TypeError", data := .fields #[.ref t, .none, .none, .none, .bool false, .none] }
/-- an item stored into a function, while h is handled -/
noncomputable def raiseFn (e : Ev) (h : Addr) (ov : Value) : V Flow := match ov with
  | .ref a => V.bind (getV e a) fun io => match isFn io.2 with
    | true => V.bind (getV e h) fun jo => match jo.2.data with
      | .fields vs => match (vs[2]? : Option Value) with
        | some .none => fun σ => some (.error (.ref (e.base + σ.m + 1)), { σ with news := (e.base + σ.m + 1, excCtx (e.base + σ.m) h) :: (e.base + σ.m, { cls := .type "tuple", data := .seq #[.str noAssign (e.tok + σ.tk)] }) :: σ.news, m := σ.m + 2, tk := σ.tk + 1 }, [])
        | _ => V.fail
      | _ => V.fail
    | false => V.fail
  | _ => V.fail
noncomputable def execV (e : Ev) (n : Nat) (f : Fns) (sc : Sc) (s : Stmt) (env : Env) : V Flow := match s with
  | .Try body (h₀ :: hs) orelse [] _ => tryV e f sc body h₀ hs orelse env
  | .If test body orelse _ => V.bind (f.test sc test env) fun b => match b with
    | true => f.execs sc body env
    | false => f.execs sc orelse env
  | .Return (some x) _ => V.bind (f.eval sc x env) fun v => V.pure (.ret v)
  | .Assign [.Subscript x i p₁] (.Constant c k p₂) p₃ => match sc.hdl with
    | some (.ref h) => V.bind (f.eval sc (.Constant c k p₂) env) fun _ => V.bind (f.eval sc x env) fun ov => V.bind (f.eval sc i env) fun _ => raiseFn e h ov
    | _ => treeV e n f sc (e.src.execs [.Assign [.Subscript x i p₁] (.Constant c k p₂) p₃] env)
  | .Assign [.Name x _] (.BinOp (.Constant c k p₂) .Add r p₃) _ => V.bind (f.eval sc (.BinOp (.Constant c k p₂) .Add r p₃) env) fun v => V.bind (treeV e n f sc (e.src.store env x v)) fun _ => V.pure .next
  | s => treeV e n f sc (e.src.execs [s] env)

noncomputable def codeV (e : Ev) (n : Nat) (f : Fns) (sc : Sc) (c : Code) : V Flow := match c with
  | .call (.ref a) args => callV e n f sc a args
  | _ => V.fail

noncomputable def fns (e : Ev) (n : Nat) : Nat → Fns
  | 0 => ⟨fun _ _ => V.fail, fun _ _ _ => V.fail, fun _ _ _ => V.fail, fun _ _ _ => V.fail, fun _ _ _ => V.fail, fun _ _ _ _ => V.fail⟩
  | k + 1 => ⟨codeV e n (fns e n k), fun sc ss env => execsV (fns e n k) sc env ss, execV e n (fns e n k), evalV e n (fns e n k), testV e n (fns e n k), handleV e n (fns e n k)⟩

/-- the names of the bottom frame -/
noncomputable def botL (e : Ev) : Option Addr := match e.bot with
  | some p => p.frame
  | none => none
noncomputable def isLoc (e : Ev) (env : Env) (x : Str) : Bool := match botL e with
  | some L => match Nat.beq env.locals L, env.scope.kind, env.kindOf x, x == ("__debug__" : Str) with
    | true, .function, some .local, false => true
    | _, _, _, _ => false
  | none => false
noncomputable def getN (x : Str) : V Value := fun σ => match rowOf σ.nm x with
  | some v => some (.ok v, σ, [])
  | none => none
noncomputable def setN (x : Str) (v : Value) : V Unit := fun σ => some (.ok (), { σ with tk := σ.tk + 1, nm := (x, v) :: σ.nm }, [])
noncomputable def newV (e : Ev) (o : Obj) : V Value := fun σ => match o.isFreed with
  | true => none
  | false => some (.ok (.ref (e.base + σ.m)), { σ with news := (e.base + σ.m, o) :: σ.news, m := σ.m + 1 }, [])
noncomputable def retV (r : Flow) : V Value := match r with
  | .ret v => V.pure v
  | _ => V.fail
noncomputable def lenO (o : Obj) : Option Nat := match o.cls, o.data with
  | .type "list", .seq xs _ => some xs.size
  | _, _ => none
/-- a call of a def, or len of a list -/
noncomputable def applyV (e : Ev) (f : Fns) (sc : Sc) (fv : Value) (vs : List Value) : V Value := match fv, vs with
  | .ref a, vs => V.bind (lookV e a) fun o => match isFnD o with
    | true => V.bind (f.code sc (.call (.ref a) ⟨vs, []⟩)) retV
    | false => V.fail
  | .builtin "len", [.ref a] => V.bind (getV e a) fun io => match lenO io.2 with
    | some k => match Nat.ble k 100 with
      | true => fun σ => some (.ok (.int (k : Nat) (e.tok + σ.tk + 1)), { σ with tk := σ.tk + 2 }, [])
      | false => V.fail
    | none => V.fail
  | _, _ => V.fail
noncomputable def isListO (o : Obj) : Bool := match o.cls with
  | .type "list" => true
  | _ => false
noncomputable def isStar : Expr → Bool
  | .Starred _ _ => true
  | _ => false
noncomputable def isComp : Expr → Bool
  | .ListComp .. => true
  | .SetComp .. => true
  | .DictComp .. => true
  | _ => false
/-- law's own expressions -/
noncomputable def evalL (e : Ev) (n : Nat) (f : Fns) (sc : Sc) (x : Expr) (env : Env) : V Value := match x with
  | .Name y p => match isLoc e env y with
    | true => getN y
    | false => treeV e n f sc (e.src.eval (.Name y p) env)
  | .Call (.Name g p) [a] [] _ => match isStar a with
    | false => V.bind (f.eval sc (.Name g p) env) fun fv => V.bind (f.eval sc a env) fun v => applyV e f sc fv [v]
    | true => V.fail
  | .Call (.Name g p) [a, b] [] _ => match isStar a, isStar b with
    | false, false => V.bind (f.eval sc (.Name g p) env) fun fv => V.bind (f.eval sc a env) fun v => V.bind (f.eval sc b env) fun w => applyV e f sc fv [v, w]
    | _, _ => V.fail
  | .Tuple [a, b] _ _ => match isStar a, isStar b with
    | false, false => V.bind (f.eval sc a env) fun v => V.bind (f.eval sc b env) fun w => newV e { cls := .type "tuple", data := .seq #[v, w] }
    | _, _ => V.fail
  | .Subscript (.Name a p) (.Name b q) _ => V.bind (f.eval sc (.Name a p) env) fun v => V.bind (f.eval sc (.Name b q) env) fun i => match v with
    | .ref l => V.bind (getV e l) fun io => match isListO io.2 with
      | true => treeV e n f sc (e.src.getI (.ref l) i)
      | false => V.fail
    | _ => V.fail
  | .Attribute (.Name a p) at_ _ => V.bind (f.eval sc (.Name a p) env) fun v => treeV e n f sc (e.src.getA v at_)
  | x => evalV e n f sc x env
noncomputable def execL (e : Ev) (n : Nat) (f : Fns) (sc : Sc) (s : Stmt) (env : Env) : V Flow := match s with
  | .Assign [.Name x p₁] r p₂ => match isLoc e env x, isComp r with
    | true, false => V.bind (f.eval sc r env) fun v => V.bind (setN x v) fun _ => V.pure .next
    | _, _ => V.fail
  | .Assign [.Attribute (.Name a p₁) at_ p₂] (.Name b p₃) p₄ => V.bind (f.eval sc (.Name b p₃) env) fun v => V.bind (f.eval sc (.Name a p₁) env) fun ov => V.bind (treeV e n f sc (e.src.setA ov at_ v)) fun _ => V.pure .next
  | .If test body orelse _ => V.bind (f.test sc test env) fun b => match b with
    | true => f.execs sc body env
    | false => f.execs sc orelse env
  | _ => V.fail
/-- law's own layer over the defs' -/
noncomputable def fnsL (e : Ev) (n k : Nat) : Nat → Fns
  | 0 => ⟨fun _ _ => V.fail, fun _ _ _ => V.fail, fun _ _ _ => V.fail, fun _ _ _ => V.fail, fun _ _ _ => V.fail, fun _ _ _ _ => V.fail⟩
  | j + 1 => ⟨(fns e n k).code, fun sc ss env => execsV (fnsL e n k j) sc env ss, execL e n (fnsL e n k j), evalL e n (fnsL e n k j), testV e n (fnsL e n k j), (fns e n k).handle⟩

noncomputable def srcO : Src where
  den := denote table
  execs := execs
  eval := eval
  truthy := truthy
  cmp := compareOp
  bindA := bindArgs
  newEnv := @newFunctionEnv
  hits := excMatches
  store := storeName
  goes := fun env n pos => do bindName env n .none; unbindBehindTheSuite env n pos
  red := reduceHash
  add := binaryOp .Add
  getA := fun v x => getAttr v x true
  setA := setAttr
  getI := getItem
noncomputable def srcZ : Src where
  den := PySem.W.ZFast.zw11892475500146522536 PySem.W.ZFast.tableZ
  execs := PySem.W.ZFast.zw12563942051412417395
  eval := PySem.W.ZFast.zw14044960220447912780
  truthy := PySem.W.ZFast.zw15245631507167962100
  cmp := PySem.W.ZFast.zw12886488535604756494
  bindA := PySem.W.ZFast.zw9782568553167038054
  newEnv := @PySem.W.ZFast.zw11113344188204177931
  hits := PySem.W.ZFast.zw17346088374725804007
  store := PySem.W.ZFast.zw7998390705656384164
  goes := fun env n pos => PySem.W.R.bindR (PySem.W.ZFast.zw7536695828754713326 env n .none) fun _ => PySem.W.ZFast.zw14851354246082423155 env n pos
  red := PySem.W.ZFast.zw12210062019545310541
  add := PySem.W.ZFast.zw2036766266224100846 .Add
  getA := fun v x => PySem.W.ZFast.zw4926136581373384958 v x true
  setA := PySem.W.ZFast.zw4178937747021576048
  getI := PySem.W.ZFast.zw270919826475788053
theorem srcZ_eq : srcO = srcZ := by
  unfold srcO srcZ
  rw [← PySem.W.ZFast.ze11892475500146522536, ← PySem.W.ZFast.tableZ_eq, ← PySem.W.ZFast.ze12563942051412417395, ← PySem.W.ZFast.ze14044960220447912780, ← PySem.W.ZFast.ze15245631507167962100,
    ← PySem.W.ZFast.ze12886488535604756494, ← PySem.W.ZFast.ze9782568553167038054, ← PySem.W.ZFast.ze11113344188204177931, ← PySem.W.ZFast.ze17346088374725804007, ← PySem.W.ZFast.ze7998390705656384164,
    ← PySem.W.ZFast.ze7536695828754713326, ← PySem.W.ZFast.ze14851354246082423155, ← PySem.W.ZFast.ze12210062019545310541, ← PySem.W.ZFast.ze2036766266224100846, ← PySem.W.ZFast.ze4926136581373384958, ← PySem.W.ZFast.ze4178937747021576048, ← PySem.W.ZFast.ze270919826475788053]
  congr 1
  funext env n pos
  rw [← PySem.W.R.bindR_eq]
  rfl
end Mine

end
section
open PySem PySem.W PySem.Calls PySem.Spec PyProof.Rows
set_option maxRecDepth 100000
namespace Mine

noncomputable def Ob.holds : Ob → Prop
  | .n a b => a = b
  | .i a b => a = b
  | .s a b => a = b
  | .l a b => a ≤ b
noncomputable def Ob.dup : Ob → Ob
  | .n a _ => .n a a
  | .i a _ => .i a a
  | .s a _ => .s a a
  | .l a b => .l a b
/-- the bounds that are wanted -/
noncomputable def lesOf : Obs → List (Nat × Nat)
  | [] => []
  | .l a b :: r => (a, b) :: lesOf r
  | _ :: r => lesOf r
theorem les_mem {a b : Nat} : ∀ {o : Obs}, Ob.l a b ∈ o → (a, b) ∈ lesOf o
  | [], h => by cases h
  | .l c d :: r, h => by
    unfold lesOf
    rcases List.mem_cons.mp h with e | h
    · cases e; exact .head _
    · exact .tail _ (les_mem h)
  | .n c d :: r, h => by
    unfold lesOf
    rcases List.mem_cons.mp h with e | h
    · cases e
    · exact les_mem h
  | .i c d :: r, h => by
    unfold lesOf
    rcases List.mem_cons.mp h with e | h
    · cases e
    · exact les_mem h
  | .s c d :: r, h => by
    unfold lesOf
    rcases List.mem_cons.mp h with e | h
    · cases e
    · exact les_mem h
noncomputable def Oks (o : Obs) : Prop := ∀ p ∈ o, p.holds
theorem oks_of_dup {o : Obs} (h : o.map Ob.dup = o) (hl : ∀ p ∈ lesOf o, p.1 ≤ p.2) : Oks o := by
  intro p hp
  have hp' := hp
  rw [← h] at hp
  obtain ⟨q, _, rfl⟩ := List.mem_map.mp hp
  cases q with
  | l a b => exact hl _ (les_mem hp')
  | _ => rfl
theorem Oks.left {a b : Obs} (h : Oks (a ++ b)) : Oks a := fun p hp => h p (List.mem_append.mpr (.inl hp))
theorem Oks.right {a b : Obs} (h : Oks (a ++ b)) : Oks b := fun p hp => h p (List.mem_append.mpr (.inr hp))
theorem Oks.head {a : Ob} {b : Obs} (h : Oks (a :: b)) : a.holds := h a (.head _)
theorem Oks.tail {a : Ob} {b : Obs} (h : Oks (a :: b)) : Oks b := fun p hp => h p (.tail _ hp)

noncomputable def markV (x : Option Addr) : Value := x.elim .none fun f => rawInt f
noncomputable def tbObj (vs : Array Value) : Obj := { cls := .type "traceback", dict := none, data := .fields vs }
noncomputable def botA (e : Ev) : List Addr := match e.bot with
  | some p => p.frame.toList
  | none => []

/-- the names of a frame, newest first -/
noncomputable def nmap (nm : List (Str × Value)) (x : Str) : Option Value := rowOf nm x
/-- the heap h as the ledger says, all else of h₀ as it was (but for the addresses T) -/
structure Rl (e : Ev) (h₀ : Heap) (T : List Addr) (h : Heap) (σ : Sg) : Prop where
  led : ∀ p ∈ σ.news, h.get? p.1 = some p.2
  tb : ∀ p ∈ σ.tbs, ∃ vs, h.get? p.1 = some (tbObj vs) ∧ vs.size = 11 ∧ vs[3]? = some (markV p.2)
  nd : (σ.news.map (·.1) ++ σ.tbs.map (·.1)).Nodup
  sz : h.objs.size = e.base + σ.m
  old : ∀ b o, h₀.get? b = some o → b ∉ T → h.get? b = some o
  own : ∀ b ∈ σ.news.map (·.1) ++ σ.tbs.map (·.1), (h₀.get? b = none ∨ b ∈ T) ∧ b ∉ botA e
  le : h₀.objs.size ≤ h.objs.size
  bot : ∀ p, e.bot = some p → ∃ L, p.frame = some L ∧ L < h₀.objs.size ∧ h.Ns L (nmap σ.nm)

/-- what the run leans on -/
structure Hyp (e : Ev) (prog : Program) (w : World) (h₀ : Heap) (T : List Addr) : Prop where
  X : ∀ a o, e.K a = some o → h₀.get? a = some o
  kT : ∀ a o, e.K a = some o → a ∉ T
  S : e.S = ⟨prog, w.params⟩
  src : e.src = srcO
  srch : e.srch = false
  botT : ∀ b ∈ botA e, b ∈ T
  lim : ∀ h : Heap, (∀ b o, h₀.get? b = some o → b ∉ T → h.get? b = some o) → h.NoLimit
  botK : ∀ p, e.bot = some p → p.scope.kind ≠ .module
  sys : (e.K sysModules).isSome = true

section
variable {e : Ev} {prog : Program} {w : World} {h₀ h : Heap} {T : List Addr} {σ : Sg}

theorem Rl.cert (R : Rl e h₀ T h σ) {σ' : Sg} (hn : σ'.news = σ.news) (ht : σ'.tbs = σ.tbs) (hm : σ'.m = σ.m) (hnm : σ'.nm = σ.nm := by rfl) : Rl e h₀ T h σ' := by
  obtain ⟨n, t, m, tk, c, nm⟩ := σ'
  simp only at hn ht hm hnm
  subst hn ht hm hnm
  exact ⟨R.led, R.tb, R.nd, R.sz, R.old, R.own, R.le, R.bot⟩
theorem Rl.ct (R : Rl e h₀ T h σ) (ct : List (Option Nat)) : Rl e h₀ T h { σ with cert := ct } := R.cert rfl rfl rfl

theorem nextIx_is {β : Type} {l : List (Addr × β)} {a : Addr} {x : Option Nat} {σ' : Sg} (H : e.srch = false) (h : nextIx e l σ a = some (x, σ')) : ∃ ct, σ' = { σ with cert := ct } := by
  unfold nextIx at h
  rw [H] at h
  simp only at h
  split at h
  · cases h; exact ⟨_, rfl⟩
  · cases h

theorem look_is (H : Hyp e prog w h₀ T) (R : Rl e h₀ T h σ) {a b : Addr} {o : Obj} {σ' : Sg} (hl : look e σ a = some (b, o, σ')) (hab : a = b) : h.get? a = some o ∧ ∃ ct, σ' = { σ with cert := ct } := by
  unfold look at hl
  split at hl
  · rename_i σ1 hn
    split at hl
    · rename_i o' hk
      cases hl
      exact ⟨R.old _ _ (H.X _ _ hk) (H.kT _ _ hk), nextIx_is H.srch hn⟩
    · cases hl
  · rename_i i σ1 hn
    split at hl
    · rename_i b' o' hi
      cases hl
      rw [hab]
      exact ⟨R.led _ (List.mem_of_getElem? hi), nextIx_is H.srch hn⟩
    · cases hl
  · cases hl

theorem Rl.bot_old (R : Rl e h₀ T h σ) {L : Addr} (hL : L ∈ botA e) : L < h₀.objs.size := by
  unfold botA at hL
  split at hL
  · rename_i p hp
    obtain ⟨L', h1, h2, _⟩ := R.bot p hp
    rw [h1] at hL
    have : L = L' := by simpa using hL
    rw [this]; exact h2
  · cases hL

theorem Rl.push (R : Rl e h₀ T h σ) {o : Obj} (hf : o.isFreed = false) : Rl e h₀ T (h.push o) { σ with news := (e.base + σ.m, o) :: σ.news, m := σ.m + 1 } := by
  have hn : h₀.get? (e.base + σ.m) = none := by
    cases hq : h₀.get? (e.base + σ.m) with
    | none => rfl
    | some o' =>
      have h1 : e.base + σ.m < h₀.objs.size := Heap.lt_size hq
      have h2 := R.le
      have h3 := R.sz
      omega
  have hlt : ∀ b ∈ σ.news.map (·.1) ++ σ.tbs.map (·.1), b < e.base + σ.m := by
    intro b hb
    rw [← R.sz]
    rcases List.mem_append.mp hb with hb | hb
    · obtain ⟨p, hp, rfl⟩ := List.mem_map.mp hb; exact Heap.lt_size (R.led p hp)
    · obtain ⟨p, hp, rfl⟩ := List.mem_map.mp hb
      obtain ⟨vs, hv, _⟩ := R.tb p hp
      exact Heap.lt_size hv
  refine ⟨fun p hp => ?_, fun p hp => ?_, ?_, ?_, fun b o' e' q => Heap.get?_push_of_some _ (R.old b o' e' q), ?_, ?_, fun p hp => ?_⟩
  · rcases List.mem_cons.mp hp with rfl | hp
    · show (h.push o).get? (e.base + σ.m) = some o
      rw [← R.sz]; exact Heap.get?_push_size _ hf
    · exact Heap.get?_push_of_some _ (R.led p hp)
  · obtain ⟨vs, h1, h2⟩ := R.tb p hp
    exact ⟨vs, Heap.get?_push_of_some _ h1, h2⟩
  · show (((e.base + σ.m, o) :: σ.news).map (·.1) ++ σ.tbs.map (·.1)).Nodup
    rw [List.map_cons, List.cons_append]
    refine List.nodup_cons.mpr ⟨fun ha => ?_, R.nd⟩
    exact absurd (hlt _ ha) (Nat.lt_irrefl _)
  · rw [Heap.size_push, R.sz]; rfl
  · intro b hb
    have hb' : b ∈ (e.base + σ.m) :: (σ.news.map (·.1) ++ σ.tbs.map (·.1)) := hb
    rcases List.mem_cons.mp hb' with rfl | hb
    · refine ⟨.inl hn, fun hL => ?_⟩
      have h1 : e.base + σ.m < h₀.objs.size := R.bot_old hL
      have h2 := R.le
      have h3 := R.sz
      omega
    · exact R.own b hb
  · rw [Heap.size_push]; exact Nat.le_succ_of_le R.le
  · obtain ⟨L, h1, h2, h3⟩ := R.bot p hp
    exact ⟨L, h1, h2, h3.push _⟩

theorem Rl.pushT (R : Rl e h₀ T h σ) {vs : Array Value} {mk : Option Addr} (hv : vs.size = 11) (h3 : vs[3]? = some (markV mk)) : Rl e h₀ T (h.push (tbObj vs)) { σ with tbs := (e.base + σ.m, mk) :: σ.tbs, m := σ.m + 1 } := by
  have R' := R.push (o := tbObj vs) rfl
  refine ⟨fun p hp => R'.led p (.tail _ hp), fun p hp => ?_, ?_, R'.sz, R'.old, fun b hb => ?_, R'.le, R'.bot⟩
  · rcases List.mem_cons.mp hp with rfl | hp
    · exact ⟨vs, R'.led _ (.head _), hv, h3⟩
    · exact R'.tb p hp
  · have q : ((e.base + σ.m) :: (σ.news.map (·.1) ++ σ.tbs.map (·.1))).Nodup := R'.nd
    show (σ.news.map (·.1) ++ (e.base + σ.m) :: σ.tbs.map (·.1)).Nodup
    exact (List.perm_middle.nodup_iff).mpr q
  · refine R'.own b ?_
    show b ∈ (e.base + σ.m) :: (σ.news.map (·.1) ++ σ.tbs.map (·.1))
    have hb' : b ∈ σ.news.map (·.1) ++ (e.base + σ.m) :: σ.tbs.map (·.1) := hb
    rw [List.mem_append, List.mem_cons] at hb'
    rw [List.mem_cons, List.mem_append]
    rcases hb' with h | h | h
    · exact .inr (.inl h)
    · exact .inl h
    · exact .inr (.inr h)

theorem map_set_fst {β : Type} {l : List (Addr × β)} {i : Nat} {b : Addr} {o o' : β} (hi : l[i]? = some (b, o)) : (l.set i (b, o')).map (·.1) = l.map (·.1) := by
  rw [List.map_set]
  apply List.ext_getElem?
  intro j
  rw [List.getElem?_set]
  split
  · rename_i hij
    subst hij
    split
    · rw [List.getElem?_map, hi]; rfl
    · rename_i hn
      obtain ⟨hlt, _⟩ := List.getElem?_eq_some_iff.mp hi
      simp at hn; omega
  · rfl
theorem mem_set_cases {β : Type} {l : List (Addr × β)} (nd : (l.map (·.1)).Nodup) {i : Nat} {b : Addr} {o o' : β} (hi : l[i]? = some (b, o)) {p : Addr × β} (hp : p ∈ l.set i (b, o')) : p = (b, o') ∨ (p ∈ l ∧ p.1 ≠ b) := by
  obtain ⟨j, hj, hpj⟩ := List.getElem_of_mem hp
  by_cases hij : i = j
  · subst hij
    left
    rw [← hpj]; simp
  · right
    have hp' : l[j]? = some p := by
      rw [← hpj]
      have : (l.set i (b, o'))[j]? = l[j]? := by rw [List.getElem?_set]; simp [hij]
      rw [← this]; exact List.getElem?_eq_getElem hj
    refine ⟨List.mem_of_getElem? hp', fun hpb => ?_⟩
    have h1 : (l.map (·.1))[i]? = some b := by rw [List.getElem?_map, hi]; rfl
    have h2 : (l.map (·.1))[j]? = some b := by rw [List.getElem?_map, hp']; simp [hpb]
    obtain ⟨l1, e1⟩ := List.getElem?_eq_some_iff.mp h1
    obtain ⟨l2, e2⟩ := List.getElem?_eq_some_iff.mp h2
    exact hij ((List.getElem_inj nd).mp (e1.trans e2.symm))

theorem Rl.mem_news (_ : Rl e h₀ T h σ) {i : Nat} {b : Addr} {o : Obj} (hi : σ.news[i]? = some (b, o)) : b ∈ σ.news.map (·.1) ++ σ.tbs.map (·.1) :=
  List.mem_append.mpr (.inl (List.mem_map.mpr ⟨_, List.mem_of_getElem? hi, rfl⟩))
theorem Rl.at_ (R : Rl e h₀ T h σ) {i : Nat} {b : Addr} {o : Obj} (hi : σ.news[i]? = some (b, o)) : h.get? b = some o := R.led _ (List.mem_of_getElem? hi)

theorem Rl.other (R : Rl e h₀ T h σ) {b : Addr} {h' : Heap} (hb : b ∈ σ.news.map (·.1) ++ σ.tbs.map (·.1)) (hs : Heap.SameBut b h h') :
    (∀ c o, h₀.get? c = some o → c ∉ T → h'.get? c = some o) ∧ (∀ p, e.bot = some p → ∃ L, p.frame = some L ∧ L < h₀.objs.size ∧ h'.Ns L (nmap σ.nm)) := by
  constructor
  · intro c o hc hn
    have ne : c ≠ b := by
      rintro rfl
      rcases (R.own _ hb).1 with q | q
      · rw [hc] at q; cases q
      · exact hn q
    exact (hs.2 c ne).trans (R.old c o hc hn)
  · intro p hp
    obtain ⟨L, h1, h2, h3⟩ := R.bot p hp
    refine ⟨L, h1, h2, ?_⟩
    have ne : L ≠ b := by
      rintro rfl
      refine (R.own _ hb).2 ?_
      unfold botA
      rw [hp]
      simp [h1]
    exact h3.at fun o ho => (hs.2 L ne).trans ho

theorem Rl.set (R : Rl e h₀ T h σ) {i : Nat} {b : Addr} {o o' : Obj} {h' : Heap} (hi : σ.news[i]? = some (b, o)) (hs : Heap.SameBut b h h') (hg : h'.get? b = some o') :
    Rl e h₀ T h' { σ with news := σ.news.set i (b, o') } := by
  have hb := R.mem_news hi
  have em : (σ.news.set i (b, o')).map (·.1) = σ.news.map (·.1) := map_set_fst hi
  have nd1 : (σ.news.map (·.1)).Nodup := (List.nodup_append.mp R.nd).1
  obtain ⟨k1, k2⟩ := R.other hb hs
  refine ⟨fun p hp => ?_, fun p hp => ?_, by show ((σ.news.set i (b, o')).map (·.1) ++ _).Nodup; rw [em]; exact R.nd, by rw [hs.1]; exact R.sz, k1, fun c hc => R.own c (by have : c ∈ (σ.news.set i (b, o')).map (·.1) ++ σ.tbs.map (·.1) := hc; rwa [em] at this), by rw [hs.1]; exact R.le, k2⟩
  · rcases mem_set_cases nd1 hi hp with rfl | ⟨hm, hne⟩
    · exact hg
    · exact (hs.2 _ hne).trans (R.led p hm)
  · obtain ⟨vs, h1, h2⟩ := R.tb p hp
    refine ⟨vs, (hs.2 _ ?_).trans h1, h2⟩
    intro q
    exact (List.nodup_append.mp R.nd).2.2 b (List.mem_map.mpr ⟨_, List.mem_of_getElem? hi, rfl⟩) p.1 (List.mem_map.mpr ⟨p, hp, rfl⟩) q.symm

theorem Rl.setT (R : Rl e h₀ T h σ) {i : Nat} {b : Addr} {mk mk' : Option Addr} {h' : Heap} {vs : Array Value} (hi : σ.tbs[i]? = some (b, mk)) (hs : Heap.SameBut b h h') (hg : h'.get? b = some (tbObj vs)) (hv : vs.size = 11) (h3 : vs[3]? = some (markV mk')) :
    Rl e h₀ T h' { σ with tbs := σ.tbs.set i (b, mk') } := by
  have hb : b ∈ σ.news.map (·.1) ++ σ.tbs.map (·.1) := List.mem_append.mpr (.inr (List.mem_map.mpr ⟨_, List.mem_of_getElem? hi, rfl⟩))
  have em : (σ.tbs.set i (b, mk')).map (·.1) = σ.tbs.map (·.1) := map_set_fst hi
  have nd2 : (σ.tbs.map (·.1)).Nodup := (List.nodup_append.mp R.nd).2.1
  obtain ⟨k1, k2⟩ := R.other hb hs
  refine ⟨fun p hp => ?_, fun p hp => ?_, by show (_ ++ (σ.tbs.set i (b, mk')).map (·.1)).Nodup; rw [em]; exact R.nd, by rw [hs.1]; exact R.sz, k1, fun c hc => R.own c (by have : c ∈ σ.news.map (·.1) ++ (σ.tbs.set i (b, mk')).map (·.1) := hc; rwa [em] at this), by rw [hs.1]; exact R.le, k2⟩
  · refine (hs.2 _ ?_).trans (R.led p hp)
    intro q
    exact (List.nodup_append.mp R.nd).2.2 p.1 (List.mem_map.mpr ⟨p, hp, rfl⟩) b (List.mem_map.mpr ⟨_, List.mem_of_getElem? hi, rfl⟩) q
  · rcases mem_set_cases nd2 hi hp with rfl | ⟨hm, hne⟩
    · exact ⟨vs, hg, hv, h3⟩
    · obtain ⟨us, h1, h2⟩ := R.tb p hm
      exact ⟨us, (hs.2 _ hne).trans h1, h2⟩

theorem Rl.loose (R : Rl e h₀ T h σ) (H : Hyp e prog w h₀ T) {p : Env} (hp : e.bot = some p) {L : Addr} (hL : p.frame = some L) {h' : Heap} (hs : Heap.SameBut L h h') {nm : List (Str × Value)} (hg : h'.Ns L (nmap nm)) : Rl e h₀ T h' { σ with nm := nm } := by
  have hLb : L ∈ botA e := by unfold botA; rw [hp]; simp [hL]
  have ne : ∀ b ∈ σ.news.map (·.1) ++ σ.tbs.map (·.1), b ≠ L := by
    rintro b hb rfl
    exact (R.own _ hb).2 hLb
  refine ⟨fun p hp => (hs.2 _ (ne _ (List.mem_append.mpr (.inl (List.mem_map.mpr ⟨p, hp, rfl⟩))))).trans (R.led p hp), fun p hp => ?_, R.nd, by rw [hs.1]; exact R.sz, fun b o hb hn => ?_, R.own, by rw [hs.1]; exact R.le, fun q hq => ?_⟩
  · obtain ⟨vs, h1, h2⟩ := R.tb p hp
    exact ⟨vs, (hs.2 _ (ne _ (List.mem_append.mpr (.inr (List.mem_map.mpr ⟨p, hp, rfl⟩))))).trans h1, h2⟩
  · refine (hs.2 b ?_).trans (R.old b o hb hn)
    rintro rfl
    exact hn (H.botT _ hLb)
  · obtain ⟨L', h1, h2, h3⟩ := R.bot q hq
    rw [hp] at hq
    cases hq
    rw [hL] at h1
    cases h1
    exact ⟨L, hL, h2, hg⟩

/-- what is wanted at a run's end -/
noncomputable def fin {α : Type} (Q : α → Shared → Prop) (E : Value → Shared → Prop) (s : Shared) : Except Value α → Prop
  | .ok a => Q a s
  | .error x => E x s

/-- the run m is that of the tree t -/
noncomputable def Snd (e : Ev) (prog : Program) (w : World) (h₀ : Heap) (T : List Addr) (A : Around) {α : Type} (m : V α) (t : Sem α) : Prop :=
  ∀ σ r σ' o, m σ = some (r, σ', o) → Oks o → ∀ (Q : α → Shared → Prop) (E : Value → Shared → Prop) (g : Array GenState) (d : Drawn) (os : OsState) (h : Heap), Rl e h₀ T h σ →
    (∀ h', Rl e h₀ T h' σ' → fin Q E ⟨h', g, d, e.tok + σ'.tk, os⟩ r) → wpAny (model prog w) A t Q E ⟨h, g, d, e.tok + σ.tk, os⟩

noncomputable def codeIn (M : Model) (A : Around) (hd : Option Value) (c : Code) (R : Result → Shared → Prop) (s : Shared) : Prop :=
  ∀ (Γ : PySem.Ctx) (p : Pos), Γ.In A → wpCode M (Γ.enter c hd p) R p s
theorem codeIn_of {M : Model} {A : Around} {hd : Option Value} {c : Code} {R : Result → Shared → Prop} {s : Shared} (hnb : hd ≠ some byPass) (x : codeAny M (A.mark hd) c R s) : codeIn M A hd c R s :=
  fun Γ p hΓ => x _ p rfl (hΓ.enter c hd p hnb)

noncomputable def IhOk (e : Ev) (prog : Program) (w : World) (h₀ : Heap) (T : List Addr) (A : Around) (ih : Ih) : Prop :=
  ∀ hd c σ r σ' o, ih hd A.handled c σ = some (r, σ', o) → Oks o → hd ≠ some byPass → ∀ (R : Result → Shared → Prop) (g : Array GenState) (d : Drawn) (os : OsState) (h : Heap),
    Rl e h₀ T h σ → (∀ h', Rl e h₀ T h' σ' → R r ⟨h', g, d, e.tok + σ'.tk, os⟩) → codeIn (model prog w) A hd c R ⟨h, g, d, e.tok + σ.tk, os⟩

theorem okM_ne {hd : Option Value} (h : okM hd = true) : hd ≠ some byPass := by
  intro q; subst q; simp [okM] at h

theorem run_ok (H : Hyp e prog w h₀ T) {A : Around} {ih : Ih} (IH : IhOk e prog w h₀ T A ih) {α : Type} : ∀ (t : Sem α), Snd e prog w h₀ T A (run e ih A.handled t) t := by
  intro t
  induction t with
  | pure a =>
    intro σ r σ' o hr _ Q E g d os h R hq
    simp only [run] at hr
    cases hr
    exact wpAny_pure (hq h R)
  | raise x =>
    intro σ r σ' o hr _ Q E g d os h R hq
    simp only [run] at hr
    cases hr
    exact wpAny_throw (hq h R)
  | rule tag k ihk =>
    intro σ r σ' o hr ho Q E g d os h R hq
    simp only [run] at hr
    exact wpAny_bind (m := rule tag) (f := k) (wpAny_rule (ihk () σ r σ' o hr ho Q E g d os h R hq))
  | «at» p k ihk =>
    intro σ r σ' o hr ho Q E g d os h R hq
    simp only [run] at hr
    exact wpAny_bind (m := standAt p) (f := k) (wpAny_standAt (ihk () σ r σ' o hr ho Q E g d os h R hq))
  | point l k ihk =>
    intro σ r σ' o hr ho Q E g d os h R hq
    simp only [run] at hr
    have z := ihk () σ r σ' o hr ho Q E g d os h R hq
    intro Γ p hΓ
    exact z Γ p hΓ
  | ask k ihk =>
    intro σ r σ' o hr ho Q E g d os h R hq
    simp only [run] at hr
    rw [H.S] at hr
    exact wpAny_bind (m := ask) (f := k) (wpAny_askSetting (ihk _ σ r σ' o hr ho Q E g d os h R hq))
  | load a q k ihk =>
    intro σ r σ' o hr ho Q E g d os h R hq
    simp only [run] at hr
    split at hr
    · rename_i b ob σ0 hl
      unfold more at hr
      split at hr
      · rename_i r1 σ1 o1 hr1
        cases hr
        obtain ⟨hg, ct, rfl⟩ := look_is H R hl ho.head
        exact wpAny_bind (m := loadPart a q) (f := k) (wpAny_loadPart hg (ihk ob _ _ _ _ hr1 ho.tail Q E g d os h (R.ct _) hq))
      · cases hr
    · cases hr
  | loadIfAlive a k ihk =>
    intro σ r σ' o hr ho Q E g d os h R hq
    simp only [run] at hr
    split at hr
    · rename_i b ob σ0 hl
      unfold more at hr
      split at hr
      · rename_i r1 σ1 o1 hr1
        cases hr
        obtain ⟨hg, ct, rfl⟩ := look_is H R hl ho.head
        have z := ihk (some ob) _ _ _ _ hr1 ho.tail Q E g d os h (R.ct _) hq
        intro Γ p hΓ
        show Sem.wp _ _ (k (h.get? a)) _ _ _ _
        rw [hg]
        exact z Γ p hΓ
      · cases hr
    · cases hr
  | update a q f k ihk =>
    intro σ r σ' o hr ho Q E g d os h R hq
    simp only [run] at hr
    split at hr
    · rename_i i σ0 hn
      obtain ⟨ct, rfl⟩ := nextIx_is H.srch hn
      split at hr
      · rename_i b ob hi
        split at hr
        · cases hr
        · rename_i hf
          unfold more at hr
          split at hr
          · rename_i r1 σ1 o1 hr1
            cases hr
            have hab : a = b := ho.head
            subst hab
            have ha := R.at_ hi
            have R' := R.set hi (Heap.SameBut.update ..) (Heap.get?_update_self f ha hf)
            exact wpAny_bind (m := updatePart a q f) (f := k) (wpAny_updatePart ha (ihk () _ _ _ _ hr1 ho.tail Q E g d os _ (R'.cert rfl rfl rfl) hq))
          · cases hr
      · cases hr
    · cases hr
  | alloc ob k ihk =>
    intro σ r σ' o hr ho Q E g d os h R hq
    simp only [run] at hr
    split at hr
    · cases hr
    · rename_i hf
      refine wpAny_bind (m := alloc ob) (f := k) (wpAny_alloc ?_)
      show wpAny _ _ (k h.objs.size) _ _ _
      rw [R.sz]
      exact ihk _ _ _ _ _ hr ho Q E g d os _ (R.push hf) hq
  | fresh k ihk =>
    intro σ r σ' o hr ho Q E g d os h R hq
    simp only [run] at hr
    exact wpAny_bind (m := fresh) (f := k) (wpAny_fresh (ihk _ _ _ _ _ hr ho Q E g d os h (R.cert rfl rfl rfl) hq))
  | handled own k ihk =>
    intro σ r σ' o hr ho Q E g d os h R hq
    cases own with
    | true => simp only [run] at hr; cases hr
    | false =>
      simp only [run] at hr
      exact wpAny_bind (m := handled) (f := k) (wpAny_handled (ihk _ _ _ _ _ hr ho Q E g d os h R hq))
  | call c hd gd l k ihk =>
    intro σ r σ' o hr ho Q E g d os h R hq
    simp only [run] at hr
    split at hr
    · rename_i hm
      split at hr
      · rename_i r1 σ1 o1 hr1
        unfold after at hr
        split at hr
        · rename_i r2 σ2 o2 hr2
          cases hr
          have z := IH hd c σ r1 σ1 o1 hr1 ho.left (okM_ne hm) (fun r' s' => wpAny (model prog w) A (k r') Q E s') g d os h R
            (fun h' R' => ihk r1 σ1 r σ' o2 hr2 ho.right Q E g d os h' R' hq)
          intro Γ p hΓ
          rw [Sem.wp_call]
          exact wpCode_mono (fun r' s' h' => h' Γ p hΓ) (z Γ p hΓ)
        · cases hr
      · cases hr
    · cases hr
  | _ => intro σ r σ' o hr; simp only [run] at hr; cases hr

/-- a code as codeAny, by its run -/
noncomputable def CodeOk (e : Ev) (prog : Program) (w : World) (h₀ : Heap) (T : List Addr) (A : Around) (m : Sg → Option (Result × Sg × Obs)) (c : Code) : Prop :=
  ∀ σ r σ' o, m σ = some (r, σ', o) → Oks o → ∀ (R : Result → Shared → Prop) (g : Array GenState) (d : Drawn) (os : OsState) (h : Heap),
    Rl e h₀ T h σ → (∀ h', Rl e h₀ T h' σ' → R r ⟨h', g, d, e.tok + σ'.tk, os⟩) → codeAny (model prog w) A c R ⟨h, g, d, e.tok + σ.tk, os⟩

theorem entry_new : ∀ id ∈ newIds, entryFor table id = some Builtin.«BaseException.__new__» := by
  intro id h
  simp only [newIds, List.mem_cons, List.not_mem_nil, or_false] at h
  rcases h with rfl | rfl | rfl | rfl | rfl | rfl | rfl | rfl <;> exact entryFor_alias (id' := "BaseException.__new__") (by rw [fastTable_eq_tree]; kernel_rfl) (by first | rfl | decide +kernel) (by decide +kernel) (by rw [fastTable_eq_tree]; kernel_rfl)
theorem newLook (id : String) (args : Args) : ∃ k, Builtin.«BaseException.__new__» args = .stack k ∧ ∀ p below, k ((.builtin id args, p) :: below) = k [(.builtin id args, ⟨0, 0, 0, 0⟩)] := ⟨_, rfl, fun _ _ => rfl⟩
theorem own_look {c : Code} (h : ownLook c = true) : ∃ k, denote table c = .stack k ∧ ∀ p below, k ((c, p) :: below) = k [(c, ⟨0, 0, 0, 0⟩)] := by
  unfold ownLook at h
  split at h
  · rename_i id args
    have hm : id ∈ newIds := List.contains_iff_mem.mp h
    obtain ⟨k, h1, h2⟩ := newLook id args
    refine ⟨k, ?_, h2⟩
    show (match entryFor table id with | some b => b args | none => unsupported ((withoutEnding? id "#data").getD id)) = _
    rw [entry_new id hm]
    exact h1
  · cases h
/-- the tree that is run for a code -/
theorem code_head {c : Code} {t : Sem Fin} (h : headOf c (denote table c) = some t) {A : Around} {M : Model} (hM : M.den = denote table) {R : Result → Shared → Prop} {s : Shared}
    (x : wpAny M (A.under c) t (fun fin s' => match fin with | .done f => R (.ok f) s' | .again c' => c'.quiet = true ∧ codeAny M A c' R s') (fun e s' => R (.error e) s') s) : codeAny M A c R s := by
  cases hk : ownLook c with
  | true =>
    obtain ⟨k, h1, h2⟩ := own_look hk
    rw [h1] at h
    simp only [headOf, hk] at h
    cases h
    refine codeAny_of_own fun Γ p hc hΓ => ?_
    rw [hM, h1, Sem.wp_stack, hc, h2]
    exact x Γ p (hc ▸ hΓ.in)
  | false =>
    refine codeAny_of_tree ?_
    rw [hM]
    have : t = denote table c := by
      unfold headOf at h
      split at h
      · rw [hk] at h; cases h
      · cases h; rfl
    rw [← this]
    exact x

theorem code_ok (H : Hyp e prog w h₀ T) : ∀ (n : Nat) (A : Around) (hd : Option Value) (c : Code), CodeOk e prog w h₀ T (A.mark hd) (code e n hd A.handled c) c
  | 0 => by intro A hd c σ r σ' o hr; cases hr
  | n + 1 => by
    intro A hd c σ r σ' o hr ho R g d os h hR hq
    have IH := code_ok H n
    have IH' : ∀ A : Around, IhOk e prog w h₀ T A (code e n) := fun A hd c σ r σ' o hr ho hnb R g d os h hR hq => codeIn_of hnb (IH A hd c σ r σ' o hr ho R g d os h hR hq)
    simp only [code] at hr
    have es : e.src.den = denote table := by rw [H.src]; rfl
    rw [es] at hr
    split at hr
    · cases hr
    · split at hr
      · cases hr
      rename_i t ht
      refine code_head ht rfl ?_
      have hA' : ((A.mark hd).under c).handled = hd.or A.handled := rfl
      split at hr
      · rename_i f σ1 o1 h1
        cases hr
        rw [← hA'] at h1
        exact run_ok H (IH' _) _ _ _ _ _ h1 ho _ _ g d os h hR fun h' R' => hq h' R'
      · rename_i c' σ1 o1 h1
        split at hr
        · rename_i hqt
          unfold after at hr
          split at hr
          · rename_i r2 σ2 o2 h2
            cases hr
            rw [← hA'] at h1
            exact run_ok H (IH' _) _ _ _ _ _ h1 ho.left _ _ g d os h hR fun h' R' => ⟨hqt, IH A hd c' σ1 r σ' o2 h2 ho.right R g d os h' R' hq⟩
          · cases hr
        · cases hr
      · rename_i x σ1 o1 h1
        cases hr
        rw [← hA'] at h1
        exact run_ok H (IH' _) _ _ _ _ _ h1 ho _ _ g d os h hR fun h' R' => hq h' R'
      · cases hr
theorem code_ih (H : Hyp e prog w h₀ T) (n : Nat) (A : Around) : IhOk e prog w h₀ T A (code e n) := fun hd c σ r σ' o hr ho hnb R g d os h hR hq => codeIn_of hnb (code_ok H n A hd c σ r σ' o hr ho R g d os h hR hq)
end
end Mine

end
section
open PySem PySem.W PySem.Calls PySem.Spec PyProof.Rows
set_option maxRecDepth 100000
namespace Mine
section
variable {α β : Type} {σ σ' : Sg} {o : Obs}
theorem bind_ok {m : V α} {f : α → V β} {r : Except Value β} (h : V.bind m f σ = some (r, σ', o)) :
    (∃ a σ1 o1 o2, m σ = some (.ok a, σ1, o1) ∧ f a σ1 = some (r, σ', o2) ∧ o = o1 ++ o2) ∨ (∃ x, m σ = some (.error x, σ', o) ∧ r = .error x) := by
  unfold V.bind at h
  split at h
  · rename_i a σ1 o1 hm
    unfold after at h
    split at h
    · rename_i r2 σ2 o2 hf
      cases h
      exact .inl ⟨a, σ1, o1, o2, hm, hf, rfl⟩
    · cases h
  · rename_i x σ1 o1 hm
    cases h
    exact .inr ⟨x, hm, rfl⟩
  · cases h
theorem sure_ok {m : V α} {f : α → V β} {r : Except Value β} (h : V.sure m f σ = some (r, σ', o)) :
    ∃ a σ1 o1 o2, m σ = some (.ok a, σ1, o1) ∧ f a σ1 = some (r, σ', o2) ∧ o = o1 ++ o2 := by
  unfold V.sure at h
  split at h
  · rename_i a σ1 o1 hm
    unfold after at h
    split at h
    · rename_i r2 σ2 o2 hf
      cases h
      exact ⟨a, σ1, o1, o2, hm, hf, rfl⟩
    · cases h
  · cases h
theorem ends_ok {m : V α} {f : Except Value α → V β} {r : Except Value β} (h : V.ends m f σ = some (r, σ', o)) :
    ∃ r1 σ1 o1 o2, m σ = some (r1, σ1, o1) ∧ f r1 σ1 = some (r, σ', o2) ∧ o = o1 ++ o2 := by
  unfold V.ends at h
  split at h
  · rename_i r1 σ1 o1 hm
    unfold after at h
    split at h
    · rename_i r2 σ2 o2 hf
      cases h
      exact ⟨r1, σ1, o1, o2, hm, hf, rfl⟩
    · cases h
  · cases h
theorem must_ok {a : Ob} {m : V α} {r : Except Value α} (h : V.must a m σ = some (r, σ', o)) : ∃ o2, m σ = some (r, σ', o2) ∧ o = a :: o2 := by
  unfold V.must after at h
  split at h
  · rename_i r2 σ2 o2 hf
    cases h
    exact ⟨o2, hf, rfl⟩
  · cases h
theorem getV_ok {e : Ev} {a : Addr} {r : Except Value (Nat × Obj)} (H : e.srch = false) (h : getV e a σ = some (r, σ', o)) :
    ∃ i ob b ct, r = .ok (i, ob) ∧ σ' = { σ with cert := ct } ∧ σ.news[i]? = some (b, ob) ∧ o = [.n a b] := by
  unfold getV at h
  split at h
  · rename_i i σ1 hn
    obtain ⟨ct, rfl⟩ := nextIx_is H hn
    split at h
    · rename_i b ob hi
      cases h
      exact ⟨i, ob, b, ct, rfl, rfl, hi, rfl⟩
    · cases h
  · cases h
theorem setV_ok {i : Nat} {ob : Obj} {r : Except Value Unit} (h : setV i ob σ = some (r, σ', o)) :
    ∃ b o0, σ.news[i]? = some (b, o0) ∧ ob.isFreed = false ∧ r = .ok () ∧ σ' = { σ with news := σ.news.set i (b, ob) } ∧ o = [] := by
  unfold setV at h
  split at h
  · rename_i b o0 hi
    split at h
    · cases h
    · rename_i hf
      cases h
      exact ⟨b, o0, hi, hf, rfl, rfl, rfl⟩
  · cases h
theorem getT_ok {e : Ev} {a : Addr} {r : Except Value (Nat × Option Addr)} (H : e.srch = false) (h : getT e a σ = some (r, σ', o)) :
    ∃ i mk b ct, r = .ok (i, mk) ∧ σ' = { σ with cert := ct } ∧ σ.tbs[i]? = some (b, mk) ∧ o = [.n a b] := by
  unfold getT at h
  split at h
  · rename_i i σ1 hn
    obtain ⟨ct, rfl⟩ := nextIx_is H hn
    split at h
    · rename_i b ob hi
      cases h
      exact ⟨i, ob, b, ct, rfl, rfl, hi, rfl⟩
    · cases h
  · cases h
theorem setT_ok {i : Nat} {mk : Option Addr} {r : Except Value Unit} (h : setT i mk σ = some (r, σ', o)) :
    ∃ b o0, σ.tbs[i]? = some (b, o0) ∧ r = .ok () ∧ σ' = { σ with tbs := σ.tbs.set i (b, mk) } ∧ o = [] := by
  unfold setT at h
  split at h
  · rename_i b o0 hi
    cases h
    exact ⟨b, o0, hi, rfl, rfl, rfl⟩
  · cases h
theorem lookV_ok {e : Ev} {a : Addr} {r : Except Value Obj} (h : lookV e a σ = some (r, σ', o)) : ∃ b ob, look e σ a = some (b, ob, σ') ∧ r = .ok ob ∧ o = [.n a b] := by
  unfold lookV at h
  split at h
  · rename_i b ob σ1 hl
    cases h
    exact ⟨b, ob, hl, rfl, rfl⟩
  · cases h
theorem set_self {β : Type} {l : List β} {i : Nat} {x : β} (h : l[i]? = some x) : l.set i x = l := by
  apply List.ext_getElem?
  intro j
  rw [List.getElem?_set]
  split
  · rename_i hij
    subst hij
    split
    · exact h.symm
    · rename_i hn
      obtain ⟨hlt, _⟩ := List.getElem?_eq_some_iff.mp h
      omega
  · rfl
end

section
variable {e : Ev} {prog : Program} {w : World} {h₀ : Heap} {T : List Addr} {A : Around}

theorem Snd.bind {α β : Type} {m : V α} {f : α → V β} {t : Sem α} {k : α → Sem β} (hm : Snd e prog w h₀ T A m t) (hf : ∀ a, Snd e prog w h₀ T A (f a) (k a)) : Snd e prog w h₀ T A (V.bind m f) (t >>= k) := by
  intro σ r σ' o hr ho Q E g d os h R hq
  rcases bind_ok hr with ⟨a, σ1, o1, o2, h1, h2, rfl⟩ | ⟨x, h1, rfl⟩
  · exact wpAny_bind (hm _ _ _ _ h1 ho.left _ _ g d os h R fun h' R' => hf a _ _ _ _ h2 ho.right Q E g d os h' R' hq)
  · exact wpAny_bind (hm _ _ _ _ h1 ho _ _ g d os h R fun h' R' => hq h' R')
theorem Snd.pure {α : Type} (a : α) : Snd e prog w h₀ T A (V.pure a) (Pure.pure a) := by
  intro σ r σ' o hr ho Q E g d os h R hq
  cases hr
  exact wpAny_pure (hq h R)

theorem Ns.slots {h h' : Heap} {a : Addr} {m : Str → Option Value} {o : Obj} {sl : Array (Option Value)} (n : h.Ns a m) (g : h.get? a = some o) (g' : h'.get? a = some { o with slots := sl }) : h'.Ns a m := by
  obtain ⟨o', es, ep, h1, h2, h3⟩ := n
  rw [g] at h1
  cases h1
  exact ⟨_, es, ep, g', h2, h3⟩
theorem readyLoose (H : Hyp e prog w h₀ T) {p : Env} (hp : e.bot = some p) {h : Heap} {σ : Sg} {Q : Unit → Shared → Prop} {E : Value → Shared → Prop} {g : Array GenState} {d : Drawn} {tk : Nat} {os : OsState} (R : Rl e h₀ T h σ)
    (hq : ∀ h', Rl e h₀ T h' σ → Q () ⟨h', g, d, tk, os⟩) : wpAny (model prog w) A (readyFrames [p]) Q E ⟨h, g, d, tk, os⟩ := by
  obtain ⟨L, hL, _, hN⟩ := R.bot p hp
  have hN' := hN
  obtain ⟨ob, es, ep, hg, hd, hr⟩ := hN'
  simp only [readyFrames, hL]
  refine wpAny_bind (wpAny_load hg ?_)
  refine wpAny_ite_split (fun _ => wpAny_pure (hq _ R)) (fun _ => ?_)
  refine wpAny_bind (wpAny_of_eq (a := false) (by simp [behindIsImport]) ?_)
  refine wpAny_bind (wpAny_keptBack_nil fun v => ?_)
  refine wpAny_bind (wpAny_update hg (wpAny_pure (hq _ ?_)))
  refine R.loose (nm := σ.nm) H hp hL (Heap.SameBut.update ..) (Ns.slots hN hg (Heap.get?_update_self (o := ob) _ hg ?_))
  obtain ⟨c, dd, dt, ss⟩ := ob
  simp only at hd
  subst hd
  rfl

theorem ready_ok (H : Hyp e prog w h₀ T) : ∀ l : List Env, Snd e prog w h₀ T A (readyV e l) (readyFrames (l ++ botE e))
  | [] => by
    intro σ r σ' o hr ho Q E g d os h R hq
    unfold readyV at hr
    cases hp : e.bot with
    | some p =>
      simp only [hp] at hr
      cases hr
      have eb : ([] : List Env) ++ botE e = [p] := by unfold botE; rw [hp]; rfl
      rw [eb]
      exact readyLoose H hp R fun h' R' => hq h' R'
    | none => simp only [hp] at hr; cases hr
  | env :: outer => by
    intro σ r σ' o hr ho Q E g d os h R hq
    unfold readyV at hr
    cases hf : env.frame with
    | none => simp only [hf] at hr; cases hr
    | some f =>
     cases hk : env.scope.kind with
     | function =>
      simp only [hf, hk] at hr
      rw [List.cons_append]
      simp only [readyFrames, hf]
      rcases bind_ok hr with ⟨io, σ1, o1, o2, h1, h2, rfl⟩ | ⟨x, h1, rfl⟩
      · obtain ⟨i, ob, b, ct, hi0, rfl, hi, rfl⟩ := getV_ok H.srch h1
        cases hi0
        have hfb : f = b := ho.left.head
        subst hfb
        have hg := R.at_ hi
        refine wpAny_bind (wpAny_load hg ?_)
        cases hs : (ob.slots.getD 3 none).isSome with
        | true =>
          simp only [hs] at h2
          cases h2
          rw [if_pos rfl]
          exact wpAny_pure (hq h (R.ct _))
        | false =>
          simp only [hs] at h2
          rw [if_neg Bool.false_ne_true]
          have hkm : env.scope.kind ≠ .module := by rw [hk]; intro x; cases x
          refine wpAny_bind (wpAny_of_eq (a := false) (by simp [behindIsImport, hkm]) ?_)
          cases hcr : outer ++ botE e with
          | nil => simp only [hcr] at h2; cases h2
          | cons caller rest =>
            simp only [hcr] at h2
            cases hgc : env.scope.isGenerator || env.scope.isCoroutine with
            | true => simp only [hgc] at h2; cases h2
            | false =>
              simp only [hgc] at h2
              refine wpAny_bind (wpAny_of_eq (a := caller.frame.elim .notImplemented Value.ref) (by simp only [keptBack, hgc]; rfl) ?_)
              rcases bind_ok h2 with ⟨u, σ2, o3, o4, h3, h4, rfl⟩ | ⟨x, h3, rfl⟩
              · obtain ⟨b', o0, hi', hfr, _, rfl, rfl⟩ := setV_ok h3
                rw [hi] at hi'
                cases hi'
                refine wpAny_bind (wpAny_update hg ?_)
                rw [← hcr]
                refine ready_ok H outer _ _ _ _ h4 ho.right.right Q E g d os _ ?_ hq
                exact (R.set hi (Heap.SameBut.update ..) (Heap.get?_update_self _ hg hfr)).cert rfl rfl rfl
              · obtain ⟨b', o0, hi', hfr, hx, _⟩ := setV_ok h3
                cases hx
      · obtain ⟨i, ob, b, ct, hi0, _⟩ := getV_ok H.srch h1
        cases hi0
     | _ => simp only [hf, hk] at hr; cases hr

/-- the tree of a new entry -/
noncomputable def entryT (head : Value) (hn : Bool) (a f : Addr) (env : Env) : Sem Unit := do
  let fr ← PySem.frameOf env
  let pl ← entryPlaceOf f hn
  let t ← EntryCells.newEntry head fr .none (rawInt f) .none pl
  setField (.ref a) 1 t

theorem noteNew_ok (H : Hyp e prog w h₀ T) {frs : List Env} (hfr : A.frames = some (frs ++ botE e)) {a f : Addr} {env : Env} (hf : env.frame = some f) (head : Value) (hn : Bool) :
    Snd e prog w h₀ T A (noteNew e frs a f) (entryT head hn a f env) := by
  intro σ r σ' o hr ho Q E g d os h R hq
  unfold noteNew at hr
  cases frs with
  | nil => cases hr
  | cons env' rest =>
    simp only at hr
    cases hf' : env'.frame with
    | none => simp only [hf'] at hr; cases hr
    | some f' =>
      simp only [hf'] at hr
      obtain ⟨o2, hr2, rfl⟩ := must_ok hr
      have hff : f = f' := ho.head
      subst hff
      have ho := ho.tail
      unfold entryT PySem.frameOf
      refine wpAny_bind (wpAny_bind (wpAny_frameEnvs hfr ?_))
      have hdw : ((env' :: rest ++ botE e).dropWhile fun x => x.frame != env.frame) = env' :: rest ++ botE e := by
        rw [List.cons_append, List.dropWhile_cons, hf, hf']
        simp
      rw [hdw]
      unfold frameObject
      rw [List.cons_append]
      refine wpAny_bind (wpAny_bind ?_)
      rcases bind_ok hr2 with ⟨u, σ1, o1, o3, h1, h2, rfl⟩ | ⟨x, h1, rfl⟩
      · refine ready_ok H (env' :: rest) _ _ _ _ h1 ho.left _ _ g d os h R fun h' R' => ?_
        refine wpAny_pure ?_
        rw [hf']
        refine wpAny_pure ?_
        refine wpAny_bind (wpAny_entryPlaceOf fun pl hpl => ?_)
        unfold EntryCells.newEntry newFields
        refine wpAny_bind (wpAny_newObj_type ?_ (hpl.sizeOk5 _ _ _ _ _))
        rcases bind_ok h2 with ⟨t, σ2, o4, o5, h3, h4, rfl⟩ | ⟨x, h3, rfl⟩
        · unfold newT at h3
          cases h3
          rw [List.nil_append] at ho
          have hvs : ([head, .ref f, .none, rawInt f, .none] ++ (if pl.isEmpty then List.replicate 6 Value.none else pl)).toArray.size = 11 := by
            rcases hpl with rfl | ⟨_, _, _, _, _, _, _, rfl⟩ <;> rfl
          have R1 := R'.pushT (mk := some f) hvs (by rcases hpl with rfl | ⟨_, _, _, _, _, _, _, rfl⟩ <;> rfl)
          have hsz : h'.objs.size = e.base + σ1.m := R'.sz
          rcases bind_ok h4 with ⟨io, σ3, o6, o7, h5, h6, rfl⟩ | ⟨x, h5, rfl⟩
          · obtain ⟨i, ob, b, ct, hi0, rfl, hi, rfl⟩ := getV_ok H.srch h5
            cases hi0
            have hab : a = b := ho.right.left.head
            subst hab
            cases hdv : ob.data with
            | fields vs =>
              simp only [hdv] at h6
              cases hy : (vs[1]? : Option Value) with
              | some y =>
                simp only [hy] at h6
                obtain ⟨b', o0, hi', hfr', hru, rfl, rfl⟩ := setV_ok h6
                subst hru
                rw [hi] at hi'
                cases hi'
                have hg := R1.at_ hi
                show wpAny _ _ (setField (.ref a) 1 (.ref h'.objs.size)) _ _ _
                rw [hsz]
                refine wpAny_setField hg hdv (Array.getElem?_eq_some_iff.mp hy).1 ?_
                refine hq _ ?_
                exact (R1.set hi (Heap.SameBut.update ..) (Heap.get?_update_self _ hg hfr')).cert rfl rfl rfl
              | none => simp only [hy] at h6; cases h6
            | _ => simp only [hdv] at h6; cases h6
          · obtain ⟨i, ob, b, ct, hi0, _⟩ := getV_ok H.srch h5
            cases hi0
        · unfold newT at h3
          cases h3
      · exact ready_ok H (env' :: rest) _ _ _ _ h1 ho _ _ g d os h R fun h' R' => hq h' R'

theorem fields_at {h : Heap} {σ : Sg} (R : Rl e h₀ T h σ) {i : Nat} {mk : Option Addr} {b : Addr} (hi : σ.tbs[i]? = some (b, mk)) : ∃ vs, h.get? b = some (tbObj vs) ∧ vs.size = 11 ∧ vs[3]? = some (markV mk) := R.tb _ (List.mem_of_getElem? hi)

theorem markSet {vs : Array Value} (hv : vs.size = 11) (x : Value) : (vs.setIfInBounds 3 x).size = 11 ∧ (vs.setIfInBounds 3 x)[3]? = some x := by
  refine ⟨by simpa using hv, ?_⟩
  rw [Array.getElem?_setIfInBounds]
  simp [hv]

theorem note_ok (H : Hyp e prog w h₀ T) {frs : List Env} (hfr : A.frames = some (frs ++ botE e)) (x : Value) (env : Env) : Snd e prog w h₀ T A (noteV e frs x env) (noteFrame x env) := by
  intro σ r σ' o hr ho Q E g d os h R hq
  unfold noteV at hr
  cases x with
  | ref a =>
   cases hf : env.frame with
   | none => simp only [hf] at hr; cases hr
   | some f =>
    simp only [hf] at hr
    rcases bind_ok hr with ⟨io, σ1, o1, o2, h1, h2, rfl⟩ | ⟨x, h1, rfl⟩
    · obtain ⟨i, ob, b, ct, hi0, rfl, hi, rfl⟩ := getV_ok H.srch h1
      cases hi0
      have hab : a = b := ho.left.head
      subst hab
      have hg := R.at_ hi
      cases hdv : ob.data with
      | fields vs =>
        simp only [hdv] at h2
        unfold noteFrame
        simp only [hf]
        cases hy : (vs[1]? : Option Value) with
        | none => simp only [hy] at h2; cases h2
        | some y =>
        cases y with
        | none =>
          simp only [hy] at h2
          refine wpAny_bind (wpAny_field hg hdv hy ?_)
          rw [if_neg (by decide)]
          exact noteNew_ok H hfr hf _ _ _ _ _ _ h2 ho.right Q E g d os h (R.ct _) hq
        | ref t =>
          simp only [hy] at h2
          refine wpAny_bind (wpAny_field hg hdv hy ?_)
          rw [if_pos (show (Value.ref t != Value.none) = true from by simp)]
          rcases bind_ok h2 with ⟨jm, σ2, o3, o4, h3, h4, rfl⟩ | ⟨x, h3, rfl⟩
          · obtain ⟨j, mk, b', ct', hj0, rfl, hj, rfl⟩ := getT_ok H.srch h3
            cases hj0
            have htb : t = b' := ho.right.left.head
            subst htb
            obtain ⟨us, hu1, hu2, hu3⟩ := fields_at R hj
            refine wpAny_bind (wpAny_field hu1 rfl hu3 ?_)
            cases mk with
            | some f' =>
              obtain ⟨o5, h5, rfl⟩ := must_ok h4
              cases h5
              have hff : f' = f := ho.right.right.head
              subst hff
              rw [if_pos (show (markV (some f') == rawInt f') = true from by first | (simp [markV]; done) | exact beq_self_eq_true _)]
              exact wpAny_pure (hq h ((R.ct _).cert rfl rfl rfl))
            | none =>
              rw [if_neg (show ¬ (markV none == rawInt f) = true from by intro q; cases (eq_of_beq q))]
              refine wpAny_bind (wpAny_setField hu1 rfl (by rw [hu2]; decide) ?_)
              have ms := markSet hu2 Value.none
              have R2 := R.setT (mk' := none) hj (Heap.SameBut.update ..) (Heap.get?_update_self (Obj.mapFields (·.setIfInBounds 3 .none)) hu1 rfl) ms.1 ms.2
              rw [set_self hj] at R2
              exact noteNew_ok H hfr hf _ _ _ _ _ _ h4 ho.right.right Q E g d os _ (R2.cert rfl rfl rfl) hq
          · obtain ⟨j, mk, b', ct', hj0, _⟩ := getT_ok H.srch h3
            cases hj0
        | _ => simp only [hy] at h2; cases h2
      | _ => simp only [hdv] at h2; cases h2
    · obtain ⟨i, ob, b, ct, hi0, _⟩ := getV_ok H.srch h1
      cases hi0
  | _ => cases hr

theorem flight_ok (H : Hyp e prog w h₀ T) (x : Value) (fr : Option Addr) : Snd e prog w h₀ T A (flightV e x fr) (setFlight x fr) := by
  intro σ r σ' o hr ho Q E g d os h R hq
  unfold flightV at hr
  cases x with
  | ref a =>
    simp only at hr
    rcases bind_ok hr with ⟨io, σ1, o1, o2, h1, h2, rfl⟩ | ⟨x, h1, rfl⟩
    · obtain ⟨i, ob, b, ct, hi0, rfl, hi, rfl⟩ := getV_ok H.srch h1
      cases hi0
      have hab : a = b := ho.left.head
      subst hab
      have hg := R.at_ hi
      cases hdv : ob.data with
      | fields vs =>
        simp only [hdv] at h2
        unfold setFlight
        cases hy : (vs[1]? : Option Value) with
        | none => simp only [hy] at h2; cases h2
        | some y =>
        cases y with
        | none =>
          simp only [hy] at h2
          cases h2
          refine wpAny_bind (wpAny_field hg hdv hy ?_)
          rw [if_neg (by decide)]
          exact wpAny_pure (hq h (R.ct _))
        | ref t =>
          simp only [hy] at h2
          refine wpAny_bind (wpAny_field hg hdv hy ?_)
          rw [if_pos (show (Value.ref t != Value.none) = true from by simp)]
          rcases bind_ok h2 with ⟨jm, σ2, o3, o4, h3, h4, rfl⟩ | ⟨x, h3, rfl⟩
          · obtain ⟨j, mk, b', ct', hj0, rfl, hj, rfl⟩ := getT_ok H.srch h3
            cases hj0
            have htb : t = b' := ho.right.left.head
            subst htb
            obtain ⟨us, hu1, hu2, hu3⟩ := fields_at R hj
            obtain ⟨b2, mk2, hj2, rfl, rfl, rfl⟩ := setT_ok h4
            rw [hj] at hj2
            cases hj2
            refine wpAny_setField hu1 rfl (by rw [hu2]; decide) ?_
            have ms := markSet hu2 (markV fr)
            have R2 := R.setT (mk' := fr) hj (Heap.SameBut.update ..) (Heap.get?_update_self (Obj.mapFields (·.setIfInBounds 3 (markV fr))) hu1 rfl) ms.1 ms.2
            exact hq _ (R2.cert rfl rfl rfl)
          · obtain ⟨j, mk, b', ct', hj0, _⟩ := getT_ok H.srch h3
            cases hj0
        | _ => simp only [hy] at h2; cases h2
      | _ => simp only [hdv] at h2; cases h2
    · obtain ⟨i, ob, b, ct, hi0, _⟩ := getV_ok H.srch h1
      cases hi0
  | _ => cases hr

theorem traced_ok (H : Hyp e prog w h₀ T) (x : Value) (what : String) : Snd e prog w h₀ T A (tracedV e x) (do if (← field x 1) == .none then unsupported what) := by
  intro σ r σ' o hr ho Q E g d os h R hq
  unfold tracedV at hr
  cases x with
  | ref a =>
    simp only at hr
    rcases bind_ok hr with ⟨io, σ1, o1, o2, h1, h2, rfl⟩ | ⟨x, h1, rfl⟩
    · obtain ⟨i, ob, b, ct, hi0, rfl, hi, rfl⟩ := getV_ok H.srch h1
      cases hi0
      have hab : a = b := ho.left.head
      subst hab
      have hg := R.at_ hi
      cases hdv : ob.data with
      | fields vs =>
        simp only [hdv] at h2
        cases hy : (vs[1]? : Option Value) with
        | none => simp only [hy] at h2; cases h2
        | some y =>
        cases y with
        | ref t =>
          simp only [hy] at h2
          cases h2
          refine wpAny_bind (wpAny_field hg hdv hy ?_)
          rw [if_neg (show ¬ (Value.ref t == Value.none) = true from by simp)]
          exact wpAny_pure (hq h (R.ct _))
        | _ => simp only [hy] at h2; cases h2
      | _ => simp only [hdv] at h2; cases h2
    · obtain ⟨i, ob, b, ct, hi0, _⟩ := getV_ok H.srch h1
      cases hi0
  | _ => cases hr
end
end Mine

end
section
open PySem PySem.W PySem.Calls PySem.Spec PyProof.Rows
open PySem.AutoSeq1 (wpAny_loadPart')
open PySem.MeetsSeq PySem.MeetsSeq2 PySem.MeetsSeq3 PySem.SeqRoads2
set_option maxRecDepth 100000
namespace Mine
/-- the two values are equal, by the machine's own test -/
noncomputable def EqW (prog : Program) (w : World) (A : Around) (s : Shared) (y x : Value) : Prop :=
  ∀ (E : Value → Shared → Prop) (Q : Bool → Shared → Prop), Q true s → wpAny (model prog w) A (eqBool y x) Q E s
noncomputable def RcW (prog : Program) (w : World) (A : Around) (s : Shared) (y x : Value) : Prop :=
  ∀ (E : Value → Shared → Prop) (Q : Value → Shared → Prop), Q (.bool true) s → wpAny (model prog w) A (richCompare .Eq y x) Q E s
section
variable {prog : Program} {w : World} {A : Around} {s : Shared}
theorem EqW.of_at {y x : Value} (h : SeqAt.EqAt A s y x true) : EqW prog w A s y x := fun E Q hq => h prog w E Q hq
theorem EqW.of_rc {l b : Addr} (hne : l ≠ b) (h : RcW prog w A s (.ref l) (.ref b)) : EqW prog w A s (.ref l) (.ref b) := fun E Q hq => by
  unfold eqBool
  refine wpAny_holding ?_
  refine wpAny_ite_split (fun hab => absurd (by have := eq_of_beq hab; injection this) hne) (fun _ => ?_)
  exact wpAny_bind (h E _ (wpAny_truthy_bool hq))

abbrev fins (prog : Program) (w : World) (A : Around) (R : Result → Shared → Prop) : Fin → Shared → Prop := fun fin s' => match fin with
  | .done f => R (.ok f) s'
  | .again c' => c'.quiet = true ∧ codeAny (model prog w) A c' R s'

theorem loopW (l b : Addr) (items items2 : Array Value) (n n2 : Nat) (dd dd2 : Option Addr) (sl sl2 : Array (Option Value)) (hsz : items.size = items2.size) (ne : Bool) (k : Nat) :
    ∀ i : Nat, items.size - i = k → ∀ (R : Result → Shared → Prop), s.heap.get? l = some { cls := .type "list", dict := dd, data := .seq items n, slots := sl } → s.heap.get? b = some { cls := .type "list", dict := dd2, data := .seq items2 n2, slots := sl2 } →
      (∀ j (h1 : j < items.size) (h2 : j < items2.size), EqW prog w A.in1 s items[j] items2[j]) → R (.ok (.ret (.bool !ne))) s →
      wpAny (model prog w) A.in1 (Builtin.«list.__eq__.loop» ⟨[.ref l, .ref b, rawInt i, rawInt (cond ne 3 2)], []⟩) (fins prog w A R) (fun e s' => R (.error e) s') s := by
  induction k with
  | zero =>
    intro i hk R hl hb he h
    obtain ⟨hp, g, d, tk, os⟩ := s
    cases ne
    all_goals
      wp_walk using wpAny_loadPart' hl, wpAny_loadPart' hb
      have hi1 : items[((i : Nat) : Int).toNat]? = none := by simp; omega
      have hi2 : items2[((i : Nat) : Int).toNat]? = none := by simp; omega
      rw [hi1, hi2]
      wp_walk using wpAny_loadPart' hl, wpAny_loadPart' hb
    · show R (.ok (.ret (.bool (items.size == items2.size)))) _
      rw [hsz]
      simpa using h
    · show R (.ok (.ret (.bool (items.size != items2.size)))) _
      rw [hsz]
      simpa using h
  | succ k ih =>
    intro i hk R hl hb he h
    have hlt : i < items.size := by omega
    have hlt2 : i < items2.size := by omega
    have hi1 : items[((i : Nat) : Int).toNat]? = some items[i] := by simp [hlt]
    have hi2 : items2[((i : Nat) : Int).toNat]? = some items2[i] := by simp [hlt2]
    have hc : ((i : Int) + 1) = ((i + 1 : Nat) : Int) := by push_cast; rfl
    have ih' := ih (i + 1) (by omega) R hl hb he h
    obtain ⟨hp, g, d, tk, os⟩ := s
    cases ne
    all_goals
      wp_walk using wpAny_loadPart' hl, wpAny_loadPart' hb
      rw [hi1, hi2]
      refine wpAny_bind (he i hlt hlt2 _ _ ?_)
      wp_walk
      rw [hc]
      exact ⟨plainId_quiet plain_eq_loop _, codeAny_builtin entry_eq_loop (by
        rw [Around.under_plainId plain_eq_loop _]
        exact ih')⟩

theorem listW {l b : Addr} {items items2 : Array Value} (ne : Bool) (hl : s.heap.IsList l items) (hb : s.heap.IsList b items2) (hsz : items.size = items2.size) (hu : A.units < cLine)
    (he : ∀ j (h1 : j < items.size) (h2 : j < items2.size), EqW prog w A.in1 s items[j] items2[j]) {E : Value → Shared → Prop} {Q : Value → Shared → Prop} (h : Q (.bool !ne) s) :
    wpAny (model prog w) A (richCompare (cond ne .NotEq .Eq) (.ref l) (.ref b)) Q E s := by
  obtain ⟨⟨cls, dd, data, sl⟩, ho, hc, n, hd⟩ := id hl
  obtain ⟨⟨cls2, dd2, data2, sl2⟩, ho2, hc2, n2, hd2⟩ := id hb
  simp only at hc hd hc2 hd2
  subst hc hd hc2 hd2
  have f3 := AutoSeq1.sub_list_list
  have hne : ¬ (items.size != items2.size) = true := by simp [hsz]
  have ok : wants (fun v s' => v ≠ .notImplemented ∧ Q v s') E (.ok (.ret (.bool !ne))) s := And.intro (by intro x; cases x) h
  have lp := loopW (prog := prog) (w := w) (A := A) l b items items2 n n2 dd dd2 sl sl2 hsz ne _ 0 rfl (wants (fun v s' => v ≠ .notImplemented ∧ Q v s') E) ho ho2 he ok
  cases ne
  · refine wpAny_richCompare_same_room (op := .Eq) ⟨_, ho, rfl⟩ ⟨_, ho2, rfl⟩ F.slot_list_eq ?_ hu
    refine wpAny_call (codeAny_call_builtin F.slot_list_eq.plain F.entry_list_eq (F.slot_list_eq.check _ _ _ _ _ _ _ _ ⟨_, ho, rfl⟩ (F.args_list_eq_2 _ _) ?_))
    obtain ⟨hp, g, d, tk, os⟩ := s
    wp_walk using wpAny_loadPart' ho, wpAny_loadPart' ho2
    exact ⟨plainId_quiet plain_eq_loop _, codeAny_builtin entry_eq_loop (by
      rw [Around.under_plainId plain_eq_loop _]
      exact lp)⟩
  · refine wpAny_richCompare_same_room (op := .NotEq) ⟨_, ho, rfl⟩ ⟨_, ho2, rfl⟩ F.slot_list_ne ?_ hu
    refine wpAny_call (codeAny_call_builtin F.slot_list_ne.plain F.entry_list_ne (F.slot_list_ne.check _ _ _ _ _ _ _ _ ⟨_, ho, rfl⟩ (F.args_list_ne_2 _ _) ?_))
    obtain ⟨hp, g, d, tk, os⟩ := s
    wp_walk using wpAny_loadPart' ho, wpAny_loadPart' ho2
    exact ⟨plainId_quiet plain_eq_loop _, codeAny_builtin entry_eq_loop (by
      rw [Around.under_plainId plain_eq_loop _]
      exact lp)⟩

theorem tupleW {l b : Addr} {items items2 : Array Value} (ne : Bool) (hl : s.heap.IsTuple l items) (hb : s.heap.IsTuple b items2) (hsz : items.size = items2.size) (hu : A.units < cLine)
    (he : ∀ p ∈ items.toList.zip items2.toList, EqW prog w A.in1 s p.1 p.2) {E : Value → Shared → Prop} {Q : Value → Shared → Prop} (h : Q (.bool !ne) s) :
    wpAny (model prog w) A (richCompare (cond ne .NotEq .Eq) (.ref l) (.ref b)) Q E s := by
  obtain ⟨⟨cls, dd, data, sl⟩, ho, hc, n, hd⟩ := id hl
  obtain ⟨⟨cls2, dd2, data2, sl2⟩, ho2, hc2, n2, hd2⟩ := id hb
  simp only at hc hd hc2 hd2
  subst hc hd hc2 hd2
  have f2 := AutoSeq1.sub_tuple_tuple
  cases ne
  · refine wpAny_richCompare_same_room (op := .Eq) ⟨_, ho, rfl⟩ ⟨_, ho2, rfl⟩ F.slot_tuple_eq (wpAny_call_entry F.slot_tuple_eq ⟨_, ho, rfl⟩ F.entry_tuple_eq ?_ (F.args_tuple_eq_2 _ _)) hu
    obtain ⟨hp, g, d, tk, os⟩ := s
    wp_walk using wpAny_loadPart' ho, wpAny_loadPart' ho2, wpAny_forIn_list _ (fun rest b s' => b.1 = none ∧ s' = ⟨hp, g, d, tk, os⟩ ∧ ∀ p ∈ rest, p ∈ items.toList.zip items2.toList) _
    case turn =>
      rintro ⟨y, x⟩ rest b s' ⟨hb', rfl, hm⟩
      refine wpAny_bind (he (y, x) (hm _ (.head _)) _ _ ?_)
      wp_walk
      exact ⟨rfl, rfl, fun p hp => hm p (.tail _ hp)⟩
    case fin =>
      rintro ⟨b1, b2⟩ s' ⟨hb', rfl, _⟩
      simp only at hb'
      subst hb'
      wp_walk
      refine ⟨_, rfl, And.intro (by intro x; cases x) ?_⟩
      show Q (.bool (items.size == items2.size)) _
      rw [hsz, beq_self_eq_true]; exact h
    case h => exact ⟨rfl, rfl, fun p hp => hp⟩
  · refine wpAny_richCompare_same_room (op := .NotEq) ⟨_, ho, rfl⟩ ⟨_, ho2, rfl⟩ F.slot_tuple_ne (wpAny_call_entry F.slot_tuple_ne ⟨_, ho, rfl⟩ F.entry_tuple_ne ?_ (F.args_tuple_ne_2 _ _)) hu
    obtain ⟨hp, g, d, tk, os⟩ := s
    wp_walk using wpAny_loadPart' ho, wpAny_loadPart' ho2, wpAny_forIn_list _ (fun rest b s' => b.1 = none ∧ s' = ⟨hp, g, d, tk, os⟩ ∧ ∀ p ∈ rest, p ∈ items.toList.zip items2.toList) _
    case turn =>
      rintro ⟨y, x⟩ rest b s' ⟨hb', rfl, hm⟩
      refine wpAny_bind (he (y, x) (hm _ (.head _)) _ _ ?_)
      wp_walk
      exact ⟨rfl, rfl, fun p hp => hm p (.tail _ hp)⟩
    case fin =>
      rintro ⟨b1, b2⟩ s' ⟨hb', rfl, _⟩
      simp only at hb'
      subst hb'
      wp_walk
      refine ⟨_, rfl, And.intro (by intro x; cases x) ?_⟩
      show Q (.bool (items.size != items2.size)) _
      rw [hsz, bne_self_eq_false]; exact h
    case h => exact ⟨rfl, rfl, fun p hp => hp⟩
end
end Mine

end
section
open PySem PySem.W PySem.Calls PySem.Spec PyProof.Rows
set_option maxRecDepth 100000
namespace Mine
section
variable {e : Ev} {prog : Program} {w : World} {h₀ h : Heap} {T : List Addr} {σ σ' : Sg} {o : Obs}

theorem atom_ok {v y : Value} {r : Except Value Unit} (hr : atomEq v y σ = some (r, σ', o)) (ho : Oks o) : r = .ok () ∧ σ' = σ ∧ ∀ (A : Around) (s : Shared), SeqAt.EqAt A s v y true := by
  unfold atomEq at hr
  cases v <;> cases y <;> first
    | (cases hr; done)
    | (cases hr; exact ⟨rfl, rfl, fun A s => SeqAt.EqAt.same _⟩)
    | skip
  · rename_i a b
    cases a <;> cases b <;> first
      | (cases hr; done)
      | (cases hr; exact ⟨rfl, rfl, fun A s => SeqAt.EqAt.same _⟩)
  · rename_i a t b u
    obtain ⟨o2, h2, rfl⟩ := must_ok hr
    cases h2
    have hab : a = b := ho.head
    subst hab
    exact ⟨rfl, rfl, fun A s => by have z := SeqAt.EqAt.int_int (A := A) (s := s) a t a u; rwa [beq_self_eq_true] at z⟩
  · rename_i a t b u
    obtain ⟨o2, h2, rfl⟩ := must_ok hr
    cases h2
    have hab : a = b := ho.head
    subst hab
    exact ⟨rfl, rfl, fun A s => by have z := SeqAt.EqAt.str_str (A := A) (s := s) a t a u; rwa [beq_self_eq_true] at z⟩

theorem all_ok {eq : Value → Value → V Unit} {P : Value → Value → Prop} (hP : ∀ v y σ r σ' o, eq v y σ = some (r, σ', o) → Oks o → Rl e h₀ T h σ → r = .ok () ∧ (∃ ct, σ' = { σ with cert := ct }) ∧ P v y) :
    ∀ (xs ys : List Value) (σ : Sg) (r : Except Value Unit) (σ' : Sg) (o : Obs), allEq eq xs ys σ = some (r, σ', o) → Oks o → Rl e h₀ T h σ → r = .ok () ∧ (∃ ct, σ' = { σ with cert := ct }) ∧ xs.length = ys.length ∧ ∀ p ∈ xs.zip ys, P p.1 p.2
  | [], [], σ, r, σ', o, hr, ho, R => by
    cases hr
    exact ⟨rfl, ⟨_, rfl⟩, rfl, fun p hp => by simp at hp⟩
  | [], y :: ys, _, _, _, _, hr, _, _ => by cases hr
  | x :: xs, [], _, _, _, _, hr, _, _ => by cases hr
  | x :: xs, y :: ys, σ, r, σ', o, hr, ho, R => by
    unfold allEq at hr
    rcases bind_ok hr with ⟨u, σ1, o1, o2, h1, h2, rfl⟩ | ⟨z, h1, rfl⟩
    · obtain ⟨_, ⟨ct, rfl⟩, p⟩ := hP _ _ _ _ _ _ h1 ho.left R
      obtain ⟨q0, ⟨ct', q1⟩, q2, q3⟩ := all_ok hP xs ys _ _ _ _ h2 ho.right (R.ct _)
      refine ⟨q0, ⟨ct', q1⟩, by simp [q2], fun k hk => ?_⟩
      rw [List.zip_cons_cons] at hk
      rcases List.mem_cons.mp hk with rfl | hk
      · exact p
      · exact q3 k hk
    · obtain ⟨z0, _⟩ := hP _ _ _ _ _ _ h1 ho R
      cases z0

theorem strRows_ok (H : Hyp e prog w h₀ T) : ∀ (es : List DictEntry) (l : List (Str × Value)) (o : Obs), strRows e es = some (l, o) → Oks o → (∀ x ∈ es, ∃ k, (strKind prog w).is k x.key = true ∧ x.hash = (strKind prog w).hash k) ∧ Pairs (strKind prog w) es l
  | [], l, o, hr, _ => by
    cases hr
    exact ⟨fun x hx => absurd hx List.not_mem_nil, Pairs.nil⟩
  | x :: r, l, o, hr, ho => by
    unfold strRows at hr
    split at hr
    · rename_i k t l' o' hk hr'
      cases hr
      obtain ⟨q1, q2⟩ := strRows_ok H r l' o' hr' ho.tail
      have is : (strKind prog w).is k x.key = true := by rw [hk]; exact strKind_is prog w k t
      refine ⟨fun y hy => ?_, Pairs.cons is rfl q2⟩
      rcases List.mem_cons.mp hy with rfl | hy
      · refine ⟨k, is, ?_⟩
        have z : y.hash = hashS e k := ho.head
        rw [z]
        unfold hashS
        rw [H.S, H.src]
        rfl
      · exact q1 y hy
    · cases hr
theorem intRows_ok : ∀ (es : List DictEntry) (l : List (Int × Value)) (o : Obs), intRows e es = some (l, o) → Oks o → (∀ x ∈ es, ∃ k, (intKind prog w).is k x.key = true ∧ x.hash = (intKind prog w).hash k) ∧ Pairs (intKind prog w) es l
  | [], l, o, hr, _ => by
    cases hr
    exact ⟨fun x hx => absurd hx List.not_mem_nil, Pairs.nil⟩
  | x :: r, l, o, hr, ho => by
    unfold intRows at hr
    split at hr
    · rename_i k t l' o' hk hr'
      cases hr
      obtain ⟨q1, q2⟩ := intRows_ok r l' o' hr' ho.tail
      have is : (intKind prog w).is k x.key = true := by rw [hk]; exact intKind_is prog w k t
      refine ⟨fun y hy => ?_, Pairs.cons is rfl q2⟩
      rcases List.mem_cons.mp hy with rfl | hy
      · refine ⟨k, is, ?_⟩
        have z : y.hash = hashInt k := ho.head
        exact z
      · exact q1 y hy
    · cases hr

theorem rowOf_is {K : Type} [DecidableEq K] {l : List (K × Value)} {k : K} {y : Value} (h : rowOf l k = some y) : valueAt l k = some y := by
  unfold rowOf at h
  unfold valueAt
  split at h
  · rename_i p hp
    cases h
    rw [hp]; rfl
  · cases h
theorem rows_ok {K : Type} [DecidableEq K] {A : Around} {s : Shared} (kb : List (K × Value)) : ∀ (ka : List (K × Value)) (σ : Sg) (r : Except Value Unit) (σ' : Sg) (o : Obs), rowsEq kb ka σ = some (r, σ', o) → Oks o → r = .ok () ∧ σ' = σ ∧ KeqHits A s kb ka true
  | [], σ, r, σ', o, hr, _ => by
    cases hr
    exact ⟨rfl, rfl, .nil⟩
  | (k, v) :: l, σ, r, σ', o, hr, ho => by
    unfold rowsEq at hr
    cases hy : rowOf kb k with
    | none => simp only [hy] at hr; cases hr
    | some y =>
      simp only [hy] at hr
      rcases bind_ok hr with ⟨u, σ1, o1, o2, h1, h2, rfl⟩ | ⟨z, h1, rfl⟩
      · obtain ⟨_, rfl, p⟩ := atom_ok h1 ho.left
        obtain ⟨q0, q1, q2⟩ := rows_ok kb l _ _ _ _ h2 ho.right
        exact ⟨q0, q1, KeqHits.hit (rowOf_is hy) (p A s) q2⟩
      · obtain ⟨z0, _⟩ := atom_ok h1 ho
        cases z0

theorem dict_ok {K : Type} [DecidableEq K] {x y : Option (List (K × Value) × Obs)} {r : Except Value Unit} (hr : dictEq x y σ = some (r, σ', o)) (ho : Oks o) :
    ∃ ka oa kb ob, x = some (ka, oa) ∧ y = some (kb, ob) ∧ (ka.map (·.1)).Nodup ∧ (kb.map (·.1)).Nodup ∧ ka.length = kb.length ∧ Oks oa ∧ Oks ob ∧ r = .ok () ∧ σ' = σ ∧ ∀ (A : Around) (s : Shared), KeqHits A s kb ka true := by
  unfold dictEq at hr
  cases x with
  | none => cases hr
  | some a =>
    cases y with
    | none => cases hr
    | some b =>
      obtain ⟨ka, oa⟩ := a
      obtain ⟨kb, ob⟩ := b
      simp only at hr
      cases n1 : decide (ka.map (·.1)).Nodup with
      | false => simp only [n1] at hr; cases hr
      | true =>
        cases n2 : decide (kb.map (·.1)).Nodup with
        | false => simp only [n1, n2] at hr; cases hr
        | true =>
          cases n3 : Nat.beq ka.length kb.length with
          | false => simp only [n1, n2, n3] at hr; cases hr
          | true =>
            simp only [n1, n2, n3] at hr
            unfold V.musts after at hr
            split at hr
            · rename_i r1 σ1 o1 h1
              cases hr
              have k := rows_ok (A := {}) (s := {}) kb ka _ _ _ _ h1 ho.right
              exact ⟨ka, oa, kb, ob, rfl, rfl, of_decide_eq_true n1, of_decide_eq_true n2, Nat.eq_of_beq_eq_true n3, ho.left.left, ho.left.right, k.1, k.2.1, fun A s => (rows_ok kb ka _ _ _ _ h1 ho.right).2.2⟩
            · cases hr

theorem pairOf_list {o₁ o₂ : Obj} {p : Pair} (hp : pairOf o₁ o₂ = some p) : match p with
    | .list xs ys => o₁.cls = .type "list" ∧ o₂.cls = .type "list" ∧ (∃ n, o₁.data = .seq xs n) ∧ ∃ n, o₂.data = .seq ys n
    | .tuple xs ys => o₁.cls = .type "tuple" ∧ o₂.cls = .type "tuple" ∧ (∃ n, o₁.data = .seq xs n) ∧ ∃ n, o₂.data = .seq ys n
    | .ints es fs => o₁.ExactDict ∧ o₂.ExactDict ∧ (∃ n, o₁.data = .dict es n) ∧ ∃ n, o₂.data = .dict fs n
    | .strs es fs => o₁.ExactDict ∧ o₂.ExactDict ∧ (∃ n, o₁.data = .dict es n) ∧ ∃ n, o₂.data = .dict fs n := by
  have pd : ∀ o : Obj, o.cls = .type "dict" → plainD o = true → o.ExactDict := by
    intro o hc hd
    unfold plainD at hd
    split at hd
    · rename_i h1 h2
      refine ⟨hc, h1, ?_⟩
      rw [← Array.toList_eq_nil_iff]; exact h2
    · cases hd
  unfold pairOf at hp
  split at hp
  · rename_i h1 h2 h3 h4
    cases hp
    exact ⟨h1, h3, ⟨_, h2⟩, _, h4⟩
  · rename_i h1 h2 h3 h4
    cases hp
    exact ⟨h1, h3, ⟨_, h2⟩, _, h4⟩
  · rename_i h1 h2 h3 h4
    split at hp
    · rename_i q1 q2 q3
      cases hp
      exact ⟨pd _ h1 q1, pd _ h3 q2, ⟨_, h2⟩, _, h4⟩
    · rename_i q1 q2 q3
      cases hp
      exact ⟨pd _ h1 q1, pd _ h3 q2, ⟨_, h2⟩, _, h4⟩
    · cases hp
  · cases hp

/-- two containers of the ledger that the run has found equal -/
noncomputable def CmpW (prog : Program) (w : World) (h : Heap) (n : Nat) (x y : Addr) : Prop :=
  ∀ (A : Around) (g : Array GenState) (d : Drawn) (tk : Nat) (os : OsState), A.units + n < cLine → ∀ (ne : Bool) (E : Value → Shared → Prop) (Q : Value → Shared → Prop), Q (.bool !ne) ⟨h, g, d, tk, os⟩ →
    wpAny (model prog w) A (richCompare (cond ne .NotEq .Eq) (.ref x) (.ref y)) Q E ⟨h, g, d, tk, os⟩

theorem not_sys (H : Hyp e prog w h₀ T) (R : Rl e h₀ T h σ) {i : Nat} {b : Addr} {ob : Obj} (hi : σ.news[i]? = some (b, ob)) : (b == sysModules) = false := by
  rw [beq_eq_false_iff_ne]
  rintro rfl
  obtain ⟨o, ho⟩ := Option.isSome_iff_exists.mp H.sys
  rcases (R.own _ (R.mem_news hi)).1 with q | q
  · rw [H.X _ _ ho] at q; cases q
  · exact H.kT _ _ ho q

theorem cont_ok (H : Hyp e prog w h₀ T) (n : Nat) {eq : Value → Value → V Unit}
    (hP : ∀ v y σ r σ' o, eq v y σ = some (r, σ', o) → Oks o → Rl e h₀ T h σ → r = .ok () ∧ (∃ ct, σ' = { σ with cert := ct }) ∧ ∀ (A : Around) (g : Array GenState) (d : Drawn) (tk : Nat) (os : OsState), A.units + n < cLine → EqW prog w A ⟨h, g, d, tk, os⟩ v y)
    {o₁ o₂ : Obj} {i j : Nat} {x y : Addr} {r : Except Value Unit} (hr : contEq e eq o₁ o₂ σ = some (r, σ', o)) (ho : Oks o) (R : Rl e h₀ T h σ) (hi : σ.news[i]? = some (x, o₁)) (hj : σ.news[j]? = some (y, o₂)) :
    r = .ok () ∧ (∃ ct, σ' = { σ with cert := ct }) ∧ CmpW prog w h (n + 1) x y := by
  unfold contEq at hr
  have gx := R.at_ hi
  have gy := R.at_ hj
  cases hp : pairOf o₁ o₂ with
  | none => simp only [hp] at hr; cases hr
  | some p =>
    have hk := pairOf_list hp
    cases p with
    | list xs ys =>
      simp only [hp] at hr
      obtain ⟨c1, c2, ⟨n1, d1⟩, n2, d2⟩ := hk
      obtain ⟨q0, q1, q2, q3⟩ := all_ok hP _ _ _ _ _ _ hr ho R
      refine ⟨q0, q1, fun A g d tk os hu ne E Q hq => ?_⟩
      refine listW ne ⟨_, gx, c1, n1, d1⟩ ⟨_, gy, c2, n2, d2⟩ (by simpa using q2) (by omega) (fun k h1 h2 => ?_) hq
      refine q3 (xs[k], ys[k]) ?_ A.in1 g d tk os (by simp only [Around.in1_units]; omega)
      rw [List.mem_iff_getElem]
      exact ⟨k, by simp; omega, by simp⟩
    | tuple xs ys =>
      simp only [hp] at hr
      obtain ⟨c1, c2, ⟨n1, d1⟩, n2, d2⟩ := hk
      obtain ⟨q0, q1, q2, q3⟩ := all_ok hP _ _ _ _ _ _ hr ho R
      refine ⟨q0, q1, fun A g d tk os hu ne E Q hq => ?_⟩
      exact tupleW ne ⟨_, gx, c1, n1, d1⟩ ⟨_, gy, c2, n2, d2⟩ (by simpa using q2) (by omega) (fun k hk => q3 k hk A.in1 g d tk os (by simp only [Around.in1_units]; omega)) hq
    | «ints» es fs =>
      simp only [hp] at hr
      obtain ⟨c1, c2, ⟨n1, d1⟩, n2, d2⟩ := hk
      obtain ⟨ka, oa, kb, ob, e1, e2, u1, u2, hl, x1, x2, rfl, rfl, hits⟩ := dict_ok hr ho
      obtain ⟨a1, a2⟩ := intRows_ok (prog := prog) (w := w) _ _ _ e1 x1
      obtain ⟨b1, b2⟩ := intRows_ok (prog := prog) (w := w) _ _ _ e2 x2
      refine ⟨rfl, ⟨_, rfl⟩, fun A g d tk os hu ne E Q hq => ?_⟩
      have da : (⟨h, g, d, tk, os⟩ : Shared).heap.DictOf (intKind prog w) x ka := ⟨o₁, es, n1, gx, c1, d1, fun z hz => a1 z (by simpa using hz), a2, u1⟩
      have db : (⟨h, g, d, tk, os⟩ : Shared).heap.DictOf (intKind prog w) y kb := ⟨o₂, fs, n2, gy, c2, d2, fun z hz => b1 z (by simpa using hz), b2, u2⟩
      have hlb : (ka.length == kb.length) = true := by rw [hl]; exact beq_self_eq_true _
      cases ne
      · exact keq_eq (not_sys H R hi) (not_sys H R hj) da db (by omega) (fun _ => hits _ _) (by rw [hlb]; exact hq)
      · exact keq_ne (not_sys H R hi) (not_sys H R hj) da db (by omega) (fun _ => hits _ _) (by rw [hlb]; exact hq)
    | «strs» es fs =>
      simp only [hp] at hr
      obtain ⟨c1, c2, ⟨n1, d1⟩, n2, d2⟩ := hk
      obtain ⟨ka, oa, kb, ob, e1, e2, u1, u2, hl, x1, x2, rfl, rfl, hits⟩ := dict_ok hr ho
      obtain ⟨a1, a2⟩ := strRows_ok H _ _ _ e1 x1
      obtain ⟨b1, b2⟩ := strRows_ok H _ _ _ e2 x2
      refine ⟨rfl, ⟨_, rfl⟩, fun A g d tk os hu ne E Q hq => ?_⟩
      have da : (⟨h, g, d, tk, os⟩ : Shared).heap.DictOf (strKind prog w) x ka := ⟨o₁, es, n1, gx, c1, d1, fun z hz => a1 z (by simpa using hz), a2, u1⟩
      have db : (⟨h, g, d, tk, os⟩ : Shared).heap.DictOf (strKind prog w) y kb := ⟨o₂, fs, n2, gy, c2, d2, fun z hz => b1 z (by simpa using hz), b2, u2⟩
      have hlb : (ka.length == kb.length) = true := by rw [hl]; exact beq_self_eq_true _
      cases ne
      · exact keq_eq (not_sys H R hi) (not_sys H R hj) da db (by omega) (fun _ => hits _ _) (by rw [hlb]; exact hq)
      · exact keq_ne (not_sys H R hi) (not_sys H R hj) da db (by omega) (fun _ => hits _ _) (by rw [hlb]; exact hq)

theorem same_ix (R : Rl e h₀ T h σ) {i j : Nat} {x y : Addr} {o₁ o₂ : Obj} (hi : σ.news[i]? = some (x, o₁)) (hj : σ.news[j]? = some (y, o₂)) : x = y ↔ i = j := by
  constructor
  · rintro rfl
    have h1 : (σ.news.map (·.1))[i]? = some x := by rw [List.getElem?_map, hi]; rfl
    have h2 : (σ.news.map (·.1))[j]? = some x := by rw [List.getElem?_map, hj]; rfl
    obtain ⟨l1, e1⟩ := List.getElem?_eq_some_iff.mp h1
    obtain ⟨l2, e2⟩ := List.getElem?_eq_some_iff.mp h2
    exact (List.getElem_inj (List.nodup_append.mp R.nd).1).mp (e1.trans e2.symm)
  · rintro rfl
    rw [hi] at hj
    cases hj
    rfl

theorem eq_ok (H : Hyp e prog w h₀ T) : ∀ (n : Nat) (v y : Value) (σ : Sg) (r : Except Value Unit) (σ' : Sg) (o : Obs), eqV e n v y σ = some (r, σ', o) → Oks o → Rl e h₀ T h σ →
    r = .ok () ∧ (∃ ct, σ' = { σ with cert := ct }) ∧ ∀ (A : Around) (g : Array GenState) (d : Drawn) (tk : Nat) (os : OsState), A.units + n < cLine → EqW prog w A ⟨h, g, d, tk, os⟩ v y := by
  intro n
  induction n with
  | zero =>
    intro v y σ r σ' o hr ho R
    have hr' : atomEq v y σ = some (r, σ', o) := by
      unfold eqV at hr
      cases v <;> cases y <;> exact hr
    obtain ⟨q0, rfl, q2⟩ := atom_ok hr' ho
    exact ⟨q0, ⟨_, rfl⟩, fun A g d tk os _ => .of_at (q2 A _)⟩
  | succ n ih =>
    intro v y σ r σ' o hr ho R
    by_cases hb : ∃ a b, v = .ref a ∧ y = .ref b
    · obtain ⟨a, b, rfl, rfl⟩ := hb
      unfold eqV at hr
      rcases bind_ok hr with ⟨io, σ1, o1, o2, h1, h2, rfl⟩ | ⟨z, h1, rfl⟩
      · obtain ⟨i, ob, b', ct, hi0, rfl, hi, rfl⟩ := getV_ok H.srch h1
        cases hi0
        have hab : a = b' := ho.left.head
        subst hab
        rcases bind_ok h2 with ⟨jo, σ2, o3, o4, h3, h4, rfl⟩ | ⟨z, h3, rfl⟩
        · obtain ⟨j, ob', b'', ct', hj0, rfl, hj, rfl⟩ := getV_ok H.srch h3
          cases hj0
          have hbb : b = b'' := ho.right.left.head
          subst hbb
          cases hij : Nat.beq i j with
          | true =>
            simp only [hij] at h4
            cases h4
            have : a = b := (same_ix R hi hj).mpr (Nat.eq_of_beq_eq_true hij)
            subst this
            exact ⟨rfl, ⟨_, rfl⟩, fun A g d tk os _ => .of_at (SeqAt.EqAt.same _)⟩
          | false =>
            simp only [hij] at h4
            have hne : a ≠ b := fun q => by rw [(same_ix R hi hj).mp q, Nat.beq_refl] at hij; cases hij
            have R2 : Rl e h₀ T h { { σ with cert := ct } with cert := ct' } := (R.ct _).ct _
            obtain ⟨q0, ⟨ct3, q1⟩, q2⟩ := cont_ok H n ih h4 ho.right.right R2 hi hj
            exact ⟨q0, ⟨ct3, q1⟩, fun A g d tk os hu => .of_rc hne fun E Q hq => q2 A g d tk os hu false E Q hq⟩
        · obtain ⟨j, ob', b'', ct', hj0, _⟩ := getV_ok H.srch h3
          cases hj0
      · obtain ⟨i, ob, b', ct, hi0, _⟩ := getV_ok H.srch h1
        cases hi0
    · have hr' : atomEq v y σ = some (r, σ', o) := by
        unfold eqV at hr
        cases v <;> cases y <;> first | exact hr | exact absurd ⟨_, _, rfl, rfl⟩ hb
      obtain ⟨q0, rfl, q2⟩ := atom_ok hr' ho
      exact ⟨q0, ⟨_, rfl⟩, fun A g d tk os _ => .of_at (q2 A _)⟩
end
end Mine

end
section
open PySem PySem.W PySem.Calls PySem.Spec PyProof.Rows
set_option maxRecDepth 100000
namespace Mine
theorem fn_set : typeLookup (.type "function") (Str.ofString "__setitem__") = pure none := by rw [typeLookup_type, builtinLookup_eq_fast]; kernel_rfl
theorem fn_del : typeLookup (.type "function") (Str.ofString "__delitem__") = pure none := by rw [typeLookup_type, builtinLookup_eq_fast]; kernel_rfl
theorem fn_seq : hasSequenceTable (.type "function") = pure false := by kernel_rfl
theorem fn_name : typeName (.type "function") = pure "function" := by kernel_rfl
theorem entry_unchain : entryFor table "proto.unchain" = some Builtin.«proto.unchain» := entryFor_of_tree (by kernel_rfl)
section
variable {prog : Program} {w : World} {A : Around} {E : Value → Shared → Prop} {s : Shared}
theorem raiseNew_in {α : Type} {a hd : Addr} {oh oa : Obj} {vs us : Array Value} {Q : α → Shared → Prop} (hh : A.handled = some (.ref hd)) (hne : hd ≠ a) (gh : s.heap.get? hd = some oh) (dh : oh.data = .fields vs) (c2 : vs[2]? = some .none)
    (ga : s.heap.get? a = some oa) (da : oa.data = .fields us) (hu : 2 < us.size) (h : E (.ref a) { s with heap := s.heap.update a (Obj.mapFields (·.setIfInBounds 2 (.ref hd))) }) : wpAny (model prog w) A (raiseNew (.ref a) : Sem α) Q E s := by
  unfold raiseNew
  refine wpAny_bind (wpAny_handled ?_)
  rw [hh]
  show wpAny _ _ (if (Value.ref hd != Value.ref a) = true then (do
        let _ ← holding [Value.ref a] (runValue (Code.builtin "proto.unchain" { pos := [Value.ref a, Value.ref hd, Value.ref hd, Value.bool false] }))
        let _ ← updateField a 2 (Value.ref hd)
        throw (Value.ref a)) else throw (Value.ref a)) _ _ _
  rw [if_pos (by rw [bne_iff_ne]; intro q; cases q; exact hne rfl)]
  refine wpAny_bind (wpAny_holding (wpAny_runValue (codeAny_builtin entry_unchain ?_)))
  show wpAny _ _ (do
    let context ← field (.ref hd) 2
    if context == .none then return ← ret .none
    _) _ _ _
  refine wpAny_bind (wpAny_field gh dh c2 ?_)
  show wpAny _ _ (ret .none) _ _ _
  refine wpAny_pure ?_
  show wpAny _ _ (do
        let _ ← updateField a 2 (Value.ref hd)
        throw (Value.ref a)) _ _ _
  refine wpAny_bind ?_
  unfold updateField
  refine wpAny_bind (wpAny_load ga ?_)
  rw [da]
  show wpAny _ _ (if 2 < us.size then _ else _) _ _ _
  rw [if_pos hu]
  exact wpAny_update ga (wpAny_throw h)

theorem setItem_fn {f hd : Addr} {of oh : Obj} {vs : Array Value} {i v : Value} {Q : Unit → Shared → Prop} (hf : s.heap.get? f = some of) (cf : of.cls = .type "function") (hh : A.handled = some (.ref hd)) (gh : s.heap.get? hd = some oh) (dh : oh.data = .fields vs) (c2 : vs[2]? = some .none)
    (h : E (.ref (s.heap.objs.size + 1)) { s with toks := s.toks + 1, heap := ((s.heap.push { cls := .type "tuple", data := .seq #[.str noAssign s.toks] }).push { cls := .type "TypeError", data := .fields #[.ref s.heap.objs.size, .none, .none, .none, .bool false, .none] }).update (s.heap.objs.size + 1) (Obj.mapFields (·.setIfInBounds 2 (.ref hd))) }) :
    wpAny (model prog w) A (setItem (.ref f) i v) Q E s := by
  obtain ⟨hp, g, d, tk, os⟩ := s
  have f1 := fn_set
  have f2 := fn_del
  have f3 := fn_seq
  have f4 := fn_name
  have hT : (⟨hp, g, d, tk, os⟩ : Shared).TypeIs (.ref f) "function" := ⟨of, hf, cf⟩
  unfold setItem sequenceKey callSpecial? specialOf takenAsIndex PySem.typeNameOf shownTypeOf
  wp_walk
  have em : ((toString "'" ++ toString "function" ++ toString "' object does not support item assignment" : String) : Str) = noAssign := by decide +kernel
  unfold raiseErrorMade
  rw [em]
  have pe := plainExc_TypeError
  unfold mkStr
  rw [if_neg (by decide +kernel)]
  refine wpAny_bind (wpAny_bind (wpAny_fresh (wpAny_pure ?_)))
  unfold newExc newTuple
  refine wpAny_bind (wpAny_bind (wpAny_newObj_type ?_ (by size_fits)))
  refine wpAny_bind (m := firstArgMember _ _) (wpAny_of_eq (a := Value.none) (by simp only [firstArgMember, pe.first]; rfl) ?_)
  rw [pe.own]
  refine wpAny_newObj_type ?_ (by size_fits)
  have hlt : hd < hp.objs.size := Heap.lt_size gh
  have e1 : ((hp.push { cls := .type "tuple", data := .seq #[.str noAssign tk] }).objs.size) = hp.objs.size + 1 := Heap.size_push ..
  refine raiseNew_in (hd := hd) hh ?_ (Heap.get?_push_of_some _ (Heap.get?_push_of_some _ gh)) dh c2 (Heap.get?_push_size _ rfl) rfl (by show 2 < 6; decide) ?_
  · intro q
    have q' : hd = (hp.push { cls := .type "tuple", data := .seq #[.str noAssign tk] }).objs.size := q
    rw [e1] at q'
    rw [q'] at hlt
    exact absurd hlt (Nat.not_lt.mpr (Nat.le_succ _))
  · show E (.ref (hp.push { cls := .type "tuple", data := .seq #[.str noAssign tk] }).objs.size) _
    rw [e1]
    exact h
end
end Mine

end
section
set_option maxRecDepth 100000
namespace Mine
open PySem PySem.W PySem.Calls PySem.Spec PyProof.Rows
open Builtin Builtin.Str Builtin.BaseException Builtin.Exceptions
theorem slot_attr_str : Slot "AttributeError" "__str__" "AttributeError.__str__" := .of (owner := "AttributeError") (n := "__str__") (by rw [typeLookup_type, builtinLookup_eq_fast]; kernel_rfl) (by decide +kernel) (by decide +kernel) (by decide +kernel)
    (by first | exact .inl (by decide +kernel) | exact .inr (by decide +kernel)) (by rw [isSubtype_type]; kernel_rfl)
theorem entry_attr_str : entryFor table "AttributeError.__str__" = some Builtin.«BaseException.__str__» := entryFor_alias (id' := "BaseException.__str__") (by rw [fastTable_eq_tree]; kernel_rfl) (by first | rfl | decide +kernel) (by decide +kernel) (by rw [fastTable_eq_tree]; kernel_rfl)
theorem args_attr_str (a : Value) : argsOk "AttributeError.__str__" ⟨[a], []⟩ := by unfold argsOk; kernel_rfl
section
variable {prog : Program} {w : World} {A : Around} {E : Value → Shared → Prop} {s : Shared} {e t0 : Addr}
theorem call_attrStr_one {m : Str} {tk : Tok} {Q : Value → Shared → Prop} (x : s.heap.ExcAt e "AttributeError" (.ref t0)) (ht : s.heap.TupAt t0 [.str m tk]) (hq : Q (.str m tk) s) :
    wpAny (model prog w) A (call (.builtin "AttributeError.__str__") [.ref e]) Q E s :=
  wpAny_call_entry slot_attr_str x.typeIs entry_attr_str (bexcStr_entry_one x ht ⟨_, rfl, hq⟩) (args_attr_str _)
theorem strOf_attr_one (hu : A.units < cLine) {m : Str} {tk : Tok} {Q : Value → Shared → Prop} (x : s.heap.ExcAt e "AttributeError" (.ref t0)) (ht : s.heap.TupAt t0 [.str m tk]) (hq : Q (.str m tk) s) :
    wpAny (model prog w) A (PySem.Builtin.Str.strOf (.ref e)) Q E s := by
  unfold PySem.Builtin.Str.strOf
  repeat (first | with_reducible refine wpAny_cRoomFor hu ?_ | with_reducible refine wpAny_callSpecial?_slot x.typeIs slot_attr_str (call_attrStr_one x ht ?_) | wp_step)
  exact hq
theorem str_of_attr_one (hu : A.units + 2 < cLine) {m : Str} {tk : Tok} {Q : Value → Shared → Prop} (x : s.heap.ExcAt e "AttributeError" (.ref t0)) (ht : s.heap.TupAt t0 [.str m tk]) (h : Q (.str m tk) s) :
    wpAny (model prog w) A (call (.type "str") [.ref e]) Q E s :=
  callType_new F.called_str (by decide) (F.typeCall_str_1 _) (F.newCall_str_1 _) (fun obj => F.args_object_init_2 obj _) F.entry_str_new
    (meets_str_new (S := fun A' R s' => A'.units + 1 < cLine ∧ s'.heap.ExcAt e "AttributeError" (.ref t0) ∧ s'.heap.TupAt t0 [.str m tk] ∧ R (.ok (.ret (.str m tk))) s')
      fun _ _ A' _ _ hq => strOf_attr_one (A := A'.in1) hq.1 hq.2.1 hq.2.2.1 hq.2.2.2)
    ⟨(show A.units + 1 + 1 < cLine from hu), x, ht, typeIs_str _ _ _, h⟩
end
end Mine

end
section
open PySem PySem.W PySem.Calls PySem.Spec PyProof.Rows
set_option maxRecDepth 100000
namespace Mine
structure ScOk (e : Ev) (sc : Sc) (A : Around) : Prop where
  hdl : A.handled = sc.hdl
  frs : A.frames = some (sc.frs ++ botE e)
  dep : A.depth ≤ sc.dep
  uni : A.units ≤ sc.uni

structure FnsOk (e : Ev) (prog : Program) (w : World) (h₀ : Heap) (T : List Addr) (f : Fns) : Prop where
  code : ∀ sc A, ScOk e sc A → ∀ c, CodeOk e prog w h₀ T A (f.code sc c) c
  execs : ∀ sc A, ScOk e sc A → ∀ ss env, Snd e prog w h₀ T A (f.execs sc ss env) (PySem.execs ss env)
  exec : ∀ sc A, ScOk e sc A → ∀ s env, Snd e prog w h₀ T A (f.exec sc s env) (PySem.exec s env)
  eval : ∀ sc A, ScOk e sc A → ∀ x env, Snd e prog w h₀ T A (f.eval sc x env) (PySem.eval x env)
  test : ∀ sc A, ScOk e sc A → ∀ x env, Snd e prog w h₀ T A (f.test sc x env) (PySem.isTrue x env (PySem.eval x env))
  handle : ∀ sc A, ScOk e sc A → ∀ x env hs, Snd e prog w h₀ T A (f.handle sc x env hs) (PySem.handleBy x env hs)

section
variable {e : Ev} {prog : Program} {w : World} {h₀ : Heap} {T : List Addr} {A : Around} {sc : Sc} {f : Fns}

theorem ScOk.mark (h : ScOk e sc A) (hd : Option Value) : ScOk e (sc.mark hd) (A.mark hd) := ⟨by show hd.or A.handled = hd.or sc.hdl; rw [h.hdl], h.frs, h.dep, h.uni⟩
theorem ScOk.deeper (h : ScOk e sc A) (env : Env) : ScOk e (sc.deeper env) (A.deeper env) :=
  ⟨h.hdl, by show A.frames.map (env :: ·) = _; rw [h.frs]; rfl, Nat.add_le_add_right h.dep 1, Nat.add_le_add_right h.uni 3⟩
theorem blt_is {a b : Nat} (h : Nat.blt a b = true) : a < b := Nat.le_of_ble_eq_true h

theorem isStr_is {hd : Option Value} {c : Code} {a : Addr} (h : isStr hd c = some a) : hd = none ∧ c = .call (.type "str") ⟨[.ref a], []⟩ := by
  unfold isStr at h
  split at h
  · cases h; exact ⟨rfl, rfl⟩
  · cases h
theorem excOf_is {o : Obj} {t : Addr} (h : excOf o = some t) : ∃ vs, (o.cls = .type "TypeError" ∨ o.cls = .type "AttributeError") ∧ o.data = .fields vs ∧ vs[0]? = some (.ref t) := by
  unfold excOf at h
  split at h
  · rename_i X vs h1 h2
    split at h
    · rename_i t' h3 h4
      cases h
      have hX : X = "TypeError" ∨ X = "AttributeError" := by simpa [excStrs] using h4
      refine ⟨vs, ?_, h2, h3⟩
      rcases hX with rfl | rfl
      · exact .inl h1
      · exact .inr h1
    · cases h
  · cases h
theorem oneText_is {o : Obj} {p : Str × Tok} (h : oneText o = some p) : o.cls = .type "tuple" ∧ ∃ n, o.data = .seq [Value.str p.1 p.2].toArray n := by
  unfold oneText at h
  split at h
  · rename_i ws n h1 h2
    split at h
    · rename_i m tk h3
      cases h
      refine ⟨h1, n, ?_⟩
      rw [h2, ← h3]
    · cases h
  · cases h

theorem str_ok (H : Hyp e prog w h₀ T) (S : ScOk e sc A) (a : Addr) {σ : Sg} {r : Except Value Flow} {σ' : Sg} {o : Obs} (hr : strV e sc a σ = some (r, σ', o)) (ho : Oks o)
    (R : Result → Shared → Prop) (g : Array GenState) (d : Drawn) (os : OsState) (h : Heap) (hR : Rl e h₀ T h σ) (hq : ∀ h', Rl e h₀ T h' σ' → R r ⟨h', g, d, e.tok + σ'.tk, os⟩) :
    codeIn (model prog w) A none (.call (.type "str") ⟨[.ref a], []⟩) R ⟨h, g, d, e.tok + σ.tk, os⟩ := by
  unfold strV at hr
  rcases bind_ok hr with ⟨io, σ1, o1, o2, h1, h2, rfl⟩ | ⟨x, h1, rfl⟩
  · obtain ⟨i, ob, b, ct, hi0, rfl, hi, rfl⟩ := getV_ok H.srch h1
    cases hi0
    have hab : a = b := ho.left.head
    subst hab
    have hg := hR.at_ hi
    cases hx : excOf ob with
    | none => simp only [hx] at h2; cases h2
    | some t =>
      cases hu : Nat.blt sc.uni 8000 with
      | false => simp only [hx, hu] at h2; cases h2
      | true =>
        simp only [hx, hu] at h2
        rcases bind_ok h2 with ⟨jt, σ2, o3, o4, h3, h4, rfl⟩ | ⟨x, h3, rfl⟩
        · obtain ⟨j, ot, b', ct', hj0, rfl, hj, rfl⟩ := getV_ok H.srch h3
          cases hj0
          have htb : t = b' := ho.right.left.head
          subst htb
          have hgt := hR.at_ hj
          cases ht : oneText ot with
          | none => simp only [ht] at h4; cases h4
          | some p =>
            simp only [ht] at h4
            cases h4
            obtain ⟨vs, c1, c2, c3⟩ := excOf_is hx
            obtain ⟨d1, n, d2⟩ := oneText_is ht
            have hu' : A.units + 2 < cLine := by have := blt_is hu; have := S.uni; unfold cLine; omega
            have z : wpAny (model prog w) A (call (.type "str") [.ref a]) (fun v s' => v = .str p.1 p.2 ∧ s' = ⟨h, g, d, e.tok + σ.tk, os⟩) (fun _ _ => False) ⟨h, g, d, e.tok + σ.tk, os⟩ := by
              rcases c1 with c1 | c1
              · exact P.str_of_exc_one (s := ⟨h, g, d, e.tok + σ.tk, os⟩) (e := a) (t0 := t) F.excStr_TypeError hu' (m := p.1) (tk := p.2) ⟨ob, vs, hg, c1, c2, c3⟩ ⟨ot, n, hgt, d1, d2⟩ ⟨rfl, rfl⟩
              · exact str_of_attr_one (s := ⟨h, g, d, e.tok + σ.tk, os⟩) (e := a) (t0 := t) hu' (m := p.1) (tk := p.2) ⟨ob, vs, hg, c1, c2, c3⟩ ⟨ot, n, hgt, d1, d2⟩ ⟨rfl, rfl⟩
            intro Γ p' hΓ
            have y := z Γ p' hΓ
            rw [show (call (.type "str") [.ref a] : Sem Value) = runValue (.call (.type "str") ⟨[.ref a], []⟩) from rfl, Sem.wp_runValue] at y
            refine wpCode_mono (fun r s' hrs => ?_) y
            cases r with
            | error x => exact hrs.elim
            | ok fl =>
              cases fl with
              | ret v =>
                obtain ⟨rfl, rfl⟩ := hrs
                exact hq h ((hR.ct _).cert rfl rfl rfl)
              | _ => exact hrs.elim
        · obtain ⟨j, ot, b', ct', hj0, _⟩ := getV_ok H.srch h3
          cases hj0
  · obtain ⟨i, ob, b, ct, hi0, _⟩ := getV_ok H.srch h1
    cases hi0

theorem isStrI_is {hd : Option Value} {c : Code} {n : Int} (h : isStrI hd c = some n) : hd = none ∧ ∃ t, c = .call (.type "str") ⟨[.int n t], []⟩ := by
  unfold isStrI at h
  split at h
  · cases h; exact ⟨rfl, _, rfl⟩
  · cases h
theorem strI_ok (n : Int) (t : Tok) {σ : Sg} {r : Except Value Flow} {σ' : Sg} {o : Obs} (hr : strI e n σ = some (r, σ', o)) (ho : Oks o)
    (R : Result → Shared → Prop) (g : Array GenState) (d : Drawn) (os : OsState) (h : Heap) (hR : Rl e h₀ T h σ) (hq : ∀ h', Rl e h₀ T h' σ' → R r ⟨h', g, d, e.tok + σ'.tk, os⟩) :
    codeIn (model prog w) A none (.call (.type "str") ⟨[.int n t], []⟩) R ⟨h, g, d, e.tok + σ.tk, os⟩ := by
  unfold strI at hr
  cases hr
  have hn : n.natAbs ≤ 100000 := ho.head
  have hl : n.natAbs.log2 < 1920 := by
    have := Nat.log2_le_self n.natAbs
    by_cases h0 : n.natAbs = 0
    · rw [h0]; decide
    · exact Nat.lt_of_lt_of_le ((Nat.log2_lt h0).mpr (Nat.lt_of_le_of_lt hn (by decide : 100000 < 2 ^ 17))) (by decide)
  have z := P.str_of_int (prog := prog) (w := w) (A := A) (E := fun _ _ => False) (s := ⟨h, g, d, e.tok + σ.tk, os⟩) (a := n) (t := t)
    (Q := fun v s' => v = .str (Str.ofString (toString n)) (e.tok + σ.tk) ∧ s' = ⟨h, g, d, e.tok + σ.tk + 1, os⟩) hl ⟨rfl, rfl⟩
  intro Γ p' hΓ
  have y := z Γ p' hΓ
  rw [show (call (.type "str") [.int n t] : Sem Value) = runValue (.call (.type "str") ⟨[.int n t], []⟩) from rfl, Sem.wp_runValue] at y
  refine wpCode_mono (fun r s' hrs => ?_) y
  cases r with
  | error x => exact hrs.elim
  | ok fl =>
    cases fl with
    | ret v =>
      obtain ⟨rfl, rfl⟩ := hrs
      exact hq h (hR.cert rfl rfl rfl)
    | _ => exact hrs.elim

theorem isModI_is {hd : Option Value} {c : Code} {p : Int × Int} (h : isModI hd c = some p) : hd = none ∧ ∃ t u, c = .call (.builtin "int.__mod__") ⟨[.int p.1 t, .int p.2 u], []⟩ := by
  unfold isModI at h
  split at h
  · cases h; exact ⟨rfl, _, _, rfl⟩
  · cases h
theorem isPos_is {b : Int} (h : isPos b = true) : 0 < b := by
  unfold isPos at h
  split at h
  · simp only [Int.ofNat_eq_natCast]; omega
  · cases h
theorem modI_ok (H : Hyp e prog w h₀ T) (a b : Int) (t u : Tok) {σ : Sg} {r : Except Value Flow} {σ' : Sg} {o : Obs} (hr : modI e a b σ = some (r, σ', o)) (ho : Oks o)
    (R : Result → Shared → Prop) (g : Array GenState) (d : Drawn) (os : OsState) (h : Heap) (hR : Rl e h₀ T h σ) (hq : ∀ h', Rl e h₀ T h' σ' → R r ⟨h', g, d, e.tok + σ'.tk, os⟩) :
    codeIn (model prog w) A none (.call (.builtin "int.__mod__") ⟨[.int a t, .int b u], []⟩) R ⟨h, g, d, e.tok + σ.tk, os⟩ := by
  unfold modI at hr
  cases hb : isPos b with
  | false => simp only [hb] at hr; cases hr
  | true =>
    simp only [hb, H.srch] at hr
    have hp := isPos_is hb
    have key : ∃ ct, r = .ok (.ret (.int (a.fmod b) (e.tok + σ.tk))) ∧ σ' = { σ with tk := σ.tk + 1, cert := ct } := by
      cases hc : σ.cert with
      | nil => simp only [hc] at hr; cases hr
      | cons x ct =>
        cases x with
        | none => simp only [hc] at hr; cases hr; exact ⟨ct, rfl, rfl⟩
        | some k =>
          simp only [hc] at hr
          cases hr
          have h1 : (a.fmod b).toNat ≤ k := ho.head
          have h2 : k ≤ (a.fmod b).toNat := ho.tail.head
          have h3 : 0 ≤ a.fmod b := Int.fmod_nonneg_of_pos a hp
          have h4 : ((k : Nat) : Int) = a.fmod b := by omega
          exact ⟨ct, by rw [h4], rfl⟩
    obtain ⟨ct, rfl, rfl⟩ := key
    have z := call_int_mod (prog := prog) (w := w) (A := A) (E := fun _ _ => False) (s := ⟨h, g, d, e.tok + σ.tk, os⟩) (a := a) (b := b) (t := t) (u := u)
      (Q := fun v s' => v = .int (a.fmod b) (e.tok + σ.tk) ∧ s' = ⟨h, g, d, e.tok + σ.tk + 1, os⟩) (by omega) ⟨rfl, rfl⟩
    intro Γ p' hΓ
    have y := z Γ p' hΓ
    rw [show (call (.builtin "int.__mod__") [.int a t, .int b u] : Sem Value) = runValue (.call (.builtin "int.__mod__") ⟨[.int a t, .int b u], []⟩) from rfl, Sem.wp_runValue] at y
    refine wpCode_mono (fun r s' hrs => ?_) y
    cases r with
    | error x => exact hrs.elim
    | ok fl =>
      cases fl with
      | ret v =>
        obtain ⟨_, rfl, rfl⟩ := hrs
        exact hq h (hR.cert rfl rfl rfl)
      | _ => exact hrs.elim

theorem ihV_ok (H : Hyp e prog w h₀ T) (F : FnsOk e prog w h₀ T f) (n : Nat) (S : ScOk e sc A) : IhOk e prog w h₀ T A (ihV e n f sc) := by
  intro hd c σ r σ' o hr ho hnb R g d os h hR hq
  unfold ihV at hr
  cases hdf : code.isDef c with
  | true =>
    simp only [hdf] at hr
    refine codeIn_of hnb (F.code _ _ ?_ c σ r σ' o hr ho R g d os h hR hq)
    exact ⟨rfl, S.frs, S.dep, S.uni⟩
  | false =>
    simp only [hdf] at hr
    cases hs : isStr hd c with
    | some a =>
      simp only [hs] at hr
      obtain ⟨rfl, rfl⟩ := isStr_is hs
      exact str_ok H S a hr ho R g d os h hR hq
    | none =>
      simp only [hs] at hr
      cases hi : isStrI hd c with
      | some i =>
        simp only [hi] at hr
        obtain ⟨rfl, t, rfl⟩ := isStrI_is hi
        exact strI_ok i t hr ho R g d os h hR hq
      | none =>
        simp only [hi] at hr
        cases hm : isModI hd c with
        | some p =>
          simp only [hm] at hr
          obtain ⟨rfl, t, u, rfl⟩ := isModI_is hm
          exact modI_ok H p.1 p.2 t u hr ho R g d os h hR hq
        | none =>
          simp only [hm] at hr
          exact code_ih H n A hd c σ r σ' o hr ho hnb R g d os h hR hq

theorem tree_ok (H : Hyp e prog w h₀ T) (F : FnsOk e prog w h₀ T f) (n : Nat) (S : ScOk e sc A) {α : Type} (t : Sem α) : Snd e prog w h₀ T A (treeV e n f sc t) t := by
  unfold treeV
  rw [← S.hdl]
  exact run_ok H (ihV_ok H F n S) t

theorem plain_ok (H : Hyp e prog w h₀ T) (n : Nat) (hA : A.handled = sc.hdl) {α : Type} (t : Sem α) : Snd e prog w h₀ T A (run e (code e n) sc.hdl t) t := by
  rw [← hA]
  exact run_ok H (code_ih H n A) t

theorem fnOf_is {o : Obj} {p : FuncData × List Stmt} (h : fnOf o = some p) : o.data = .func p.1 ∧ p.1.scope.isCoroutine = false ∧ p.1.scope.isGenerator = false ∧ p.1.body = .stmts p.2 := by
  unfold fnOf at h
  split at h
  · rename_i fd h1
    split at h
    · rename_i h2 h3 h4
      cases h
      exact ⟨h1, h2, h3, h4⟩
    · cases h
  · cases h

/-- an exception on its way out of a frame -/
theorem leave_ok (H : Hyp e prog w h₀ T) (S : ScOk e sc A) (x : Value) (env : Env) {R : Result → Shared → Prop} {σ : Sg} {r : Except Value Flow} {σ' : Sg} {o : Obs}
    (hr : (V.bind (noteV e sc.frs x env) fun _ => V.bind (flightV e x none) fun _ => V.raise x) σ = some (r, σ', o)) (ho : Oks o) {g : Array GenState} {d : Drawn} {os : OsState} {h : Heap} (hR : Rl e h₀ T h σ)
    (hq : ∀ h', Rl e h₀ T h' σ' → R r ⟨h', g, d, e.tok + σ'.tk, os⟩) :
    wpAny (model prog w) A (leaving env x) (fun _ s'' => R (.error x) s'') (fun e' s'' => R (.error e') s'') ⟨h, g, d, e.tok + σ.tk, os⟩ := by
  unfold leaving
  rcases bind_ok hr with ⟨u, σ1, o1, o2, h1, h2, rfl⟩ | ⟨y, h1, rfl⟩
  · refine wpAny_bind (note_ok H S.frs x env _ _ _ _ h1 ho.left _ _ g d os h hR fun h' R' => ?_)
    rcases bind_ok h2 with ⟨u, σ2, o3, o4, h3, h4, rfl⟩ | ⟨y, h3, rfl⟩
    · refine flight_ok H x none _ _ _ _ h3 ho.right.left _ _ g d os h' R' fun h'' R'' => ?_
      cases h4
      exact hq h'' R''
    · exact flight_ok H x none _ _ _ _ h3 ho.right _ _ g d os h' R' fun h'' R'' => hq h'' R''
  · exact wpAny_bind (note_ok H S.frs x env _ _ _ _ h1 ho _ _ g d os h hR fun h' R' => hq h' R')

theorem codeT_ok (H : Hyp e prog w h₀ T) (n : Nat) (hA : A.handled = sc.hdl) (c : Code) : CodeOk e prog w h₀ T A (codeT e n sc.hdl c) c := by
  intro σ r σ' o hr ho R g d os h hR hq
  unfold codeT at hr
  have es : e.src.den = denote table := by rw [H.src]; rfl
  rw [es] at hr
  split at hr
  · cases hr
  · rename_i t ht
    refine code_head ht rfl ?_
    have hA' : (A.under c).handled = sc.hdl := hA
    rw [← hA'] at hr
    split at hr
    · rename_i f σ1 o1 h1
      cases hr
      exact run_ok H (code_ih H n _) _ _ _ _ _ h1 ho _ _ g d os h hR fun h' R' => hq h' R'
    · rename_i x σ1 o1 h1
      cases hr
      exact run_ok H (code_ih H n _) _ _ _ _ _ h1 ho _ _ g d os h hR fun h' R' => hq h' R'
    · cases hr

theorem call_ok (H : Hyp e prog w h₀ T) (F : FnsOk e prog w h₀ T f) (n : Nat) (S : ScOk e sc A) (a : Addr) (args : Args) : CodeOk e prog w h₀ T A (callV e n f sc a args) (.call (.ref a) args) := by
  intro σ r σ' o hr ho R g d os h hR hq
  unfold callV at hr
  rcases bind_ok hr with ⟨ob, σ1, o1, o2, h1, h2, rfl⟩ | ⟨x, h1, rfl⟩
  · obtain ⟨b, ob', hl, hob, rfl⟩ := lookV_ok h1
    cases hob
    obtain ⟨hg, ct, rfl⟩ := look_is H hR hl ho.left.head
    have ho := ho.right
    cases hfn : fnOf ob with
    | none =>
      simp only [hfn] at h2
      cases hd : isFnD ob with
      | true => simp only [hd] at h2; cases h2
      | false =>
        simp only [hd] at h2
        exact codeT_ok (sc := sc) H n S.hdl _ _ _ _ _ h2 ho R g d os h (hR.ct _) hq
    | some p =>
      obtain ⟨fd, body⟩ := p
      obtain ⟨q1, q2, q3, q4⟩ := fnOf_is hfn
      simp only [hfn] at h2
      simp only at q1 q2 q3 q4
      cases hc : fd.code with
      | ref c =>
        simp only [hc] at h2
        rcases bind_ok h2 with ⟨oc, σ2, o3, o4, h3, h4, rfl⟩ | ⟨x, h3, rfl⟩
        · obtain ⟨b2, oc', hl2, hoc, rfl⟩ := lookV_ok h3
          cases hoc
          have R1 : Rl e h₀ T h { σ with cert := ct } := hR.ct _
          obtain ⟨hgc, ct2, rfl⟩ := look_is H R1 hl2 ho.left.head
          have ho := ho.right
          cases hdv : oc.data with
          | fields vs =>
            simp only [hdv] at h4
            cases hy : (vs[1]? : Option Value) with
            | none => simp only [hy] at h4; cases h4
            | some y =>
              cases y with
              | str q tq =>
                simp only [hy] at h4
                cases k1 : decide (q = fd.qualname) with
                | false => simp only [k1] at h4; cases h4
                | true =>
                  cases k2 : Nat.blt sc.dep 600 with
                  | false => simp only [k1, k2] at h4; cases h4
                  | true =>
                    cases k3 : Nat.blt sc.uni 8000 with
                    | false => simp only [k1, k2, k3] at h4; cases h4
                    | true =>
                      simp only [k1, k2, k3] at h4
                      have hq' : q = fd.qualname := of_decide_eq_true k1
                      have hroom : A.depth < recursionLimit := by have := blt_is k2; have := S.dep; unfold recursionLimit; omega
                      refine codeAny_call_function hroom hg q1 q2 q3 q4 ⟨c, oc, vs, tq, hc, hgc, hdv, by rw [hy, hq']⟩ ?_
                      have eb : e.src.bindA = bindArgs := by rw [H.src]; rfl
                      have en : e.src.newEnv = @newFunctionEnv := by rw [H.src]; rfl
                      rw [eb, en] at h4
                      rcases bind_ok h4 with ⟨binds, σ3, o5, o6, h5, h6, rfl⟩ | ⟨x, h5, rfl⟩
                      · refine plain_ok (A := A.in1) H n S.hdl _ _ _ _ _ h5 ho.left _ _ g d os h (R1.ct _) fun h' R' => ?_
                        have ho := ho.right
                        rcases bind_ok h6 with ⟨env, σ4, o7, o8, h7, h8, rfl⟩ | ⟨x, h7, rfl⟩
                        · rw [← hc] at h7
                          refine plain_ok (A := A.in1) H n S.hdl _ _ _ _ _ h7 ho.left _ _ g d os h' R' fun h'' R'' => ?_
                          have ho := ho.right
                          refine ⟨H.lim _ R''.old, codeAny_func ?_⟩
                          obtain ⟨r1, σ5, o9, o10, h9, h10, rfl⟩ := ends_ok h8
                          refine F.execs _ _ (S.deeper env) _ _ _ _ _ _ h9 ho.left _ _ g d os h'' R'' fun h3 R3 => ?_
                          have ho := ho.right
                          cases r1 with
                          | ok fl =>
                            cases fl <;> (cases h10; exact hq h3 R3)
                          | error x =>
                            exact leave_ok H (S.deeper env) x env h10 ho R3 hq
                        · rw [← hc] at h7
                          exact plain_ok (A := A.in1) H n S.hdl _ _ _ _ _ h7 ho _ _ g d os h' R' fun h'' R'' => hq h'' R''
                      · exact plain_ok (A := A.in1) H n S.hdl _ _ _ _ _ h5 ho _ _ g d os h (R1.ct _) fun h' R' => hq h' R'
              | _ => simp only [hy] at h4; cases h4
          | _ => simp only [hdv] at h4; cases h4
        · obtain ⟨b2, oc', hl2, hoc, _⟩ := lookV_ok h3
          cases hoc
      | _ => simp only [hc] at h2; cases h2
  · obtain ⟨b, ob', hl, hob, _⟩ := lookV_ok h1
    cases hob

theorem execs_ok (F : FnsOk e prog w h₀ T f) (S : ScOk e sc A) (env : Env) : ∀ ss, Snd e prog w h₀ T A (execsV f sc env ss) (PySem.execs ss env)
  | [] => by
    intro σ r σ' o hr ho Q E g d os h R hq
    cases hr
    exact wpAny_execs_nil (hq h R)
  | s :: rest => by
    intro σ r σ' o hr ho Q E g d os h R hq
    unfold execsV at hr
    rcases bind_ok hr with ⟨fl, σ1, o1, o2, h1, h2, rfl⟩ | ⟨x, h1, rfl⟩
    · refine wpAny_execs_cons (F.exec _ _ S _ _ _ _ _ _ h1 ho.left _ _ g d os h R fun h' R' => ?_)
      cases fl with
      | next => exact F.execs _ _ S _ _ _ _ _ _ h2 ho.right Q E g d os h' R' hq
      | _ => cases h2; exact hq h' R'
    · exact wpAny_execs_cons (F.exec _ _ S _ _ _ _ _ _ h1 ho _ _ g d os h R fun h' R' => hq h' R')

theorem try_ok (H : Hyp e prog w h₀ T) (F : FnsOk e prog w h₀ T f) (S : ScOk e sc A) (body : List Stmt) (h1 : ExceptHandler) (hs : List ExceptHandler) (orelse : List Stmt) (env : Env) (pos : Pos) :
    Snd e prog w h₀ T A (tryV e f sc body h1 hs orelse env) (PySem.exec (.Try body (h1 :: hs) orelse [] pos) env) := by
  intro σ r σ' o hr ho Q E g d os h R hq
  unfold tryV at hr
  obtain ⟨r1, σ1, o1, o2, h2, h3, rfl⟩ := ends_ok hr
  refine wpAny_Try_except (F.execs _ _ S _ _ _ _ _ _ h2 ho.left _ _ g d os h R fun h' R' => ?_)
  have ho := ho.right
  cases r1 with
  | ok fl =>
    cases fl with
    | next => exact F.execs _ _ S _ _ _ _ _ _ h3 ho Q E g d os h' R' hq
    | _ => cases h3; exact hq h' R'
  | error x =>
    rcases bind_ok h3 with ⟨u, σ2, o3, o4, h4, h5, rfl⟩ | ⟨y, h4, rfl⟩
    · refine note_ok H S.frs x env _ _ _ _ h4 ho.left _ _ g d os h' R' fun h'' R'' => ?_
      have ho := ho.right
      rcases bind_ok h5 with ⟨u, σ3, o5, o6, h6, h7, rfl⟩ | ⟨y, h6, rfl⟩
      · refine flight_ok H x none _ _ _ _ h6 ho.left _ _ g d os h'' R'' fun h3 R3 => ?_
        exact F.handle _ _ S _ _ _ _ _ _ _ h7 ho.right Q E g d os h3 R3 hq
      · exact flight_ok H x none _ _ _ _ h6 ho _ _ g d os h'' R'' fun h3 R3 => hq h3 R3
    · exact note_ok H S.frs x env _ _ _ _ h4 ho _ _ g d os h' R' fun h'' R'' => hq h'' R''

theorem traced_at (H : Hyp e prog w h₀ T) {x : Value} {σ : Sg} {r : Except Value Unit} {σ' : Sg} {o : Obs} (hr : tracedV e x σ = some (r, σ', o)) (ho : Oks o) {h : Heap} (R : Rl e h₀ T h σ) :
    ∃ a ob vs t ct, x = .ref a ∧ h.get? a = some ob ∧ ob.data = .fields vs ∧ vs[1]? = some (.ref t) ∧ σ' = { σ with cert := ct } ∧ r = .ok () := by
  unfold tracedV at hr
  cases x with
  | ref a =>
    simp only at hr
    rcases bind_ok hr with ⟨io, σ1, o1, o2, h1, h2, rfl⟩ | ⟨x, h1, rfl⟩
    · obtain ⟨i, ob, b, ct, hi0, rfl, hi, rfl⟩ := getV_ok H.srch h1
      cases hi0
      have hab : a = b := ho.left.head
      subst hab
      have hg := R.at_ hi
      cases hdv : ob.data with
      | fields vs =>
        simp only [hdv] at h2
        cases hy : (vs[1]? : Option Value) with
        | none => simp only [hy] at h2; cases h2
        | some y =>
        cases y with
        | ref t =>
          simp only [hy] at h2
          cases h2
          exact ⟨a, ob, vs, t, ct, rfl, hg, hdv, hy, rfl, rfl⟩
        | _ => simp only [hy] at h2; cases h2
      | _ => simp only [hdv] at h2; cases h2
    · obtain ⟨i, ob, b, ct, hi0, _⟩ := getV_ok H.srch h1
      cases hi0
  | _ => cases hr

/-- it goes on behind what was not taken -/
theorem pass_ok (H : Hyp e prog w h₀ T) (x : Value) (env : Env) (what : String) : Snd e prog w h₀ T A (V.bind (tracedV e x) fun _ => V.bind (flightV e x env.frame) fun _ => V.raise x) (PySem.passOn what x env : Sem Flow) := by
  intro σ r σ' o hr ho Q E g d os h R hq
  rcases bind_ok hr with ⟨u, σ1, o1, o2, h1, h2, rfl⟩ | ⟨y, h1, rfl⟩
  · obtain ⟨a, ob, vs, t, ct, rfl, hg, hd, h1', rfl, _⟩ := traced_at H h1 ho.left R
    unfold PySem.passOn
    refine wpAny_bind (wpAny_field hg hd h1' ?_)
    rw [if_neg (show ¬ (Value.ref t == Value.none) = true from by simp)]
    rcases bind_ok h2 with ⟨u, σ2, o3, o4, h3, h4, rfl⟩ | ⟨y, h3, rfl⟩
    · refine wpAny_bind (flight_ok H _ _ _ _ _ _ h3 ho.right.left _ _ g d os h (R.ct _) fun h' R' => ?_)
      cases h4
      exact wpAny_throw (hq h' R')
    · exact wpAny_bind (flight_ok H _ _ _ _ _ _ h3 ho.right _ _ g d os h (R.ct _) fun h' R' => hq h' R')
  · obtain ⟨a, ob, vs, t, ct, _, _, _, _, _, z⟩ := traced_at H h1 ho R
    cases z
theorem back_ok (H : Hyp e prog w h₀ T) (x : Value) (env : Env) {Ee : Value → Shared → Prop} {σ : Sg} {r : Except Value Flow} {σ' : Sg} {o : Obs}
    (hr : (V.bind (tracedV e x) fun _ => V.bind (flightV e x env.frame) fun _ => V.raise x) σ = some (r, σ', o)) (ho : Oks o) {Q : Flow → Shared → Prop} {g : Array GenState} {d : Drawn} {os : OsState} {h : Heap} (R : Rl e h₀ T h σ)
    (hq : ∀ h', Rl e h₀ T h' σ' → fin Q Ee ⟨h', g, d, e.tok + σ'.tk, os⟩ r) : cameBackBy (model prog w) A env Ee x ⟨h, g, d, e.tok + σ.tk, os⟩ := by
  rcases bind_ok hr with ⟨u, σ1, o1, o2, h1, h2, rfl⟩ | ⟨y, h1, rfl⟩
  · obtain ⟨a, ob, vs, t, ct, rfl, hg, hd, h1', rfl, _⟩ := traced_at H h1 ho.left R
    unfold cameBackBy
    refine wpAny_bind (wpAny_field hg hd h1' ?_)
    rw [if_neg (show ¬ (Value.ref t == Value.none) = true from by simp)]
    rcases bind_ok h2 with ⟨u, σ2, o3, o4, h3, h4, rfl⟩ | ⟨y, h3, rfl⟩
    · refine flight_ok H _ _ _ _ _ _ h3 ho.right.left _ _ g d os h (R.ct _) fun h' R' => ?_
      cases h4
      exact hq h' R'
    · exact flight_ok H _ _ _ _ _ _ h3 ho.right _ _ g d os h (R.ct _) fun h' R' => hq h' R'
  · obtain ⟨a, ob, vs, t, ct, _, _, _, _, _, z⟩ := traced_at H h1 ho R
    cases z
end
end Mine

end
section
open PySem PySem.W PySem.Calls PySem.Spec PyProof.Rows
set_option maxRecDepth 100000
namespace Mine
section
variable {e : Ev} {prog : Program} {w : World} {h₀ : Heap} {T : List Addr} {A : Around} {sc : Sc} {f : Fns}

theorem handle_ok (H : Hyp e prog w h₀ T) (F : FnsOk e prog w h₀ T f) (n : Nat) (S : ScOk e sc A) (x : Value) (env : Env) : ∀ hs, Snd e prog w h₀ T A (handleV e n f sc x env hs) (PySem.handleBy x env hs)
  | [] => by
    intro σ r σ' o hr ho Q E g d os h R hq
    unfold handleV at hr
    exact wpAny_handleBy_nil (pass_ok H x env _ _ _ _ _ hr ho Q E g d os h R hq)
  | .ExceptHandler none name body pos :: rest => by
    intro σ r σ' o hr
    cases hr
  | .ExceptHandler (some t) name [] pos :: rest => by
    intro σ r σ' o hr
    cases hr
  | .ExceptHandler (some t) name (b₀ :: body) pos :: rest => by
    intro σ r σ' o hr ho Q E g d os h R hq
    unfold handleV at hr
    cases x with
    | ref a =>
      simp only at hr
      have S' := S.mark (some (.ref a))
      have ee : e.src.eval = PySem.eval := by rw [H.src]; rfl
      have eh : e.src.hits = PySem.excMatches := by rw [H.src]; rfl
      have et : e.src.store = PySem.storeName := by rw [H.src]; rfl
      have eg : e.src.goes = fun env n pos => (do bindName env n .none; unbindBehindTheSuite env n pos) := by rw [H.src]; rfl
      rw [ee, eh, et, eg] at hr
      obtain ⟨r1, σ1, o1, o2, h1, h2, rfl⟩ := ends_ok hr
      cases r1 with
      | error y => cases h2
      | ok c =>
        obtain ⟨r2, σ2, o3, o4, h3, h4, rfl⟩ := ends_ok h2
        cases r2 with
        | error y => cases h4
        | ok hit =>
          refine wpAny_handleBy_cons (codeAny_handlers_test (tree_ok H F n S' _ _ _ _ _ h1 ho.left _ _ g d os h R fun h' R' => ?_)) (by intro q; cases q)
          have ho := ho.right
          refine tree_ok H F n S' _ _ _ _ _ h3 ho.left _ _ g d os h' R' fun h'' R'' => ?_
          have ho := ho.right
          cases hit with
          | false =>
            exact F.handle _ _ S _ _ _ _ _ _ _ h4 ho Q E g d os h'' R'' hq
          | true =>
            obtain ⟨u, σ3, o5, o6, h5, h6, rfl⟩ := sure_ok h4
            · cases name with
              | none =>
                simp only at h6
                refine codeAny_handlers_suite (flight_ok H _ _ _ _ _ _ h5 ho.left _ _ g d os h'' R'' fun h3 R3 => ?_)
                have ho := ho.right
                obtain ⟨r3, σ4, o7, o8, h7, h8, rfl⟩ := ends_ok h6
                refine F.execs _ _ S' _ _ _ _ _ _ h7 ho.left _ _ g d os h3 R3 fun hh4 R4 => ?_
                have ho := ho.right
                cases r3 with
                | ok fl => cases h8; exact hq hh4 R4
                | error y =>
                  obtain ⟨u, σ5, o9, o10, h9, h10, rfl⟩ := sure_ok h8
                  refine note_ok H S'.frs y env _ _ _ _ h9 ho.left _ _ g d os hh4 R4 fun hh5 R5 => ?_
                  exact back_ok H y env h10 ho.right R5 hq
              | some nm =>
                simp only at h6
                refine codeAny_handlers_suite_as (flight_ok H _ _ _ _ _ _ h5 ho.left _ _ g d os h'' R'' fun h3 R3 => ?_)
                have ho := ho.right
                obtain ⟨r3, σ4, o7, o8, h7, h8, rfl⟩ := ends_ok h6
                cases r3 with
                | error y => cases h8
                | ok _ =>
                  refine tree_ok H F n S' _ _ _ _ _ h7 ho.left _ _ g d os h3 R3 fun hh4 R4 => ?_
                  have ho := ho.right
                  obtain ⟨r4, σ5, o9, o10, h9, h10, rfl⟩ := ends_ok h8
                  cases r4 with
                  | error y => cases h10
                  | ok fl =>
                    refine F.execs _ _ S' _ _ _ _ _ _ h9 ho.left _ _ g d os hh4 R4 fun hh5 R5 => ?_
                    have ho := ho.right
                    obtain ⟨r5, σ6, o11, o12, h11, h12, rfl⟩ := ends_ok h10
                    cases r5 with
                    | error y => cases h12
                    | ok _ =>
                      refine tree_ok H F n S _ _ _ _ _ h11 ho.left _ _ g d os hh5 R5 fun hh6 R6 => ?_
                      cases h12
                      exact hq hh6 R6
    | _ => cases hr

theorem is_ok (H : Hyp e prog w h₀ T) {x y : Addr} {σ : Sg} {r : Except Value Bool} {σ' : Sg} {o : Obs} (hr : isV e x y σ = some (r, σ', o)) (ho : Oks o) {h : Heap} (R : Rl e h₀ T h σ) :
    ∃ b, r = .ok b ∧ Rl e h₀ T h σ' ∧ σ'.tk = σ.tk ∧ (b = true → x = y) ∧ (b = false → x ≠ y ∧ ∃ ox oy, h.get? x = some ox ∧ h.get? y = some oy ∧ ox.cls ≠ .type "tuple") := by
  unfold isV at hr
  rcases bind_ok hr with ⟨io, σ1, o1, o2, h1, h2, rfl⟩ | ⟨z, h1, rfl⟩
  · obtain ⟨i, ob, b', ct, hi0, rfl, hi, rfl⟩ := getV_ok H.srch h1
    cases hi0
    have hab : x = b' := ho.left.head
    subst hab
    rcases bind_ok h2 with ⟨jo, σ2, o3, o4, h3, h4, rfl⟩ | ⟨z, h3, rfl⟩
    · obtain ⟨j, ob', b'', ct', hj0, rfl, hj, rfl⟩ := getV_ok H.srch h3
      cases hj0
      have hbb : y = b'' := ho.right.left.head
      subst hbb
      have R2 : Rl e h₀ T h { { σ with cert := ct } with cert := ct' } := (R.ct _).ct _
      cases hij : Nat.beq i j with
      | true =>
        simp only [hij] at h4
        cases h4
        exact ⟨true, rfl, R2, rfl, fun _ => (same_ix R hi hj).mpr (Nat.eq_of_beq_eq_true hij), fun q => by cases q⟩
      | false =>
        simp only [hij] at h4
        cases ht : isTup ob with
        | true => simp only [ht] at h4; cases h4
        | false =>
          simp only [ht] at h4
          cases h4
          have hne : x ≠ y := by
            intro q
            rw [(same_ix R hi hj).mp q, Nat.beq_refl] at hij
            cases hij
          have hnt : ob.cls ≠ .type "tuple" := by
            intro q
            unfold isTup at ht
            rw [q] at ht
            cases ht
          exact ⟨false, rfl, R2, rfl, fun q => (by cases q), fun _ => ⟨hne, ob, ob', R.at_ hi, R.at_ hj, hnt⟩⟩
    · obtain ⟨j, ob', b'', ct', hj0, _⟩ := getV_ok H.srch h3
      cases hj0
  · obtain ⟨i, ob, b', ct, hi0, _⟩ := getV_ok H.srch h1
    cases hi0

theorem cmpEq_ok (H : Hyp e prog w h₀ T) (S : ScOk e sc A) {x y : Addr} {σ : Sg} {r : Except Value Unit} {σ' : Sg} {o : Obs} (hr : cmpEq e sc x y σ = some (r, σ', o)) (ho : Oks o) {h : Heap} (R : Rl e h₀ T h σ) :
    r = .ok () ∧ Rl e h₀ T h σ' ∧ σ'.tk = σ.tk ∧ ∀ (g : Array GenState) (d : Drawn) (tk : Nat) (os : OsState) (ne : Bool) (E : Value → Shared → Prop) (Q : Value → Shared → Prop), Q (.bool !ne) ⟨h, g, d, tk, os⟩ →
      wpAny (model prog w) A (richCompare (cond ne .NotEq .Eq) (.ref x) (.ref y)) Q E ⟨h, g, d, tk, os⟩ := by
  unfold cmpEq at hr
  cases hu : Nat.blt sc.uni 8000 with
  | false => simp only [hu] at hr; cases hr
  | true =>
    simp only [hu] at hr
    rcases bind_ok hr with ⟨io, σ1, o1, o2, h1, h2, rfl⟩ | ⟨z, h1, rfl⟩
    · obtain ⟨i, ob, b', ct, hi0, rfl, hi, rfl⟩ := getV_ok H.srch h1
      cases hi0
      have hab : x = b' := ho.left.head
      subst hab
      rcases bind_ok h2 with ⟨jo, σ2, o3, o4, h3, h4, rfl⟩ | ⟨z, h3, rfl⟩
      · obtain ⟨j, ob', b'', ct', hj0, rfl, hj, rfl⟩ := getV_ok H.srch h3
        cases hj0
        have hbb : y = b'' := ho.right.left.head
        subst hbb
        have R2 : Rl e h₀ T h { { σ with cert := ct } with cert := ct' } := (R.ct _).ct _
        obtain ⟨q0, ⟨ct3, rfl⟩, q2⟩ := cont_ok H 20 (eq_ok H 20) h4 ho.right.right R2 hi hj
        refine ⟨q0, R2.ct _, rfl, fun g d tk os ne E Q hq => q2 A g d tk os ?_ ne E Q hq⟩
        have := blt_is hu
        have := S.uni
        unfold cLine
        omega
      · obtain ⟨j, ob', b'', ct', hj0, _⟩ := getV_ok H.srch h3
        cases hj0
    · obtain ⟨i, ob, b', ct, hi0, _⟩ := getV_ok H.srch h1
      cases hi0

theorem cmp_ok (H : Hyp e prog w h₀ T) (F : FnsOk e prog w h₀ T f) (n : Nat) (S : ScOk e sc A) (op : CmpOp) (a b : Value) : Snd e prog w h₀ T A (cmpV e n f sc op a b) (compareOp op a b) := by
  have ec : e.src.cmp = compareOp := by rw [H.src]; rfl
  by_cases hs : (∃ x y, a = .ref x ∧ b = .ref y) ∧ (op = .Is ∨ op = .IsNot ∨ op = .Eq ∨ op = .NotEq)
  · obtain ⟨⟨x, y, rfl, rfl⟩, hop⟩ := hs
    intro σ r σ' o hr ho Q E g d os h R hq
    rcases hop with rfl | rfl | rfl | rfl
    · simp only [cmpV] at hr
      rcases bind_ok hr with ⟨v, σ1, o1, o2, h1, h2, rfl⟩ | ⟨z, h1, rfl⟩
      · obtain ⟨v', hv, R', htk, q1, q2⟩ := is_ok H h1 ho.left R
        cases hv
        cases h2
        have hq' := hq h R'
        rw [htk] at hq'
        cases v with
        | true => have := q1 rfl; subst this; exact wpAny_is_ref_self hq'
        | false => obtain ⟨hne, ox, oy, g1, g2, g3⟩ := q2 rfl; exact wpAny_is_ref_other hne g1 g2 g3 hq'
      · obtain ⟨v', hv, _⟩ := is_ok H h1 ho R
        cases hv
    · simp only [cmpV] at hr
      rcases bind_ok hr with ⟨v, σ1, o1, o2, h1, h2, rfl⟩ | ⟨z, h1, rfl⟩
      · obtain ⟨v', hv, R', htk, q1, q2⟩ := is_ok H h1 ho.left R
        cases hv
        cases h2
        have hq' := hq h R'
        rw [htk] at hq'
        cases v with
        | true => have := q1 rfl; subst this; exact wpAny_isNot_ref_self hq'
        | false => obtain ⟨hne, ox, oy, g1, g2, g3⟩ := q2 rfl; exact wpAny_isNot_ref_other hne g1 g2 g3 hq'
      · obtain ⟨v', hv, _⟩ := is_ok H h1 ho R
        cases hv
    · simp only [cmpV] at hr
      rcases bind_ok hr with ⟨v, σ1, o1, o2, h1, h2, rfl⟩ | ⟨z, h1, rfl⟩
      · obtain ⟨_, R', htk, q⟩ := cmpEq_ok H S h1 ho.left R
        cases h2
        have hq' := hq h R'
        rw [htk] at hq'
        exact q g d _ os false E Q hq'
      · obtain ⟨hv, _⟩ := cmpEq_ok H S h1 ho R
        cases hv
    · simp only [cmpV] at hr
      rcases bind_ok hr with ⟨v, σ1, o1, o2, h1, h2, rfl⟩ | ⟨z, h1, rfl⟩
      · obtain ⟨_, R', htk, q⟩ := cmpEq_ok H S h1 ho.left R
        cases h2
        have hq' := hq h R'
        rw [htk] at hq'
        exact q g d _ os true E Q hq'
      · obtain ⟨hv, _⟩ := cmpEq_ok H S h1 ho R
        cases hv
  · by_cases hi : op = .NotEq ∧ ∃ x t y u, a = .int x t ∧ b = .int y u
    · obtain ⟨rfl, x, t, y, u, rfl, rfl⟩ := hi
      intro σ r σ' o hr ho Q E g d os h R hq
      simp only [cmpV, V.must, V.pure, after] at hr
      cases hr
      have hxy : x = y := ho.head
      subst hxy
      refine ne_int ?_
      have : (x != x) = false := by simp
      rw [this]
      exact hq h R
    · have he : cmpV e n f sc op a b = treeV e n f sc (e.src.cmp op a b) := by
        unfold cmpV
        split
        · exact absurd ⟨⟨_, _, rfl, rfl⟩, .inl rfl⟩ hs
        · exact absurd ⟨⟨_, _, rfl, rfl⟩, .inr (.inl rfl)⟩ hs
        · exact absurd ⟨⟨_, _, rfl, rfl⟩, .inr (.inr (.inl rfl))⟩ hs
        · exact absurd ⟨⟨_, _, rfl, rfl⟩, .inr (.inr (.inr rfl))⟩ hs
        · exact absurd ⟨rfl, _, _, _, _, rfl, rfl⟩ hi
        · rfl
      rw [he, ec]
      exact tree_ok H F n S _

theorem bool_ok (H : Hyp e prog w h₀ T) (F : FnsOk e prog w h₀ T f) (n : Nat) (S : ScOk e sc A) (op : BoolOp) (env : Env) (pos : Pos) : ∀ xs, Snd e prog w h₀ T A (boolV e n f sc op env xs) (boolOp pos op (evalEach xs env))
  | [] => by intro σ r σ' o hr; cases hr
  | [x] => F.eval _ _ S x env
  | x :: y :: rest => by
    intro σ r σ' o hr ho Q E g d os h R hq
    have et : e.src.truthy = PySem.truthy := by rw [H.src]; rfl
    unfold boolV at hr
    rw [et] at hr
    show wpAny _ _ (do
      let v ← PySem.eval x env
      standAt pos
      let t ← holding [v] (truthy v)
      match op, t with
      | .And, false | .Or, true => pure v
      | _, _ => boolOp pos op (evalEach (y :: rest) env)) _ _ _
    rcases bind_ok hr with ⟨v, σ1, o1, o2, h1, h2, rfl⟩ | ⟨z, h1, rfl⟩
    · refine wpAny_bind (F.eval _ _ S _ _ _ _ _ _ h1 ho.left _ _ g d os h R fun h' R' => ?_)
      refine wpAny_bind (wpAny_standAt (wpAny_bind (wpAny_holding ?_)))
      rcases bind_ok h2 with ⟨t, σ2, o3, o4, h3, h4, rfl⟩ | ⟨z, h3, rfl⟩
      · refine tree_ok H F n S _ _ _ _ _ h3 ho.right.left _ _ g d os h' R' fun h'' R'' => ?_
        have k := bool_ok H F n S op env pos (y :: rest)
        cases op <;> cases t
        · cases h4; exact wpAny_pure (hq h'' R'')
        · exact k _ _ _ _ h4 ho.right.right Q E g d os h'' R'' hq
        · exact k _ _ _ _ h4 ho.right.right Q E g d os h'' R'' hq
        · cases h4; exact wpAny_pure (hq h'' R'')
      · exact tree_ok H F n S _ _ _ _ _ h3 ho.right _ _ g d os h' R' fun h'' R'' => hq h'' R''
    · exact wpAny_bind (F.eval _ _ S _ _ _ _ _ _ h1 ho _ _ g d os h R fun h' R' => hq h' R')

theorem add_ok (H : Hyp e prog w h₀ T) (F : FnsOk e prog w h₀ T f) (n : Nat) (S : ScOk e sc A) (a b : Value) : Snd e prog w h₀ T A (addV e n f sc a b) (binaryOp .Add a b) := by
  have ea : e.src.add = binaryOp .Add := by rw [H.src]; rfl
  by_cases hs : ∃ x t y u, a = .str x t ∧ b = .str y u
  · obtain ⟨x, t, y, u, rfl, rfl⟩ := hs
    intro σ r σ' o hr ho Q E g d os h R hq
    unfold addV at hr
    cases k1 : Nat.ble 1 x.length with
    | false => simp only [k1] at hr; cases hr
    | true =>
    cases k2 : Nat.ble 1 y.length with
    | false => simp only [k1, k2] at hr; cases hr
    | true =>
    cases k3 : Nat.ble (x ++ y).length 100000 with
    | false => simp only [k1, k2, k3] at hr; cases hr
    | true =>
    simp only [k1, k2, k3] at hr
    cases hr
    have h1 : 1 ≤ x.length := Nat.le_of_ble_eq_true k1
    have h2 : 1 ≤ y.length := Nat.le_of_ble_eq_true k2
    have h3 : (x ++ y).length ≤ 100000 := Nat.le_of_ble_eq_true k3
    refine P.add_str ?_
    rw [if_neg (by simp; omega), if_neg (by simp; omega)]
    have z := hq h (R.cert rfl rfl rfl)
    exact ⟨Nat.le_trans h3 (by decide), z⟩
  · have he : addV e n f sc a b = treeV e n f sc (e.src.add a b) := by
      unfold addV
      split
      · exact absurd ⟨_, _, _, _, rfl, rfl⟩ hs
      · rfl
    rw [he, ea]
    exact tree_ok H F n S _

theorem eval_ok (H : Hyp e prog w h₀ T) (F : FnsOk e prog w h₀ T f) (n : Nat) (S : ScOk e sc A) (x : Expr) (env : Env) : Snd e prog w h₀ T A (evalV e n f sc x env) (PySem.eval x env) := by
  have ee : e.src.eval = PySem.eval := by rw [H.src]; rfl
  by_cases hs : ∃ l op r p, x = .Compare l [op] [r] p
  · obtain ⟨l, op, r, p, rfl⟩ := hs
    intro σ rr σ' o hr ho Q E g d os h R hq
    unfold evalV at hr
    cases hm : behindInMarks op r with
    | true => simp only [hm] at hr; cases hr
    | false =>
      simp only [hm] at hr
      refine wpAny_Compare1 ?_ hm
      rcases bind_ok hr with ⟨a, σ1, o1, o2, h1, h2, rfl⟩ | ⟨z, h1, rfl⟩
      · refine F.eval _ _ S _ _ _ _ _ _ h1 ho.left _ _ g d os h R fun h' R' => ?_
        rcases bind_ok h2 with ⟨b, σ2, o3, o4, h3, h4, rfl⟩ | ⟨z, h3, rfl⟩
        · refine F.eval _ _ S _ _ _ _ _ _ h3 ho.right.left _ _ g d os h' R' fun h'' R'' => ?_
          exact cmp_ok H F n S op a b _ _ _ _ h4 ho.right.right Q E g d os h'' R'' hq
        · exact F.eval _ _ S _ _ _ _ _ _ h3 ho.right _ _ g d os h' R' fun h'' R'' => hq h'' R''
      · exact F.eval _ _ S _ _ _ _ _ _ h1 ho _ _ g d os h R fun h' R' => hq h' R'
  · by_cases hb : ∃ op ys p, x = .BoolOp op ys p
    · obtain ⟨op, ys, p, rfl⟩ := hb
      exact bool_ok H F n S op env p ys
    · by_cases ha : ∃ l r p, x = .BinOp l .Add r p
      · obtain ⟨l, r, p, rfl⟩ := ha
        intro σ rr σ' o hr ho Q E g d os h R hq
        unfold evalV at hr
        refine wpAny_BinOp ?_
        rcases bind_ok hr with ⟨a, σ1, o1, o2, h1, h2, rfl⟩ | ⟨z, h1, rfl⟩
        · refine F.eval _ _ S _ _ _ _ _ _ h1 ho.left _ _ g d os h R fun h' R' => ?_
          rcases bind_ok h2 with ⟨b, σ2, o3, o4, h3, h4, rfl⟩ | ⟨z, h3, rfl⟩
          · refine F.eval _ _ S _ _ _ _ _ _ h3 ho.right.left _ _ g d os h' R' fun h'' R'' => ?_
            exact add_ok H F n S a b _ _ _ _ h4 ho.right.right Q E g d os h'' R'' hq
          · exact F.eval _ _ S _ _ _ _ _ _ h3 ho.right _ _ g d os h' R' fun h'' R'' => hq h'' R''
        · exact F.eval _ _ S _ _ _ _ _ _ h1 ho _ _ g d os h R fun h' R' => hq h' R'
      · have he : evalV e n f sc x env = treeV e n f sc (e.src.eval x env) := by
          unfold evalV
          split
          · exact absurd ⟨_, _, _, rfl⟩ ha
          · exact absurd ⟨_, _, _, rfl⟩ hb
          · exact absurd ⟨_, _, _, _, rfl⟩ hs
          · rfl
        rw [he, ee]
        exact tree_ok H F n S _

theorem all2_ok (F : FnsOk e prog w h₀ T f) (S : ScOk e sc A) (op : BoolOp) (env : Env) : ∀ xs, Snd e prog w h₀ T A (allV f sc op env xs) (PySem.allTrue op xs env)
  | [] => by
    intro σ r σ' o hr ho Q E g d os h R hq
    cases hr
    show wpAny _ _ (pure (op == .And)) _ _ _
    exact wpAny_pure (hq h R)
  | x :: rest => by
    intro σ r σ' o hr ho Q E g d os h R hq
    unfold allV at hr
    show wpAny _ _ (do match op, ← isTrue x env (PySem.eval x env) with | .And, false => pure false | .Or, true => pure true | _, _ => allTrue op rest env) _ _ _
    rcases bind_ok hr with ⟨b, σ1, o1, o2, h1, h2, rfl⟩ | ⟨z, h1, rfl⟩
    · refine wpAny_bind (F.test _ _ S _ _ _ _ _ _ h1 ho.left _ _ g d os h R fun h' R' => ?_)
      have k := all2_ok F S op env rest
      cases op <;> cases b
      · cases h2; exact wpAny_pure (hq h' R')
      · exact k _ _ _ _ h2 ho.right Q E g d os h' R' hq
      · exact k _ _ _ _ h2 ho.right Q E g d os h' R' hq
      · cases h2; exact wpAny_pure (hq h' R')
    · exact wpAny_bind (F.test _ _ S _ _ _ _ _ _ h1 ho _ _ g d os h R fun h' R' => hq h' R')

theorem plainTest_ok (H : Hyp e prog w h₀ T) (F : FnsOk e prog w h₀ T f) (n : Nat) (S : ScOk e sc A) (x : Expr) (env : Env)
    (hx : isTrue x env (PySem.eval x env) = (do let v ← PySem.eval x env; standAt x.pos; holding [v] (truthy v))) :
    Snd e prog w h₀ T A (V.bind (f.eval sc x env) fun v => treeV e n f sc (e.src.truthy v)) (isTrue x env (PySem.eval x env)) := by
  have et : e.src.truthy = PySem.truthy := by rw [H.src]; rfl
  intro σ r σ' o hr ho Q E g d os h R hq
  rw [et] at hr
  refine isTrue_plain ?_ hx
  rcases bind_ok hr with ⟨v, σ1, o1, o2, h1, h2, rfl⟩ | ⟨z, h1, rfl⟩
  · refine F.eval _ _ S _ _ _ _ _ _ h1 ho.left _ _ g d os h R fun h' R' => ?_
    exact tree_ok H F n S _ _ _ _ _ h2 ho.right Q E g d os h' R' hq
  · exact F.eval _ _ S _ _ _ _ _ _ h1 ho _ _ g d os h R fun h' R' => hq h' R'

theorem test_ok (H : Hyp e prog w h₀ T) (F : FnsOk e prog w h₀ T f) (n : Nat) (S : ScOk e sc A) (x : Expr) (env : Env) : Snd e prog w h₀ T A (testV e n f sc x env) (isTrue x env (PySem.eval x env)) := by
  have et : e.src.truthy = PySem.truthy := by rw [H.src]; rfl
  cases x with
  | UnaryOp op y p =>
    cases op with
    | Not =>
      intro σ r σ' o hr ho Q E g d os h R hq
      unfold testV at hr
      show wpAny _ _ (do return !(← isTrue y env (PySem.eval y env))) _ _ _
      rcases bind_ok hr with ⟨b, σ1, o1, o2, h1, h2, rfl⟩ | ⟨z, h1, rfl⟩
      · refine wpAny_bind (F.test _ _ S _ _ _ _ _ _ h1 ho.left _ _ g d os h R fun h' R' => ?_)
        cases h2
        exact wpAny_pure (hq h' R')
      · exact wpAny_bind (F.test _ _ S _ _ _ _ _ _ h1 ho _ _ g d os h R fun h' R' => hq h' R')
    | _ => exact plainTest_ok H F n S _ env rfl
  | BoolOp op ys p => exact all2_ok F S op env ys
  | IfExp a b c d => intro σ r σ' o hr; cases hr
  | Compare l ops rs p =>
    match ops, rs with
    | [op], [r] =>
      intro σ rr σ' o hr ho Q E g d os h R hq
      unfold testV at hr
      cases hm : behindInMarks op r with
      | true => simp only [hm] at hr; cases hr
      | false =>
        simp only [hm] at hr
        rw [et] at hr
        refine wpAny_isTrue_Compare1 ?_ hm
        rcases bind_ok hr with ⟨a, σ1, o1, o2, h1, h2, rfl⟩ | ⟨z, h1, rfl⟩
        · refine F.eval _ _ S _ _ _ _ _ _ h1 ho.left _ _ g d os h R fun h' R' => ?_
          rcases bind_ok h2 with ⟨b, σ2, o3, o4, h3, h4, rfl⟩ | ⟨z, h3, rfl⟩
          · refine F.eval _ _ S _ _ _ _ _ _ h3 ho.right.left _ _ g d os h' R' fun h'' R'' => ?_
            rcases bind_ok h4 with ⟨c, σ3, o5, o6, h5, h6, rfl⟩ | ⟨z, h5, rfl⟩
            · refine cmp_ok H F n S op a b _ _ _ _ h5 ho.right.right.left _ _ g d os h'' R'' fun h3 R3 => ?_
              exact tree_ok H F n S _ _ _ _ _ h6 ho.right.right.right Q E g d os h3 R3 hq
            · exact cmp_ok H F n S op a b _ _ _ _ h5 ho.right.right _ _ g d os h'' R'' fun h3 R3 => hq h3 R3
          · exact F.eval _ _ S _ _ _ _ _ _ h3 ho.right _ _ g d os h' R' fun h'' R'' => hq h'' R''
        · exact F.eval _ _ S _ _ _ _ _ _ h1 ho _ _ g d os h R fun h' R' => hq h' R'
    | [], _ => intro σ r σ' o hr; cases hr
    | _ :: _ :: _, _ => intro σ r σ' o hr; cases hr
    | [_], [] => intro σ r σ' o hr; cases hr
    | [_], _ :: _ :: _ => intro σ r σ' o hr; cases hr
  | _ => exact plainTest_ok H F n S _ env rfl

theorem execs_one (s : Stmt) (env : Env) : PySem.execs [s] env = PySem.exec s env := by
  rw [execs_cons]
  refine Eq.trans (congrArg (fun k => PySem.exec s env >>= k) (funext fun fl => ?_)) (bind_pure _)
  cases fl <;> rfl

theorem raiseFn_ok (H : Hyp e prog w h₀ T) {hd : Addr} (hh : A.handled = some (.ref hd)) {ov iv v : Value} {Q : Unit → Shared → Prop} {E : Value → Shared → Prop} {σ : Sg} {r : Except Value Flow} {σ' : Sg} {o : Obs} (hr : raiseFn e hd ov σ = some (r, σ', o)) (ho : Oks o)
    {g : Array GenState} {d : Drawn} {os : OsState} {h : Heap} (R : Rl e h₀ T h σ) {Q' : Flow → Shared → Prop} (hq : ∀ h', Rl e h₀ T h' σ' → fin Q' E ⟨h', g, d, e.tok + σ'.tk, os⟩ r) : wpAny (model prog w) A (setItem ov iv v) Q E ⟨h, g, d, e.tok + σ.tk, os⟩ := by
  unfold raiseFn at hr
  cases ov with
  | ref a =>
    simp only at hr
    rcases bind_ok hr with ⟨io, σ1, o1, o2, h1, h2, rfl⟩ | ⟨z, h1, rfl⟩
    · obtain ⟨i, ob, b, ct, hi0, rfl, hi, rfl⟩ := getV_ok H.srch h1
      cases hi0
      have hab : a = b := ho.left.head
      subst hab
      have ga := R.at_ hi
      cases hf : isFn ob with
      | false => simp only [hf] at h2; cases h2
      | true =>
        simp only [hf] at h2
        rcases bind_ok h2 with ⟨jo, σ2, o3, o4, h3, h4, rfl⟩ | ⟨z, h3, rfl⟩
        · obtain ⟨j, oh, b', ct', hj0, rfl, hj, rfl⟩ := getV_ok H.srch h3
          cases hj0
          have hbb : hd = b' := ho.right.left.head
          subst hbb
          have gh := R.at_ hj
          cases hdv : oh.data with
          | fields vs =>
            simp only [hdv] at h4
            cases hy : (vs[2]? : Option Value) with
            | none => simp only [hy] at h4; cases h4
            | some y =>
              cases y with
              | none =>
                simp only [hy] at h4
                cases h4
                have cf : ob.cls = .type "function" := by
                  unfold isFn at hf
                  split at hf
                  · assumption
                  · cases hf
                refine setItem_fn ga cf hh gh hdv hy ?_
                have hs : h.objs.size = e.base + σ.m := R.sz
                have R1 := R.push (o := { cls := .type "tuple", data := .seq #[.str noAssign (e.tok + σ.tk)] }) rfl
                have R2 := R1.push (o := { cls := .type "TypeError", data := .fields #[.ref (e.base + σ.m), .none, .none, .none, .bool false, .none] }) rfl
                have g2 := R2.led _ (.head _)
                have R3 := R2.set (i := 0) rfl (Heap.SameBut.update (a := e.base + (σ.m + 1)) ..) (Heap.get?_update_self (Obj.mapFields (·.setIfInBounds 2 (.ref hd))) g2 rfl)
                have z := hq _ (R3.cert (σ' := { σ with news := (e.base + σ.m + 1, excCtx (e.base + σ.m) hd) :: (e.base + σ.m, { cls := .type "tuple", data := .seq #[.str noAssign (e.tok + σ.tk)] }) :: σ.news, m := σ.m + 2, tk := σ.tk + 1, cert := ct' }) rfl rfl rfl)
                show E (.ref (h.objs.size + 1)) _
                rw [hs]
                exact z
              | _ => simp only [hy] at h4; cases h4
          | _ => simp only [hdv] at h4; cases h4
        · obtain ⟨j, oh, b', ct', hj0, _⟩ := getV_ok H.srch h3
          cases hj0
    · obtain ⟨i, ob, b, ct, hi0, _⟩ := getV_ok H.srch h1
      cases hi0
  | _ => cases hr

theorem exec_ok (H : Hyp e prog w h₀ T) (F : FnsOk e prog w h₀ T f) (n : Nat) (S : ScOk e sc A) (s : Stmt) (env : Env) : Snd e prog w h₀ T A (execV e n f sc s env) (PySem.exec s env) := by
  have es : e.src.execs = PySem.execs := by rw [H.src]; rfl
  have dflt : Snd e prog w h₀ T A (treeV e n f sc (e.src.execs [s] env)) (PySem.exec s env) := by
    rw [es, execs_one]
    exact tree_ok H F n S _
  unfold execV
  split
  · exact try_ok H F S _ _ _ _ _ _
  · rename_i test body orelse p
    intro σ r σ' o hr ho Q E g d os h R hq
    refine wpAny_If ?_
    rcases bind_ok hr with ⟨b, σ1, o1, o2, h1, h2, rfl⟩ | ⟨z, h1, rfl⟩
    · refine F.test _ _ S _ _ _ _ _ _ h1 ho.left _ _ g d os h R fun h' R' => ?_
      cases b with
      | true => exact F.execs _ _ S _ _ _ _ _ _ h2 ho.right Q E g d os h' R' hq
      | false => exact F.execs _ _ S _ _ _ _ _ _ h2 ho.right Q E g d os h' R' hq
    · exact F.test _ _ S _ _ _ _ _ _ h1 ho _ _ g d os h R fun h' R' => hq h' R'
  · rename_i x p
    intro σ r σ' o hr ho Q E g d os h R hq
    refine wpAny_Return_some ?_
    rcases bind_ok hr with ⟨v, σ1, o1, o2, h1, h2, rfl⟩ | ⟨z, h1, rfl⟩
    · refine F.eval _ _ S _ _ _ _ _ _ h1 ho.left _ _ g d os h R fun h' R' => ?_
      cases h2
      exact hq h' R'
    · exact F.eval _ _ S _ _ _ _ _ _ h1 ho _ _ g d os h R fun h' R' => hq h' R'
  · rename_i x i p₁ c k p₂ p₃
    cases hh : sc.hdl with
    | none => exact dflt
    | some y =>
      cases y with
      | ref hd =>
        intro σ r σ' o hr ho Q E g d os h R hq
        simp only at hr
        refine wpAny_Assign_Subscript ?_ rfl
        rcases bind_ok hr with ⟨v, σ1, o1, o2, h1, h2, rfl⟩ | ⟨z, h1, rfl⟩
        · refine F.eval _ _ S _ _ _ _ _ _ h1 ho.left _ _ g d os h R fun h' R' => ?_
          rcases bind_ok h2 with ⟨ov, σ2, o3, o4, h3, h4, rfl⟩ | ⟨z, h3, rfl⟩
          · refine F.eval _ _ S _ _ _ _ _ _ h3 ho.right.left _ _ g d os h' R' fun h'' R'' => ?_
            rcases bind_ok h4 with ⟨iv, σ3, o5, o6, h5, h6, rfl⟩ | ⟨z, h5, rfl⟩
            · refine F.eval _ _ S _ _ _ _ _ _ h5 ho.right.right.left _ _ g d os h'' R'' fun h3 R3 => ?_
              exact raiseFn_ok H (by rw [S.hdl, hh]) h6 ho.right.right.right R3 hq
            · exact F.eval _ _ S _ _ _ _ _ _ h5 ho.right.right _ _ g d os h'' R'' fun h3 R3 => hq h3 R3
          · exact F.eval _ _ S _ _ _ _ _ _ h3 ho.right _ _ g d os h' R' fun h'' R'' => hq h'' R''
        · exact F.eval _ _ S _ _ _ _ _ _ h1 ho _ _ g d os h R fun h' R' => hq h' R'
      | _ => exact dflt
  · rename_i x p₁ c k p₂ r₂ p₃ p₄
    intro σ r σ' o hr ho Q E g d os h R hq
    have et : e.src.store = PySem.storeName := by rw [H.src]; rfl
    rw [et] at hr
    refine wpAny_Assign_Name ?_ rfl
    rcases bind_ok hr with ⟨v, σ1, o1, o2, h1, h2, rfl⟩ | ⟨z, h1, rfl⟩
    · refine F.eval _ _ S _ _ _ _ _ _ h1 ho.left _ _ g d os h R fun h' R' => ?_
      rcases bind_ok h2 with ⟨u, σ2, o3, o4, h3, h4, rfl⟩ | ⟨z, h3, rfl⟩
      · refine tree_ok H F n S _ _ _ _ _ h3 ho.right.left _ _ g d os h' R' fun h'' R'' => ?_
        cases h4
        exact hq h'' R''
      · exact tree_ok H F n S _ _ _ _ _ h3 ho.right _ _ g d os h' R' fun h'' R'' => hq h'' R''
    · exact F.eval _ _ S _ _ _ _ _ _ h1 ho _ _ g d os h R fun h' R' => hq h' R'
  · exact dflt

theorem codeV_ok (H : Hyp e prog w h₀ T) (F : FnsOk e prog w h₀ T f) (n : Nat) (S : ScOk e sc A) (c : Code) : CodeOk e prog w h₀ T A (codeV e n f sc c) c := by
  unfold codeV
  split
  · exact call_ok H F n S _ _
  · intro σ r σ' o hr; cases hr

theorem fns_ok (H : Hyp e prog w h₀ T) (n : Nat) : ∀ k, FnsOk e prog w h₀ T (fns e n k)
  | 0 => ⟨fun _ _ _ _ _ _ _ _ hr => (by cases hr), fun _ _ _ _ _ _ _ _ _ hr => (by cases hr), fun _ _ _ _ _ _ _ _ _ hr => (by cases hr), fun _ _ _ _ _ _ _ _ _ hr => (by cases hr), fun _ _ _ _ _ _ _ _ _ hr => (by cases hr), fun _ _ _ _ _ _ _ _ _ _ hr => (by cases hr)⟩
  | k + 1 =>
    have F := fns_ok H n k
    ⟨fun _ _ S c => codeV_ok H F n S c, fun _ _ S ss env => execs_ok F S env ss, fun _ _ S s env => exec_ok H F n S s env, fun _ _ S x env => eval_ok H F n S x env, fun _ _ S x env => test_ok H F n S x env, fun _ _ S x env hs => handle_ok H F n S x env hs⟩
end
end Mine

end
section
open PySem PySem.W PySem.Calls PySem.Spec PyProof.Rows
set_option maxRecDepth 100000
namespace Mine
/-- an exception's record -/
noncomputable def excO (C : String) (t : Addr) (tb ctx : Value) (more : List Value) : Obj := { cls := .type C, data := .fields ⟨.ref t :: tb :: ctx :: .none :: .bool false :: .none :: more⟩ }
noncomputable def tab0 : Obj := { cls := .none, data := .fields #[] }
noncomputable def pickIx {β : Type} (l : List β) : List Nat → List β
  | [] => []
  | i :: r => match l[i]? with
    | some x => x :: pickIx l r
    | none => pickIx l r
noncomputable def newsOf {α : Type} : Option (α × Sg × Obs) → List (Addr × Obj)
  | some (_, σ, _) => σ.news
  | none => []
noncomputable def obsOf {α : Type} : Option (α × Sg × Obs) → Obs
  | some (_, _, o) => o
  | none => []
/-- a run's end, as far as it is wanted -/
noncomputable def ends {α : Type} (keep : List Nat) : Option (α × Sg × Obs) → Option (α × List (Addr × Obj) × Nat × Nat × List (Nat × Nat) × Obs)
  | some (r, σ, o) => some (r, pickIx σ.news keep, σ.m, σ.tk, lesOf o, o.map Ob.dup)
  | none => none
theorem pick_mem {β : Type} {l : List β} : ∀ {ix : List Nat} {x : β}, x ∈ pickIx l ix → x ∈ l
  | [], x, h => by cases h
  | i :: r, x, h => by
    unfold pickIx at h
    split at h
    · rename_i y hy
      rcases List.mem_cons.mp h with rfl | h
      · exact List.mem_of_getElem? hy
      · exact pick_mem h
    · exact pick_mem h
theorem ends_is {α : Type} {keep : List Nat} {R : Option (α × Sg × Obs)} {r : α} {l : List (Addr × Obj)} {m tk : Nat} {les : List (Nat × Nat)} (h : ends keep R = some (r, l, m, tk, les, obsOf R)) (hl : ∀ p ∈ les, p.1 ≤ p.2) :
    ∃ σ o, R = some (r, σ, o) ∧ Oks o ∧ (∀ p ∈ l, p ∈ σ.news) ∧ σ.m = m ∧ σ.tk = tk := by
  cases R with
  | none => cases h
  | some q =>
    obtain ⟨r', σ, o⟩ := q
    simp only [ends, obsOf, Option.some.injEq, Prod.mk.injEq] at h
    obtain ⟨rfl, rfl, rfl, rfl, rfl, ho⟩ := h
    exact ⟨σ, o, rfl, oks_of_dup ho hl, fun p hp => pick_mem hp, rfl, rfl⟩
end Mine
namespace Mine
noncomputable def tupO (vs : List Value) : Obj := { cls := .type "tuple", data := .seq ⟨vs⟩ }
noncomputable def objN {α : Type} (R : Option (α × Sg × Obs)) (i : Nat) : Obj := match (newsOf R)[i]? with
  | some p => p.2
  | none => default
noncomputable def fieldsL (o : Obj) : List Value := match o.data with
  | .fields vs => vs.toList
  | _ => []
noncomputable def seqL (o : Obj) : List Value := match o.data with
  | .seq vs _ => vs.toList
  | _ => []
end Mine

end
section
open PySem PySem.W PySem.Calls PySem.Spec PyProof.Rows
set_option maxRecDepth 100000
set_option maxHeartbeats 400000
namespace Mine
theorem nmap_cons (x : Str) (v : Value) (nm : List (Str × Value)) : nmap ((x, v) :: nm) = fun y => if y = x then some v else nmap nm y := by
  funext y
  unfold nmap rowOf
  rw [List.find?_cons]
  by_cases h : x = y
  · subst h
    simp
  · have h' : ¬ y = x := fun q => h q.symm
    simp [h, h']
theorem star1 {a : Expr} {r : List Expr} {env : Env} (h : isStar a = false) : starEach (a :: r) env = (false, PySem.eval a env) :: starEach r env := by
  cases a <;> first | rfl | cases h
theorem comp_no {r : Expr} {t : Option Expr} {l : Nat} {env : Env} (h : isComp r = false) : swapsWith r t l env = pure false := by
  cases r <;> first | rfl | cases h
section
variable {e : Ev} {prog : Program} {w : World} {h₀ : Heap} {T : List Addr} {A : Around} {sc : Sc} {f : Fns}
theorem loc_is {env : Env} {x : Str} (h : isLoc e env x = true) : ∃ p, e.bot = some p ∧ p.frame = some env.locals ∧ env.scope.kind = .function ∧ env.kindOf x = some .local ∧ (x == ("__debug__" : Str)) = false := by
  unfold isLoc botL at h
  cases hb : e.bot with
  | none => simp only [hb] at h; cases h
  | some p =>
    simp only [hb] at h
    cases hf : p.frame with
    | none => simp only [hf] at h; cases h
    | some L =>
      simp only [hf] at h
      split at h
      · rename_i h1 h2 h3 h4
        have := Nat.eq_of_beq_eq_true h1
        subst this
        exact ⟨p, rfl, hf, h2, h3, h4⟩
      · cases h
theorem bot_ns {h : Heap} {σ : Sg} (R : Rl e h₀ T h σ) {p : Env} (hp : e.bot = some p) {L : Addr} (hL : p.frame = some L) : h.Ns L (nmap σ.nm) := by
  obtain ⟨L', h1, _, h3⟩ := R.bot p hp
  rw [hL] at h1
  cases h1
  exact h3
theorem getN_ok {env : Env} {x : Str} {pos : Pos} (hl : isLoc e env x = true) : Snd e prog w h₀ T A (getN x) (PySem.eval (.Name x pos) env) := by
  intro σ r σ' o hr ho Q E g d os h R hq
  obtain ⟨p, h1, h2, h3, h4, h5⟩ := loc_is hl
  unfold getN at hr
  cases hv : rowOf σ.nm x with
  | none => simp only [hv] at hr; cases hr
  | some v =>
    simp only [hv] at hr
    cases hr
    exact wpAny_Name (wpAny_loadName_local h3 h4 (bot_ns R h1 h2) hv (hq h R)) h5
theorem setN_ok (H : Hyp e prog w h₀ T) {env : Env} {x : Str} {v : Value} (hl : isLoc e env x = true) : Snd e prog w h₀ T A (setN x v) (PySem.storeName env x v) := by
  intro σ r σ' o hr ho Q E g d os h R hq
  obtain ⟨p, h1, h2, h3, h4, h5⟩ := loc_is hl
  unfold setN at hr
  cases hr
  refine wpAny_storeName_local h4 (bot_ns R h1 h2) (fun h' ns sb => hq h' ?_) (by rw [h3]; rfl)
  rw [← nmap_cons] at ns
  exact (R.loose H h1 h2 sb ns).cert rfl rfl rfl
theorem isFnD_is {o : Obj} (h : isFnD o = true) : ∃ fd, o.data = .func fd := by
  unfold isFnD at h
  split at h
  · exact ⟨_, by assumption⟩
  · cases h
theorem lenO_is {o : Obj} {k : Nat} (h : lenO o = some k) : ∃ xs n, o.cls = .type "list" ∧ o.data = .seq xs n ∧ xs.size = k := by
  unfold lenO at h
  split at h
  · rename_i xs n h1 h2
    cases h
    exact ⟨xs, n, h1, h2, rfl⟩
  · cases h
theorem apply_ok (H : Hyp e prog w h₀ T) (F : FnsOk e prog w h₀ T f) (S : ScOk e sc A) {fv : Value} {vs : List Value} {pos : Pos} {x : Sem Value} {rest : List (Bool × Sem Value)} (hpl : ((false, x) :: rest).any (·.1) = false)
    {σ2 σ' : Sg} {r : Except Value Value} {o : Obs} (hr : applyV e f sc fv vs σ2 = some (r, σ', o)) (ho : Oks o) {Q : Value → Shared → Prop} {E : Value → Shared → Prop} {g : Array GenState} {d : Drawn} {os : OsState} {s : Shared}
    (hargs : ∀ Q' : List Value → Shared → Prop, (∀ h2, Rl e h₀ T h2 σ2 → Q' vs ⟨h2, g, d, e.tok + σ2.tk, os⟩) → wpAny (model prog w) A (spliced ((false, x) :: rest)) Q' E s)
    (hq : ∀ h', Rl e h₀ T h' σ' → fin Q E ⟨h', g, d, e.tok + σ'.tk, os⟩ r) : wpAny (model prog w) A (callWith pos fv [] ((false, x) :: rest) []) Q E s := by
  unfold applyV at hr
  split at hr
  · rename_i a
    rcases bind_ok hr with ⟨ob, σ3, o1, o2, h1, h2, rfl⟩ | ⟨z, h1, rfl⟩
    · obtain ⟨b, ob', hl, hob, rfl⟩ := lookV_ok h1
      cases hob
      cases hf : isFnD ob with
      | false => simp only [hf] at h2; cases h2
      | true =>
        simp only [hf] at h2
        obtain ⟨fd, hfd⟩ := isFnD_is hf
        refine callWith_function (o := ob) (fd := fd) (evalArgs_plain (hargs _ fun hh2 R2 => ?_))
        obtain ⟨hg, ct, rfl⟩ := look_is H R2 hl ho.left.head
        refine ⟨⟨hg, hfd⟩, wpAny_call ?_⟩
        rcases bind_ok h2 with ⟨fl, σ4, o3, o4, h3, h4, rfl⟩ | ⟨z, h3, rfl⟩
        · refine F.code _ _ S _ _ _ _ _ h3 ho.right.left _ g d os hh2 (R2.ct _) fun h' R' => ?_
          cases fl with
          | ret v => cases h4; exact hq h' R'
          | _ => cases h4
        · exact F.code _ _ S _ _ _ _ _ h3 ho.right _ g d os hh2 (R2.ct _) fun h' R' => hq h' R'
    · obtain ⟨b, ob', hl, hob, _⟩ := lookV_ok h1
      cases hob
  · rename_i a
    rcases bind_ok hr with ⟨io, σ3, o1, o2, h1, h2, rfl⟩ | ⟨z, h1, rfl⟩
    · obtain ⟨i, ob, b, ct, hi0, rfl, hi, rfl⟩ := getV_ok H.srch h1
      cases hi0
      have hab : a = b := ho.left.head
      subst hab
      cases hk : lenO ob with
      | none => simp only [hk] at h2; cases h2
      | some k =>
        cases hb : Nat.ble k 100 with
        | false => simp only [hk, hb] at h2; cases h2
        | true =>
          simp only [hk, hb] at h2
          cases h2
          obtain ⟨xs, n, c1, c2, rfl⟩ := lenO_is hk
          refine Calls.callWith_builtin hpl (evalArgs_plain (hargs _ fun hh2 R2 => ?_))
          have hle := Nat.le_of_ble_eq_true hb
          refine PyProof.Rows.len_list (s := ⟨hh2, g, d, e.tok + σ2.tk, os⟩) (items := xs) ⟨ob, R2.at_ hi, c1, n, c2⟩ (by omega) ?_
          exact hq hh2 (R2.cert rfl rfl rfl)
    · obtain ⟨i, ob, b, ct, hi0, _⟩ := getV_ok H.srch h1
      cases hi0
  · cases hr
end
end Mine

end
section
open PySem PySem.W PySem.Calls PySem.Spec PyProof.Rows
set_option maxRecDepth 100000
set_option maxHeartbeats 400000
namespace Mine
section
variable {e : Ev} {prog : Program} {w : World} {h₀ : Heap} {T : List Addr} {A : Around} {sc : Sc} {f : Fns}
theorem newV_ok {ob : Obj} {σ σ' : Sg} {r : Except Value Value} {o : Obs} (hr : newV e ob σ = some (r, σ', o)) {h : Heap} (R : Rl e h₀ T h σ) : r = .ok (.ref h.objs.size) ∧ Rl e h₀ T (h.push ob) σ' ∧ σ'.tk = σ.tk := by
  unfold newV at hr
  cases hf : ob.isFreed with
  | true => simp only [hf] at hr; cases hr
  | false =>
    simp only [hf] at hr
    cases hr
    rw [R.sz]
    exact ⟨rfl, R.push hf, rfl⟩
theorem evalL_ok (H : Hyp e prog w h₀ T) (F : FnsOk e prog w h₀ T f) (n : Nat) (S : ScOk e sc A) (x : Expr) (env : Env) : Snd e prog w h₀ T A (evalL e n f sc x env) (PySem.eval x env) := by
  have ee : e.src.eval = PySem.eval := by rw [H.src]; rfl
  have eg : e.src.getA = fun v x => PySem.getAttr v x true := by rw [H.src]; rfl
  have ei : e.src.getI = PySem.getItem := by rw [H.src]; rfl
  unfold evalL
  split
  · rename_i y p
    cases hl : isLoc e env y with
    | true => exact getN_ok hl
    | false =>
      rw [ee]
      exact tree_ok H F n S _
  · rename_i gn p a pos
    cases hs : isStar a with
    | true => intro σ r σ' o hr; cases hr
    | false =>
      intro σ r σ' o hr ho Q E g d os h R hq
      simp only at hr
      refine wpAny_Call_NameR ?_
      rw [star1 hs]
      show wpAny _ _ (PySem.eval (.Name gn p) env) (fun f s₁ => wpAny _ _ (callWith pos f [] [(false, PySem.eval a env)] []) Q E s₁) E _
      rcases bind_ok hr with ⟨fv, σ1, o1, o2, h1, h2, rfl⟩ | ⟨z, h1, rfl⟩
      · refine F.eval _ _ S _ _ _ _ _ _ h1 ho.left _ _ g d os h R fun h' R' => ?_
        rcases bind_ok h2 with ⟨v, σ2, o3, o4, h3, h4, rfl⟩ | ⟨z, h3, rfl⟩
        · exact apply_ok H F S rfl h4 ho.right.right (fun Q' hQ' => spliced_cons (F.eval _ _ S _ _ _ _ _ _ h3 ho.right.left _ _ g d os h' R' fun h'' R'' => spliced_nil (hQ' h'' R''))) hq
        · have bad : wpAny (model prog w) A (callWith pos fv [] [(false, PySem.eval a env)] []) Q E ⟨h', g, d, e.tok + σ1.tk, os⟩ := by
            unfold callWith
            exact wpAny_bind (wpAny_holding (evalArgs_plain (spliced_cons (F.eval _ _ S _ _ _ _ _ _ h3 ho.right _ _ g d os h' R' fun h'' R'' => hq h'' R''))))
          exact bad
      · exact F.eval _ _ S _ _ _ _ _ _ h1 ho _ _ g d os h R fun h' R' => hq h' R'
  · rename_i gn p a b pos
    cases hs : isStar a with
    | true => intro σ r σ' o hr; cases hr
    | false =>
      cases hs2 : isStar b with
      | true => intro σ r σ' o hr; cases hr
      | false =>
        intro σ r σ' o hr ho Q E g d os h R hq
        simp only at hr
        refine wpAny_Call_NameR ?_
        rw [star1 hs, star1 hs2]
        show wpAny _ _ (PySem.eval (.Name gn p) env) (fun f s₁ => wpAny _ _ (callWith pos f [] [(false, PySem.eval a env), (false, PySem.eval b env)] []) Q E s₁) E _
        rcases bind_ok hr with ⟨fv, σ1, o1, o2, h1, h2, rfl⟩ | ⟨z, h1, rfl⟩
        · refine F.eval _ _ S _ _ _ _ _ _ h1 ho.left _ _ g d os h R fun h' R' => ?_
          rcases bind_ok h2 with ⟨v, σ2, o3, o4, h3, h4, rfl⟩ | ⟨z, h3, rfl⟩
          · rcases bind_ok h4 with ⟨v2, σ3, o5, o6, h5, h6, rfl⟩ | ⟨z, h5, rfl⟩
            · exact apply_ok H F S rfl h6 ho.right.right.right (fun Q' hQ' => spliced_cons (F.eval _ _ S _ _ _ _ _ _ h3 ho.right.left _ _ g d os h' R' fun h'' R'' => spliced_cons (F.eval _ _ S _ _ _ _ _ _ h5 ho.right.right.left _ _ g d os h'' R'' fun h3 R3 => spliced_nil (hQ' h3 R3)))) hq
            · have bad : wpAny (model prog w) A (callWith pos fv [] [(false, PySem.eval a env), (false, PySem.eval b env)] []) Q E ⟨h', g, d, e.tok + σ1.tk, os⟩ := by
                unfold callWith
                exact wpAny_bind (wpAny_holding (evalArgs_plain (spliced_cons (F.eval _ _ S _ _ _ _ _ _ h3 ho.right.left _ _ g d os h' R' fun h'' R'' => spliced_cons (F.eval _ _ S _ _ _ _ _ _ h5 ho.right.right _ _ g d os h'' R'' fun h3 R3 => hq h3 R3)))))
              exact bad
          · have bad : wpAny (model prog w) A (callWith pos fv [] [(false, PySem.eval a env), (false, PySem.eval b env)] []) Q E ⟨h', g, d, e.tok + σ1.tk, os⟩ := by
              unfold callWith
              exact wpAny_bind (wpAny_holding (evalArgs_plain (spliced_cons (F.eval _ _ S _ _ _ _ _ _ h3 ho.right _ _ g d os h' R' fun h'' R'' => hq h'' R''))))
            exact bad
        · exact F.eval _ _ S _ _ _ _ _ _ h1 ho _ _ g d os h R fun h' R' => hq h' R'
  · rename_i a b k pos
    cases hs : isStar a with
    | true => intro σ r σ' o hr; cases hr
    | false =>
      cases hs2 : isStar b with
      | true => intro σ r σ' o hr; cases hr
      | false =>
        intro σ r σ' o hr ho Q E g d os h R hq
        simp only at hr
        refine wpAny_Tuple ?_
        rw [star1 hs, star1 hs2]
        show wpAny _ _ (spliced [(false, PySem.eval a env), (false, PySem.eval b env)]) _ _ _
        rcases bind_ok hr with ⟨v, σ1, o1, o2, h1, h2, rfl⟩ | ⟨z, h1, rfl⟩
        · refine spliced_cons (F.eval _ _ S _ _ _ _ _ _ h1 ho.left _ _ g d os h R fun h' R' => ?_)
          rcases bind_ok h2 with ⟨v2, σ2, o3, o4, h3, h4, rfl⟩ | ⟨z, h3, rfl⟩
          · refine spliced_cons (F.eval _ _ S _ _ _ _ _ _ h3 ho.right.left _ _ g d os h' R' fun h'' R'' => spliced_nil ⟨(by show 2 ≤ sizeLine; decide), ?_⟩)
            obtain ⟨q1, q2, q3⟩ := newV_ok h4 R''
            subst q1
            have := hq _ q2
            rw [q3] at this
            exact this
          · exact spliced_cons (F.eval _ _ S _ _ _ _ _ _ h3 ho.right _ _ g d os h' R' fun h'' R'' => hq h'' R'')
        · exact spliced_cons (F.eval _ _ S _ _ _ _ _ _ h1 ho _ _ g d os h R fun h' R' => hq h' R')
  · rename_i a p b q pos
    intro σ r σ' o hr ho Q E g d os h R hq
    refine Subscript_ ?_
    rcases bind_ok hr with ⟨v, σ1, o1, o2, h1, h2, rfl⟩ | ⟨z, h1, rfl⟩
    · refine F.eval _ _ S _ _ _ _ _ _ h1 ho.left _ _ g d os h R fun h' R' => ?_
      rcases bind_ok h2 with ⟨i, σ2, o3, o4, h3, h4, rfl⟩ | ⟨z, h3, rfl⟩
      · refine F.eval _ _ S _ _ _ _ _ _ h3 ho.right.left _ _ g d os h' R' fun h'' R'' => ?_
        have ho := ho.right.right
        cases v with
        | ref l =>
          simp only at h4
          rcases bind_ok h4 with ⟨io, σ3, o5, o6, h5, h6, rfl⟩ | ⟨z, h5, rfl⟩
          · obtain ⟨j, ob, bb, ct, hi0, rfl, hi, rfl⟩ := getV_ok H.srch h5
            cases hi0
            have hab : l = bb := ho.left.head
            subst hab
            cases hb : isListO ob with
            | false => simp only [hb] at h6; cases h6
            | true =>
              simp only [hb] at h6
              rw [ei] at h6
              have hc : ob.cls = .type "list" := by
                unfold isListO at hb
                split at hb
                · assumption
                · cases hb
              refine subscriptTail_builtin (T := "list") ⟨ob, R''.at_ hi, hc⟩ list_getitem_lookup ?_
              exact tree_ok H F n S _ _ _ _ _ h6 ho.right Q E g d os h'' (R''.ct _) hq
          · obtain ⟨j, ob, bb, ct, hi0, _⟩ := getV_ok H.srch h5
            cases hi0
        | _ => cases h4
      · exact F.eval _ _ S _ _ _ _ _ _ h3 ho.right _ _ g d os h' R' fun h'' R'' => hq h'' R''
    · exact F.eval _ _ S _ _ _ _ _ _ h1 ho _ _ g d os h R fun h' R' => hq h' R'
  · rename_i a p at_ pos
    rw [eg]
    intro σ r σ' o hr ho Q E g d os h R hq
    refine Attribute_name ?_
    rcases bind_ok hr with ⟨v, σ1, o1, o2, h1, h2, rfl⟩ | ⟨z, h1, rfl⟩
    · refine F.eval _ _ S _ _ _ _ _ _ h1 ho.left _ _ g d os h R fun h' R' => ?_
      exact tree_ok H F n S _ _ _ _ _ h2 ho.right Q E g d os h' R' hq
    · exact F.eval _ _ S _ _ _ _ _ _ h1 ho _ _ g d os h R fun h' R' => hq h' R'
  · exact eval_ok H F n S _ env
theorem execL_ok (H : Hyp e prog w h₀ T) (F : FnsOk e prog w h₀ T f) (n : Nat) (S : ScOk e sc A) (s : Stmt) (env : Env) : Snd e prog w h₀ T A (execL e n f sc s env) (PySem.exec s env) := by
  have es : e.src.setA = PySem.setAttr := by rw [H.src]; rfl
  unfold execL
  split
  · rename_i x p₁ r₁ p₂
    cases hl : isLoc e env x with
    | false => intro σ r σ' o hr; cases hr
    | true =>
      cases hc : isComp r₁ with
      | true => intro σ r σ' o hr; cases hr
      | false =>
        intro σ r σ' o hr ho Q E g d os h R hq
        simp only at hr
        refine wpAny_Assign_Name ?_ (comp_no hc)
        rcases bind_ok hr with ⟨v, σ1, o1, o2, h1, h2, rfl⟩ | ⟨z, h1, rfl⟩
        · refine F.eval _ _ S _ _ _ _ _ _ h1 ho.left _ _ g d os h R fun h' R' => ?_
          rcases bind_ok h2 with ⟨u, σ2, o3, o4, h3, h4, rfl⟩ | ⟨z, h3, rfl⟩
          · refine setN_ok H hl _ _ _ _ h3 ho.right.left _ _ g d os h' R' fun h'' R'' => ?_
            cases h4
            exact hq h'' R''
          · exact setN_ok H hl _ _ _ _ h3 ho.right _ _ g d os h' R' fun h'' R'' => hq h'' R''
        · exact F.eval _ _ S _ _ _ _ _ _ h1 ho _ _ g d os h R fun h' R' => hq h' R'
  · rename_i a p₁ at_ p₂ b p₃ p₄
    rw [es]
    intro σ r σ' o hr ho Q E g d os h R hq
    refine plainObj_wpAny_Assign_Attribute ?_ rfl
    rcases bind_ok hr with ⟨v, σ1, o1, o2, h1, h2, rfl⟩ | ⟨z, h1, rfl⟩
    · refine F.eval _ _ S _ _ _ _ _ _ h1 ho.left _ _ g d os h R fun h' R' => ?_
      rcases bind_ok h2 with ⟨ov, σ2, o3, o4, h3, h4, rfl⟩ | ⟨z, h3, rfl⟩
      · refine F.eval _ _ S _ _ _ _ _ _ h3 ho.right.left _ _ g d os h' R' fun h'' R'' => ?_
        rcases bind_ok h4 with ⟨u, σ3, o5, o6, h5, h6, rfl⟩ | ⟨z, h5, rfl⟩
        · refine tree_ok H F n S _ _ _ _ _ h5 ho.right.right.left _ _ g d os h'' R'' fun h3 R3 => ?_
          cases h6
          exact hq h3 R3
        · exact tree_ok H F n S _ _ _ _ _ h5 ho.right.right _ _ g d os h'' R'' fun h3 R3 => hq h3 R3
      · exact F.eval _ _ S _ _ _ _ _ _ h3 ho.right _ _ g d os h' R' fun h'' R'' => hq h'' R''
    · exact F.eval _ _ S _ _ _ _ _ _ h1 ho _ _ g d os h R fun h' R' => hq h' R'
  · rename_i test body orelse p
    intro σ r σ' o hr ho Q E g d os h R hq
    refine wpAny_If ?_
    rcases bind_ok hr with ⟨b, σ1, o1, o2, h1, h2, rfl⟩ | ⟨z, h1, rfl⟩
    · refine F.test _ _ S _ _ _ _ _ _ h1 ho.left _ _ g d os h R fun h' R' => ?_
      cases b with
      | true => exact F.execs _ _ S _ _ _ _ _ _ h2 ho.right Q E g d os h' R' hq
      | false => exact F.execs _ _ S _ _ _ _ _ _ h2 ho.right Q E g d os h' R' hq
    · exact F.test _ _ S _ _ _ _ _ _ h1 ho _ _ g d os h R fun h' R' => hq h' R'
  · intro σ r σ' o hr; cases hr
theorem fnsL_ok (H : Hyp e prog w h₀ T) (n k : Nat) : ∀ j, FnsOk e prog w h₀ T (fnsL e n k j)
  | 0 => ⟨fun _ _ _ _ _ _ _ _ hr => (by cases hr), fun _ _ _ _ _ _ _ _ _ hr => (by cases hr), fun _ _ _ _ _ _ _ _ _ hr => (by cases hr), fun _ _ _ _ _ _ _ _ _ hr => (by cases hr), fun _ _ _ _ _ _ _ _ _ hr => (by cases hr), fun _ _ _ _ _ _ _ _ _ _ hr => (by cases hr)⟩
  | j + 1 =>
    have F := fnsL_ok H n k j
    have F0 := fns_ok H n k
    ⟨F0.code, fun _ _ S ss env => execs_ok F S env ss, fun _ _ S s env => execL_ok H F n S s env, fun _ _ S x env => evalL_ok H F n S x env, fun _ _ S x env => test_ok H F n S x env, F0.handle⟩
end
end Mine

end
section
open PySem PySem.W PySem.Calls PySem.Spec PyProof.Rows
set_option maxRecDepth 100000
namespace Mine
noncomputable def theRow : String := "special-get-raises"
noncomputable def twoRow : String := "comprehension-iter-twice"
noncomputable def setRow (P : Params) (b : Bool) : Params := { P with followText := fun r => if r = theRow then b else P.followText r }
theorem setRow_eq (P : Params) : setRow P (P.followText theRow) = P := by
  unfold setRow
  have : (fun r => if r = theRow then P.followText theRow else P.followText r) = P.followText := by
    funext r
    split
    · rename_i h; rw [h]
    · rfl
  rw [this]
noncomputable def setTwo (P : Params) (b c : Bool) : Params := { P with followText := fun r => if r = theRow then b else if r = twoRow then c else P.followText r }
theorem setTwo_eq (P : Params) : setTwo P (P.followText theRow) (P.followText twoRow) = P := by
  unfold setTwo
  have : (fun r => if r = theRow then P.followText theRow else if r = twoRow then P.followText twoRow else P.followText r) = P.followText := by
    funext r
    split
    · rename_i h; rw [h]
    · split
      · rename_i h; rw [h]
      · rfl
  rw [this]
noncomputable def K0 (P : Params) (a : Addr) : Option Obj := match Nat.beq a 35 with
  | true => none
  | false => (hd.ktop_147 P).get a
abbrev prog0 : Program := PySem.Challenge.pw_dm0088_03
noncomputable def lawParts : List Stmt × Scope := match prog0.main.body.getLast? with
  | some (.FunctionDef _ _ b _ _ _ sc _ _ _) => (b, sc)
  | _ => ([], default)
noncomputable def lawEnv : Env := { scope := lawParts.2, locals := 56, globals := 3, cells := [], qual := ("law" : Str) ++ (".<locals>." : Str), func := some 54, code := .ref 53, frame := some 56, builtins := 0 }
/-- what a run is told, in law's frame -/
noncomputable def evB (P : Params) (x tok : Nat) : Ev := { src := srcZ, K := K0 P, S := ⟨prog0, P⟩, base := x + 57, tok := tok, bot := some lawEnv, srch := false }
noncomputable def sc0 : Sc := { hdl := none, frs := [], dep := 400, uni := 100 }
noncomputable def turnBody : List Stmt := match lawParts.1 with
  | [_, _, _, _, .For _ _ [_, .For _ _ b _ _] _ _, _] => b
  | _ => []
noncomputable def namesL (t : Nat → Nat) : List Value := [.str "int" (t 0), .str "str" (t 1), .str "list" (t 2), .str "tuple" (t 3), .str "dict" (t 4), .str "bool" (t 5), .str "bytes" (t 6), .str "NoneType" (t 7)]
noncomputable def namesO (t : Nat → Nat) (c : Nat) : Obj := { cls := .type "list", data := .seq ⟨namesL t⟩ c }
noncomputable def headO (t : Nat → Nat) : Obj := { cls := .type "tuple", data := .seq #[.str "type" (t 8), .str noAssign (t 9)] }
noncomputable def nm0 (k n : Int) (t u : Tok) (y z : Nat) (vd vi vs : Value) (rest : List (Str × Value)) : List (Str × Value) :=
  ("sort", .int k t) :: ("n", .int n u) :: ("names", .ref (y + 57)) :: ("header", .ref (z + 57)) :: ("draws", vd) :: ("i", vi) :: ("script", vs) :: rest
noncomputable abbrev callT (e : Ev) : V Flow := (fnsL e 60 40 30).execs sc0 turnBody lawEnv
noncomputable abbrev callM (e : Ev) : V Flow := (fns e 60 40).code sc0 (.call (.ref 40) ⟨[.none, .none], []⟩)
/-- a certificate out of numbers, seven bits an entry -/
noncomputable def dec : Nat → Nat → List (Option Nat) → List (Option Nat)
  | 0, _, t => t
  | n + 1, L, t => (match L % 128 with | 0 => none | k + 1 => some k) :: dec n (L / 128) t
noncomputable def decs : List (Nat × Nat) → List (Option Nat)
  | [] => []
  | p :: r => dec p.1 p.2 (decs r)
noncomputable def keysT : List Str := ["n", "names", "header", "draws", "i", "script"]
/-- a turn's end, as far as it is wanted -/
noncomputable def endsT {α : Type} (keep : List Nat) : Option (α × Sg × Obs) → Option (α × List (Addr × Obj) × Nat × List (Nat × Nat) × List (Option Value) × Obs)
  | some (r, σ, o) => some (r, pickIx σ.news keep, σ.tk, lesOf o, keysT.map (rowOf σ.nm), o.map Ob.dup)
  | none => none
theorem endsT_is {α : Type} {keep : List Nat} {R : Option (α × Sg × Obs)} {r : α} {l : List (Addr × Obj)} {tk : Nat} {les : List (Nat × Nat)} {rows : List (Option Value)} (h : endsT keep R = some (r, l, tk, les, rows, obsOf R)) (hl : ∀ p ∈ les, p.1 ≤ p.2) :
    ∃ σ o, R = some (r, σ, o) ∧ Oks o ∧ (∀ p ∈ l, p ∈ σ.news) ∧ σ.tk = tk ∧ keysT.map (rowOf σ.nm) = rows := by
  cases R with
  | none => cases h
  | some q =>
    obtain ⟨r', σ, o⟩ := q
    simp only [endsT, obsOf, Option.some.injEq, Prod.mk.injEq] at h
    obtain ⟨rfl, rfl, rfl, rfl, rfl, ho⟩ := h
    exact ⟨σ, o, rfl, oks_of_dup ho hl, fun p hp => pick_mem hp, rfl, rfl⟩
end Mine

end
section
open PySem PySem.W PySem.Calls PySem.Spec PyProof.Rows
set_option maxRecDepth 100000
set_option maxHeartbeats 0
namespace Mine

noncomputable def certM : List (Option Nat) := decs [(16, 408817318585502854738004269891584), (16, 367958046463769806175157432387072), (6, 653105579273)]

noncomputable def rM (P : Params) (x tok : Nat) := callM (evB P x tok) ⟨[(35, tab0)], [], 0, 0, certM, []⟩

noncomputable def tabs (P : Params) (x tok : Nat) : List (Addr × Obj) := pickIx (newsOf (rM P x tok)) [2, 10, 19]

noncomputable def certT0 : List (Option Nat) := decs [(16, 40881731857369694195282199183360), (16, 319388530135918610830640300161), (16, 40884227232557697862444850872321), (16, 40884207738628858265399271113219), (16, 19650994006813046902620676), (16, 3193885301532905025450692083968), (16, 367958045103728269241793959611797), (16, 22819664660218885041045642), (16, 613263408471707040721057353842816), (16, 1144750408503174147499888432367503), (16, 40884305213034212361202258955804), (16, 40884207738628860543587363864705), (16, 40884207738628860517199084798081), (16, 40884440013021050947965584147464), (16, 41203596267574818889994795504129), (16, 245305246425104207996182453829633), (16, 163536908933744678334154477191558), (16, 141125316793443283146343727233), (16, 122652682154589935391733358592512), (16, 19344002928827061850096131), (16, 52300568611467709252076927205505), (16, 572379179275946326134009337233537), (16, 284308136214496124959153924948620), (16, 40884227232557697862410224812168), (16, 19961935439019205913709920392), (16, 899452998485628988799779661185160), (16, 40881731857760126109744255273366), (16, 2207748270558115654500742389039232), (16, 40564838702449739867631449587885), (16, 204421135704709353994678379233280), (16, 2452906406664515577058085295882370), (4, 107945532)]

theorem runT0_0_77_false (P : Params) (x tok : Nat) (n : Int) (t u : Tok) (y z cp : Nat) (ts : Nat → Nat) (vd vi vs : Value) (rest : List (Str × Value)) : endsT [52, 60, 78, 79, 80] (callT (evB (setRow P false) x tok) ⟨[(35, tab0)] ++ [(y + 57, namesO ts cp), (z + 57, headO ts)], [], 0, 0, certT0, nm0 0 n t u y z vd vi vs rest⟩) = some (.ok .next, tabs (setRow P false) (x + 11) (tok + 25) ++ [(y + 57, namesO ts cp), (z + 57, headO ts)], 112, [], [some (.int n u), some (.ref (y + 57)), some (.ref (z + 57)), some vd, some vi, some vs], obsOf (callT (evB (setRow P false) x tok) ⟨[(35, tab0)] ++ [(y + 57, namesO ts cp), (z + 57, headO ts)], [], 0, 0, certT0, nm0 0 n t u y z vd vi vs rest⟩)) := by kernel_rfl

theorem runT0_0_77_true (P : Params) (x tok : Nat) (n : Int) (t u : Tok) (y z cp : Nat) (ts : Nat → Nat) (vd vi vs : Value) (rest : List (Str × Value)) : endsT [52, 60, 78, 79, 80] (callT (evB (setRow P true) x tok) ⟨[(35, tab0)] ++ [(y + 57, namesO ts cp), (z + 57, headO ts)], [], 0, 0, certT0, nm0 0 n t u y z vd vi vs rest⟩) = some (.ok .next, tabs (setRow P true) (x + 11) (tok + 25) ++ [(y + 57, namesO ts cp), (z + 57, headO ts)], 112, [], [some (.int n u), some (.ref (y + 57)), some (.ref (z + 57)), some vd, some vi, some vs], obsOf (callT (evB (setRow P true) x tok) ⟨[(35, tab0)] ++ [(y + 57, namesO ts cp), (z + 57, headO ts)], [], 0, 0, certT0, nm0 0 n t u y z vd vi vs rest⟩)) := by kernel_rfl

noncomputable def certT1 : List (Option Nat) := decs [(16, 40881731857369694195282199183360), (16, 319388530136063860783972368513), (16, 40884227232557697862444850872321), (16, 40884207738628858265399271113219), (16, 19650994006813046902620676), (16, 42090570520979285501771022592), (16, 2220883929157067972975496626944), (16, 316932143985898641045892104192), (16, 286187153738062772083814760988672), (16, 694991939234908293322797410697366), (16, 40884227232557697880175560345745), (16, 40884227232557697858012446737415), (16, 43100121626139648223837490791425), (16, 446866666591859890456052195542146), (16, 754370901399762447265481988), (16, 122652681701242756413931386831364), (16, 19495146616894667744100484), (16, 15528797828511201770598826016768), (16, 284273142932104700540863568248832), (16, 245305265919743246663922030215168), (16, 405967600098291370075311344550662), (16, 731763785866079725652546215429773), (16, 2495383516789198074035865874), (16, 2495383461441009198053736577), (16, 367957908483137413253886447190017), (16, 1880674448588972157647403960254729), (16, 40564819358428363729354133001646), (16, 40891693610802580983429513085057), (16, 162578684702171328713038317502593), (16, 153523390678226928926724), (14, 127322620418439512550002393217)]

theorem runT1_0_77_false (P : Params) (x tok : Nat) (xc tc : Nat) (n : Int) (t u : Tok) (y z cp : Nat) (ts : Nat → Nat) (vd vi vs : Value) (rest : List (Str × Value)) : endsT [66, 67, 68, 69, 70] (callT (evB (setRow P false) x tok) ⟨tabs (setRow P false) xc tc ++ [(y + 57, namesO ts cp), (z + 57, headO ts)], [], 0, 0, certT1, nm0 0 n t u y z vd vi vs rest⟩) = some (.ok .next, tabs (setRow P false) xc tc ++ [(y + 57, namesO ts cp), (z + 57, headO ts)], 98, [], [some (.int n u), some (.ref (y + 57)), some (.ref (z + 57)), some vd, some vi, some vs], obsOf (callT (evB (setRow P false) x tok) ⟨tabs (setRow P false) xc tc ++ [(y + 57, namesO ts cp), (z + 57, headO ts)], [], 0, 0, certT1, nm0 0 n t u y z vd vi vs rest⟩)) := by kernel_rfl

theorem runT1_0_77_true (P : Params) (x tok : Nat) (xc tc : Nat) (n : Int) (t u : Tok) (y z cp : Nat) (ts : Nat → Nat) (vd vi vs : Value) (rest : List (Str × Value)) : endsT [66, 67, 68, 69, 70] (callT (evB (setRow P true) x tok) ⟨tabs (setRow P true) xc tc ++ [(y + 57, namesO ts cp), (z + 57, headO ts)], [], 0, 0, certT1, nm0 0 n t u y z vd vi vs rest⟩) = some (.ok .next, tabs (setRow P true) xc tc ++ [(y + 57, namesO ts cp), (z + 57, headO ts)], 98, [], [some (.int n u), some (.ref (y + 57)), some (.ref (z + 57)), some vd, some vi, some vs], obsOf (callT (evB (setRow P true) x tok) ⟨tabs (setRow P true) xc tc ++ [(y + 57, namesO ts cp), (z + 57, headO ts)], [], 0, 0, certT1, nm0 0 n t u y z vd vi vs rest⟩)) := by kernel_rfl

noncomputable def certT2 : List (Option Nat) := decs [(16, 152305615069559578951680), (16, 116970712370584845107085441), (16, 40884227232557697295062491218048), (16, 319408478601539370139907014785), (16, 82726678537299723523872429981824), (16, 163526927447150539733244686893057), (16, 41839955933123687116848110766208), (16, 40564819208585462181561307873409), (16, 367958045093018699762155701420033), (16, 654147635249727669177673343681289), (16, 40884227237317248377764618453121), (16, 40884227231367882869932715688065), (16, 327056350232890670257811853688961), (16, 973875069013521626191721385820160), (16, 319427517993310696253692085249), (16, 123610905766296862005686607806503), (16, 40891713358149811325608409481603), (16, 162259283931661850191851304255489), (16, 163217500905004322426061849378820), (16, 40881731858541062439530095722625), (16, 40885194830121156652379842642689), (16, 206661983089842746589844825194625), (16, 43117473199276797705389810467461), (16, 43102615782957099315064081481857), (16, 43100121626139648223837488676993), (16, 777758541494320839196938340549762), (16, 40567314430195049839965007222574), (16, 54945666469341305493561171509248), (16, 2475881268460067130592739843), (16, 41211121383375994937924755931265), (16, 2207748262485908789888385370030080), (2, 6582)]

theorem runT1_1_0_false (P : Params) (x tok : Nat) (xc tc : Nat) (n : Int) (t u : Tok) (y z cp : Nat) (ts : Nat → Nat) (vd vi vs : Value) (rest : List (Str × Value)) : endsT [66, 67, 68, 69, 70] (callT (evB (setRow P false) x tok) ⟨tabs (setRow P false) xc tc ++ [(y + 57, namesO ts cp), (z + 57, headO ts)], [], 0, 0, certT2, nm0 1 n t u y z vd vi vs rest⟩) = some (.ok .next, tabs (setRow P false) xc tc ++ [(y + 57, namesO ts cp), (z + 57, headO ts)], 108, [((n.fmod 3).toNat, 0), (0, (n.fmod 3).toNat), ((n.fmod 3).toNat, 0), (0, (n.fmod 3).toNat)], [some (.int n u), some (.ref (y + 57)), some (.ref (z + 57)), some vd, some vi, some vs], obsOf (callT (evB (setRow P false) x tok) ⟨tabs (setRow P false) xc tc ++ [(y + 57, namesO ts cp), (z + 57, headO ts)], [], 0, 0, certT2, nm0 1 n t u y z vd vi vs rest⟩)) := by kernel_rfl

theorem runT1_1_0_true (P : Params) (x tok : Nat) (xc tc : Nat) (n : Int) (t u : Tok) (y z cp : Nat) (ts : Nat → Nat) (vd vi vs : Value) (rest : List (Str × Value)) : endsT [66, 67, 68, 69, 70] (callT (evB (setRow P true) x tok) ⟨tabs (setRow P true) xc tc ++ [(y + 57, namesO ts cp), (z + 57, headO ts)], [], 0, 0, certT2, nm0 1 n t u y z vd vi vs rest⟩) = some (.ok .next, tabs (setRow P true) xc tc ++ [(y + 57, namesO ts cp), (z + 57, headO ts)], 108, [((n.fmod 3).toNat, 0), (0, (n.fmod 3).toNat), ((n.fmod 3).toNat, 0), (0, (n.fmod 3).toNat)], [some (.int n u), some (.ref (y + 57)), some (.ref (z + 57)), some vd, some vi, some vs], obsOf (callT (evB (setRow P true) x tok) ⟨tabs (setRow P true) xc tc ++ [(y + 57, namesO ts cp), (z + 57, headO ts)], [], 0, 0, certT2, nm0 1 n t u y z vd vi vs rest⟩)) := by kernel_rfl

noncomputable def certT3 : List (Option Nat) := decs [(16, 303421342521388225789952), (16, 116970712371147795060506753), (16, 40884227232557697295062491218048), (16, 319408478601539370139907014785), (16, 82726678537299723523872429981824), (16, 163526927447150539733244686893057), (16, 41839955933123687116848110766208), (16, 40564819208585462181561307873409), (16, 367958045093018699762155701420033), (16, 654147635249727669177673343681289), (16, 40884227237317248377764618453121), (16, 40884227231367882869932715688065), (16, 327056350232890670257811853688961), (16, 973875069013521626191721385820160), (16, 319427517993310696253692085249), (16, 123610905766296862005686607806503), (16, 40891713358149811325608409481603), (16, 162259283931661850191851304255489), (16, 163217500905004322426061849378820), (16, 40881731858541062439530095722625), (16, 40885194830121156652379842642689), (16, 206661983089842746589844825194625), (16, 43117473199276797705389810467461), (16, 43102615782957099315064081481857), (16, 43100121626139648223837488676993), (16, 777758541494320839196938340549762), (16, 40567314430195049839965007222574), (16, 54945666469341305493561171509248), (16, 2475881268460067130592739843), (16, 41211121383375994937924755931265), (16, 2207748262485908789888385370030080), (2, 6582)]

theorem runT1_1_1_false (P : Params) (x tok : Nat) (xc tc : Nat) (n : Int) (t u : Tok) (y z cp : Nat) (ts : Nat → Nat) (vd vi vs : Value) (rest : List (Str × Value)) : endsT [66, 67, 68, 69, 70] (callT (evB (setRow P false) x tok) ⟨tabs (setRow P false) xc tc ++ [(y + 57, namesO ts cp), (z + 57, headO ts)], [], 0, 0, certT3, nm0 1 n t u y z vd vi vs rest⟩) = some (.ok .next, tabs (setRow P false) xc tc ++ [(y + 57, namesO ts cp), (z + 57, headO ts)], 106, [((n.fmod 3).toNat, 1), (1, (n.fmod 3).toNat), ((n.fmod 3).toNat, 1), (1, (n.fmod 3).toNat)], [some (.int n u), some (.ref (y + 57)), some (.ref (z + 57)), some vd, some vi, some vs], obsOf (callT (evB (setRow P false) x tok) ⟨tabs (setRow P false) xc tc ++ [(y + 57, namesO ts cp), (z + 57, headO ts)], [], 0, 0, certT3, nm0 1 n t u y z vd vi vs rest⟩)) := by kernel_rfl

theorem runT1_1_1_true (P : Params) (x tok : Nat) (xc tc : Nat) (n : Int) (t u : Tok) (y z cp : Nat) (ts : Nat → Nat) (vd vi vs : Value) (rest : List (Str × Value)) : endsT [66, 67, 68, 69, 70] (callT (evB (setRow P true) x tok) ⟨tabs (setRow P true) xc tc ++ [(y + 57, namesO ts cp), (z + 57, headO ts)], [], 0, 0, certT3, nm0 1 n t u y z vd vi vs rest⟩) = some (.ok .next, tabs (setRow P true) xc tc ++ [(y + 57, namesO ts cp), (z + 57, headO ts)], 106, [((n.fmod 3).toNat, 1), (1, (n.fmod 3).toNat), ((n.fmod 3).toNat, 1), (1, (n.fmod 3).toNat)], [some (.int n u), some (.ref (y + 57)), some (.ref (z + 57)), some vd, some vi, some vs], obsOf (callT (evB (setRow P true) x tok) ⟨tabs (setRow P true) xc tc ++ [(y + 57, namesO ts cp), (z + 57, headO ts)], [], 0, 0, certT3, nm0 1 n t u y z vd vi vs rest⟩)) := by kernel_rfl

noncomputable def certT4 : List (Option Nat) := decs [(16, 454537069973216872628224), (16, 116970712371710745013928065), (16, 40884227232557697295062491218048), (16, 319408478601539370139907014785), (16, 82726678537299723523872429981824), (16, 163526927447150539733244686893057), (16, 41839955933123687116848110766208), (16, 40564819208585462181561307873409), (16, 367958045093018699762155701420033), (16, 654147635249727669177673343681289), (16, 40884227237317248377764618453121), (16, 40884227231367882869932715688065), (16, 327056350232890670257811853688961), (16, 973875069013521626191721385820160), (16, 319427517993310696253692085249), (16, 123610905766296862005686607806503), (16, 40891713358149811325608409481603), (16, 162259283931661850191851304255489), (16, 163217500905004322426061849378820), (16, 40881731858541062439530095722625), (16, 40885194830121156652379842642689), (16, 206661983089842746589844825194625), (16, 43117473199276797705389810467461), (16, 43102615782957099315064081481857), (16, 43100121626139648223837488676993), (16, 777758541494320839196938340549762), (16, 40567314430195049839965007222574), (16, 54945666469341305493561171509248), (16, 2475881268460067130592739843), (16, 41211121383375994937924755931265), (16, 2207748262485908789888385370030080), (2, 6582)]

theorem runT1_1_2_false (P : Params) (x tok : Nat) (xc tc : Nat) (n : Int) (t u : Tok) (y z cp : Nat) (ts : Nat → Nat) (vd vi vs : Value) (rest : List (Str × Value)) : endsT [66, 67, 68, 69, 70] (callT (evB (setRow P false) x tok) ⟨tabs (setRow P false) xc tc ++ [(y + 57, namesO ts cp), (z + 57, headO ts)], [], 0, 0, certT4, nm0 1 n t u y z vd vi vs rest⟩) = some (.ok .next, tabs (setRow P false) xc tc ++ [(y + 57, namesO ts cp), (z + 57, headO ts)], 108, [((n.fmod 3).toNat, 2), (2, (n.fmod 3).toNat), ((n.fmod 3).toNat, 2), (2, (n.fmod 3).toNat)], [some (.int n u), some (.ref (y + 57)), some (.ref (z + 57)), some vd, some vi, some vs], obsOf (callT (evB (setRow P false) x tok) ⟨tabs (setRow P false) xc tc ++ [(y + 57, namesO ts cp), (z + 57, headO ts)], [], 0, 0, certT4, nm0 1 n t u y z vd vi vs rest⟩)) := by kernel_rfl

theorem runT1_1_2_true (P : Params) (x tok : Nat) (xc tc : Nat) (n : Int) (t u : Tok) (y z cp : Nat) (ts : Nat → Nat) (vd vi vs : Value) (rest : List (Str × Value)) : endsT [66, 67, 68, 69, 70] (callT (evB (setRow P true) x tok) ⟨tabs (setRow P true) xc tc ++ [(y + 57, namesO ts cp), (z + 57, headO ts)], [], 0, 0, certT4, nm0 1 n t u y z vd vi vs rest⟩) = some (.ok .next, tabs (setRow P true) xc tc ++ [(y + 57, namesO ts cp), (z + 57, headO ts)], 108, [((n.fmod 3).toNat, 2), (2, (n.fmod 3).toNat), ((n.fmod 3).toNat, 2), (2, (n.fmod 3).toNat)], [some (.int n u), some (.ref (y + 57)), some (.ref (z + 57)), some vd, some vi, some vs], obsOf (callT (evB (setRow P true) x tok) ⟨tabs (setRow P true) xc tc ++ [(y + 57, namesO ts cp), (z + 57, headO ts)], [], 0, 0, certT4, nm0 1 n t u y z vd vi vs rest⟩)) := by kernel_rfl

noncomputable def certT5 : List (Option Nat) := decs [(16, 40886683769823154788927853821952), (16, 40884227232557697295062224879745), (16, 194951187283929820091662592), (16, 245305363389396748518632085012608), (16, 41839916942886011434666987455238), (16, 1277573615651945917692185165953), (16, 81763463714730166720675432120832), (16, 245290391168955103706853712855169), (16, 1058999981478246675956486), (16, 40564819358428363729354044391553), (16, 40946241204072340671257701924993), (16, 613902224519837069456727733190785), (16, 40884734105644649356730591953541), (16, 40884207738628860543587363864705), (16, 40884207738628860517199084798081), (16, 40884440013021050947965584147464), (16, 41203596267574818889994795502593), (16, 245305246425048867763961325076481), (16, 163536908933744678334154477191558), (16, 126270036322018719847554236545), (16, 122652682154589935391731747979776), (16, 19344002928827061850096131), (16, 58004996312494741558812091629697), (16, 572379179275946326134009337233537), (16, 2289414473125497980776564220052108), (16, 40884227080261378820891395103800), (16, 40564838550125750709761146372225), (16, 322039866282250092643564519553), (16, 1758979995075846529721468677622016), (16, 40884207737448192898203331335595), (16, 60368116773072242827560760383536), (16, 2475881268460067130592739843), (16, 41211121383375994937924755931265), (16, 2207748262485908789888385370030080), (6, 2251774040502)]

theorem runT1_2_0_false (P : Params) (x tok : Nat) (xc tc : Nat) (n : Int) (t u : Tok) (y z cp : Nat) (ts : Nat → Nat) (vd vi vs : Value) (rest : List (Str × Value)) : endsT [70, 71, 72, 73, 74] (callT (evB (setRow P false) x tok) ⟨tabs (setRow P false) xc tc ++ [(y + 57, namesO ts cp), (z + 57, headO ts)], [], 0, 0, certT5, nm0 2 n t u y z vd vi vs rest⟩) = some (.ok .next, tabs (setRow P false) xc tc ++ [(y + 57, namesO ts cp), (z + 57, headO ts)], 110, [((n.fmod 4).toNat, 0), (0, (n.fmod 4).toNat), ((n.fmod 4).toNat, 0), (0, (n.fmod 4).toNat)], [some (.int n u), some (.ref (y + 57)), some (.ref (z + 57)), some vd, some vi, some vs], obsOf (callT (evB (setRow P false) x tok) ⟨tabs (setRow P false) xc tc ++ [(y + 57, namesO ts cp), (z + 57, headO ts)], [], 0, 0, certT5, nm0 2 n t u y z vd vi vs rest⟩)) := by kernel_rfl

theorem runT1_2_0_true (P : Params) (x tok : Nat) (xc tc : Nat) (n : Int) (t u : Tok) (y z cp : Nat) (ts : Nat → Nat) (vd vi vs : Value) (rest : List (Str × Value)) : endsT [70, 71, 72, 73, 74] (callT (evB (setRow P true) x tok) ⟨tabs (setRow P true) xc tc ++ [(y + 57, namesO ts cp), (z + 57, headO ts)], [], 0, 0, certT5, nm0 2 n t u y z vd vi vs rest⟩) = some (.ok .next, tabs (setRow P true) xc tc ++ [(y + 57, namesO ts cp), (z + 57, headO ts)], 110, [((n.fmod 4).toNat, 0), (0, (n.fmod 4).toNat), ((n.fmod 4).toNat, 0), (0, (n.fmod 4).toNat)], [some (.int n u), some (.ref (y + 57)), some (.ref (z + 57)), some vd, some vi, some vs], obsOf (callT (evB (setRow P true) x tok) ⟨tabs (setRow P true) xc tc ++ [(y + 57, namesO ts cp), (z + 57, headO ts)], [], 0, 0, certT5, nm0 2 n t u y z vd vi vs rest⟩)) := by kernel_rfl

noncomputable def certT6 : List (Option Nat) := decs [(16, 41203596419880212139302029623296), (16, 40884227232557697295062224879745), (16, 194951187283929820091678976), (16, 245305363389396748518632085012608), (16, 41839916942886011434666987455238), (16, 1277573615651945917692185165953), (16, 81763463714730166720675432120832), (16, 245290391168955103706853712855169), (16, 1058999981478246675956486), (16, 40564819358428363729354044391553), (16, 40946241204072340671257701924993), (16, 613902224519837069456727733190785), (16, 40884734105644649356730591953541), (16, 40884207738628860543587363864705), (16, 40884207738628860517199084798081), (16, 40884440013021050947965584147464), (16, 41203596267574818889994795502593), (16, 245305246425048867763961325076481), (16, 163536908933744678334154477191558), (16, 126270036322018719847554236545), (16, 122652682154589935391731747979776), (16, 19344002928827061850096131), (16, 58004996312494741558812091629697), (16, 572379179275946326134009337233537), (16, 2289414473125497980776564220052108), (16, 40884227080261378820891395103800), (16, 40564838550125750709761146372225), (16, 322039866282250092643564519553), (16, 1758979995075846529721468677622016), (16, 40884207737448192898203331335595), (16, 60368116773072242827560760383536), (16, 2475881268460067130592739843), (16, 41211121383375994937924755931265), (16, 2207748262485908789888385370030080), (6, 2251774040502)]

theorem runT1_2_1_false (P : Params) (x tok : Nat) (xc tc : Nat) (n : Int) (t u : Tok) (y z cp : Nat) (ts : Nat → Nat) (vd vi vs : Value) (rest : List (Str × Value)) : endsT [70, 71, 72, 73, 74] (callT (evB (setRow P false) x tok) ⟨tabs (setRow P false) xc tc ++ [(y + 57, namesO ts cp), (z + 57, headO ts)], [], 0, 0, certT6, nm0 2 n t u y z vd vi vs rest⟩) = some (.ok .next, tabs (setRow P false) xc tc ++ [(y + 57, namesO ts cp), (z + 57, headO ts)], 110, [((n.fmod 4).toNat, 1), (1, (n.fmod 4).toNat), ((n.fmod 4).toNat, 1), (1, (n.fmod 4).toNat)], [some (.int n u), some (.ref (y + 57)), some (.ref (z + 57)), some vd, some vi, some vs], obsOf (callT (evB (setRow P false) x tok) ⟨tabs (setRow P false) xc tc ++ [(y + 57, namesO ts cp), (z + 57, headO ts)], [], 0, 0, certT6, nm0 2 n t u y z vd vi vs rest⟩)) := by kernel_rfl

theorem runT1_2_1_true (P : Params) (x tok : Nat) (xc tc : Nat) (n : Int) (t u : Tok) (y z cp : Nat) (ts : Nat → Nat) (vd vi vs : Value) (rest : List (Str × Value)) : endsT [70, 71, 72, 73, 74] (callT (evB (setRow P true) x tok) ⟨tabs (setRow P true) xc tc ++ [(y + 57, namesO ts cp), (z + 57, headO ts)], [], 0, 0, certT6, nm0 2 n t u y z vd vi vs rest⟩) = some (.ok .next, tabs (setRow P true) xc tc ++ [(y + 57, namesO ts cp), (z + 57, headO ts)], 110, [((n.fmod 4).toNat, 1), (1, (n.fmod 4).toNat), ((n.fmod 4).toNat, 1), (1, (n.fmod 4).toNat)], [some (.int n u), some (.ref (y + 57)), some (.ref (z + 57)), some vd, some vi, some vs], obsOf (callT (evB (setRow P true) x tok) ⟨tabs (setRow P true) xc tc ++ [(y + 57, namesO ts cp), (z + 57, headO ts)], [], 0, 0, certT6, nm0 2 n t u y z vd vi vs rest⟩)) := by kernel_rfl

noncomputable def certT7 : List (Option Nat) := decs [(16, 41520509069937269489676205424640), (16, 40884227232557697295062224879745), (16, 194951187283929820091695360), (16, 245305363389396748518632085012608), (16, 41839916942886011434666987455238), (16, 1277573615651945917692185165953), (16, 81763463714730166720675432120832), (16, 245290391168955103706853712855169), (16, 1058999981478246675956486), (16, 40564819358428363729354044391553), (16, 40946241204072340671257701924993), (16, 613902224519837069456727733190785), (16, 40884734105644649356730591953541), (16, 40884207738628860543587363864705), (16, 40884207738628860517199084798081), (16, 40884440013021050947965584147464), (16, 41203596267574818889994795502593), (16, 245305246425048867763961325076481), (16, 163536908933744678334154477191558), (16, 126270036322018719847554236545), (16, 122652682154589935391731747979776), (16, 19344002928827061850096131), (16, 58004996312494741558812091629697), (16, 572379179275946326134009337233537), (16, 2289414473125497980776564220052108), (16, 40884227080261378820891395103800), (16, 40564838550125750709761146372225), (16, 322039866282250092643564519553), (16, 1758979995075846529721468677622016), (16, 40884207737448192898203331335595), (16, 60368116773072242827560760383536), (16, 2475881268460067130592739843), (16, 41211121383375994937924755931265), (16, 2207748262485908789888385370030080), (6, 2251774040502)]

theorem runT1_2_2_false (P : Params) (x tok : Nat) (xc tc : Nat) (n : Int) (t u : Tok) (y z cp : Nat) (ts : Nat → Nat) (vd vi vs : Value) (rest : List (Str × Value)) : endsT [70, 71, 72, 73, 74] (callT (evB (setRow P false) x tok) ⟨tabs (setRow P false) xc tc ++ [(y + 57, namesO ts cp), (z + 57, headO ts)], [], 0, 0, certT7, nm0 2 n t u y z vd vi vs rest⟩) = some (.ok .next, tabs (setRow P false) xc tc ++ [(y + 57, namesO ts cp), (z + 57, headO ts)], 110, [((n.fmod 4).toNat, 2), (2, (n.fmod 4).toNat), ((n.fmod 4).toNat, 2), (2, (n.fmod 4).toNat)], [some (.int n u), some (.ref (y + 57)), some (.ref (z + 57)), some vd, some vi, some vs], obsOf (callT (evB (setRow P false) x tok) ⟨tabs (setRow P false) xc tc ++ [(y + 57, namesO ts cp), (z + 57, headO ts)], [], 0, 0, certT7, nm0 2 n t u y z vd vi vs rest⟩)) := by kernel_rfl

theorem runT1_2_2_true (P : Params) (x tok : Nat) (xc tc : Nat) (n : Int) (t u : Tok) (y z cp : Nat) (ts : Nat → Nat) (vd vi vs : Value) (rest : List (Str × Value)) : endsT [70, 71, 72, 73, 74] (callT (evB (setRow P true) x tok) ⟨tabs (setRow P true) xc tc ++ [(y + 57, namesO ts cp), (z + 57, headO ts)], [], 0, 0, certT7, nm0 2 n t u y z vd vi vs rest⟩) = some (.ok .next, tabs (setRow P true) xc tc ++ [(y + 57, namesO ts cp), (z + 57, headO ts)], 110, [((n.fmod 4).toNat, 2), (2, (n.fmod 4).toNat), ((n.fmod 4).toNat, 2), (2, (n.fmod 4).toNat)], [some (.int n u), some (.ref (y + 57)), some (.ref (z + 57)), some vd, some vi, some vs], obsOf (callT (evB (setRow P true) x tok) ⟨tabs (setRow P true) xc tc ++ [(y + 57, namesO ts cp), (z + 57, headO ts)], [], 0, 0, certT7, nm0 2 n t u y z vd vi vs rest⟩)) := by kernel_rfl

noncomputable def certT8 : List (Option Nat) := decs [(16, 41837421719994326840050381225984), (16, 40884227232557697295062224879745), (16, 194951187283929820091711744), (16, 245305363389396748518632085012608), (16, 41839916942886011434666987455238), (16, 1277573615651945917692185165953), (16, 81763463714730166720675432120832), (16, 245290391168955103706853712855169), (16, 1058999981478246675956486), (16, 40564819358428363729354044391553), (16, 40946241204072340671257701924993), (16, 613902224519837069456727733190785), (16, 40884734105644649356730591953541), (16, 40884207738628860543587363864705), (16, 40884207738628860517199084798081), (16, 40884440013021050947965584147464), (16, 41203596267574818889994795502593), (16, 245305246425048867763961325076481), (16, 163536908933744678334154477191558), (16, 126270036322018719847554236545), (16, 122652682154589935391731747979776), (16, 19344002928827061850096131), (16, 58004996312494741558812091629697), (16, 572379179275946326134009337233537), (16, 2289414473125497980776564220052108), (16, 40884227080261378820891395103800), (16, 40564838550125750709761146372225), (16, 322039866282250092643564519553), (16, 1758979995075846529721468677622016), (16, 40884207737448192898203331335595), (16, 60368116773072242827560760383536), (16, 2475881268460067130592739843), (16, 41211121383375994937924755931265), (16, 2207748262485908789888385370030080), (6, 2251774040502)]

theorem runT1_2_3_false (P : Params) (x tok : Nat) (xc tc : Nat) (n : Int) (t u : Tok) (y z cp : Nat) (ts : Nat → Nat) (vd vi vs : Value) (rest : List (Str × Value)) : endsT [70, 71, 72, 73, 74] (callT (evB (setRow P false) x tok) ⟨tabs (setRow P false) xc tc ++ [(y + 57, namesO ts cp), (z + 57, headO ts)], [], 0, 0, certT8, nm0 2 n t u y z vd vi vs rest⟩) = some (.ok .next, tabs (setRow P false) xc tc ++ [(y + 57, namesO ts cp), (z + 57, headO ts)], 110, [((n.fmod 4).toNat, 3), (3, (n.fmod 4).toNat), ((n.fmod 4).toNat, 3), (3, (n.fmod 4).toNat)], [some (.int n u), some (.ref (y + 57)), some (.ref (z + 57)), some vd, some vi, some vs], obsOf (callT (evB (setRow P false) x tok) ⟨tabs (setRow P false) xc tc ++ [(y + 57, namesO ts cp), (z + 57, headO ts)], [], 0, 0, certT8, nm0 2 n t u y z vd vi vs rest⟩)) := by kernel_rfl

theorem runT1_2_3_true (P : Params) (x tok : Nat) (xc tc : Nat) (n : Int) (t u : Tok) (y z cp : Nat) (ts : Nat → Nat) (vd vi vs : Value) (rest : List (Str × Value)) : endsT [70, 71, 72, 73, 74] (callT (evB (setRow P true) x tok) ⟨tabs (setRow P true) xc tc ++ [(y + 57, namesO ts cp), (z + 57, headO ts)], [], 0, 0, certT8, nm0 2 n t u y z vd vi vs rest⟩) = some (.ok .next, tabs (setRow P true) xc tc ++ [(y + 57, namesO ts cp), (z + 57, headO ts)], 110, [((n.fmod 4).toNat, 3), (3, (n.fmod 4).toNat), ((n.fmod 4).toNat, 3), (3, (n.fmod 4).toNat)], [some (.int n u), some (.ref (y + 57)), some (.ref (z + 57)), some vd, some vi, some vs], obsOf (callT (evB (setRow P true) x tok) ⟨tabs (setRow P true) xc tc ++ [(y + 57, namesO ts cp), (z + 57, headO ts)], [], 0, 0, certT8, nm0 2 n t u y z vd vi vs rest⟩)) := by kernel_rfl

noncomputable def certT9 : List (Option Nat) := decs [(16, 41198664002536184452269228425216), (16, 40884207737439041583795415318786), (16, 40886722607754925460196266360961), (16, 316932143985898689461739520129), (16, 40899199483741495847500277366784), (16, 41834965182729087212249401016449), (16, 204413630994235446640433011097729), (16, 51993633964895903353608897157), (16, 122652682154589935391723694916096), (16, 2688803319142008071393395203), (16, 367958043874574287580584722055168), (16, 653159467142792514011597040141449), (16, 1144700968882170753092488104511504), (16, 40884227232557697982127126547996), (16, 40884227232557697858012446737415), (16, 43100121626139648223837490791425), (16, 446866666591859890456052195542146), (16, 870427780082766848037274884), (16, 122652681701242756413931399414276), (16, 19495146616894667744100484), (16, 17430273728853549250543601352704), (16, 284273142932104700540863568248832), (16, 245305265919743246663922030215168), (16, 405967600098291802420875572118278), (16, 731763785866079725652546215429773), (16, 284412883487426500326905207884050), (16, 40884227232557697862410224812168), (16, 19961935439019205913709920392), (16, 899452998485628988799779661185160), (16, 6549141665865992013564310), (16, 1962442907162332585533284691214465), (16, 40884227688270566207919040976944), (16, 1277573615651945913258973610497), (16, 40881731857369768522406753747456), (16, 2658742495959022097674202588905472)]

theorem runT1_3_0_false (P : Params) (x tok : Nat) (xc tc : Nat) (n : Int) (t u : Tok) (y z cp : Nat) (ts : Nat → Nat) (vd vi vs : Value) (rest : List (Str × Value)) : endsT [72, 73, 74, 75, 76] (callT (evB (setRow P false) x tok) ⟨tabs (setRow P false) xc tc ++ [(y + 57, namesO ts cp), (z + 57, headO ts)], [], 0, 0, certT9, nm0 3 n t u y z vd vi vs rest⟩) = some (.ok .next, tabs (setRow P false) xc tc ++ [(y + 57, namesO ts cp), (z + 57, headO ts)], 114, [((n.fmod 3).toNat, 0), (0, (n.fmod 3).toNat), ((n.fmod 3).toNat, 0), (0, (n.fmod 3).toNat)], [some (.int n u), some (.ref (y + 57)), some (.ref (z + 57)), some vd, some vi, some vs], obsOf (callT (evB (setRow P false) x tok) ⟨tabs (setRow P false) xc tc ++ [(y + 57, namesO ts cp), (z + 57, headO ts)], [], 0, 0, certT9, nm0 3 n t u y z vd vi vs rest⟩)) := by kernel_rfl

theorem runT1_3_0_true (P : Params) (x tok : Nat) (xc tc : Nat) (n : Int) (t u : Tok) (y z cp : Nat) (ts : Nat → Nat) (vd vi vs : Value) (rest : List (Str × Value)) : endsT [72, 73, 74, 75, 76] (callT (evB (setRow P true) x tok) ⟨tabs (setRow P true) xc tc ++ [(y + 57, namesO ts cp), (z + 57, headO ts)], [], 0, 0, certT9, nm0 3 n t u y z vd vi vs rest⟩) = some (.ok .next, tabs (setRow P true) xc tc ++ [(y + 57, namesO ts cp), (z + 57, headO ts)], 114, [((n.fmod 3).toNat, 0), (0, (n.fmod 3).toNat), ((n.fmod 3).toNat, 0), (0, (n.fmod 3).toNat)], [some (.int n u), some (.ref (y + 57)), some (.ref (z + 57)), some vd, some vi, some vs], obsOf (callT (evB (setRow P true) x tok) ⟨tabs (setRow P true) xc tc ++ [(y + 57, namesO ts cp), (z + 57, headO ts)], [], 0, 0, certT9, nm0 3 n t u y z vd vi vs rest⟩)) := by kernel_rfl

noncomputable def certT10 : List (Option Nat) := decs [(16, 81763483209839525300163730997248), (16, 40884207737439041583795415318786), (16, 40886722607754997517790304288897), (16, 316932143985898689461739520129), (16, 40899199483741495847500277366784), (16, 41834965182729087212249401016449), (16, 204413630994235446640433011097729), (16, 51993633964895903353608897157), (16, 122652682154589935391723694916096), (16, 2688803319142008071393395203), (16, 367958043874574287580584722055168), (16, 653159467142792514011597040141449), (16, 1144700968882170753092488104511504), (16, 40884227232557697982127126547996), (16, 40884227232557697858012446737415), (16, 43100121626139648223837490791425), (16, 446866666591859890456052195542146), (16, 870427780082766848037274884), (16, 122652681701242756413931399414276), (16, 19495146616894667744100484), (16, 17430273728853549250543601352704), (16, 284273142932104700540863568248832), (16, 245305265919743246663922030215168), (16, 405967600098291802420875572118278), (16, 731763785866079725652546215429773), (16, 284412883487426500326905207884050), (16, 40884227232557697862410224812168), (16, 19961935439019205913709920392), (16, 899452998485628988799779661185160), (16, 6549141665865992013564310), (16, 1962442907162332585533284691214465), (16, 40884227688270566207919040976944), (16, 1277573615651945913258973610497), (16, 40881731857369768522406753747456), (16, 2658742495959022097674202588905472)]

theorem runT1_3_1_false (P : Params) (x tok : Nat) (xc tc : Nat) (n : Int) (t u : Tok) (y z cp : Nat) (ts : Nat → Nat) (vd vi vs : Value) (rest : List (Str × Value)) : endsT [72, 73, 74, 75, 76] (callT (evB (setRow P false) x tok) ⟨tabs (setRow P false) xc tc ++ [(y + 57, namesO ts cp), (z + 57, headO ts)], [], 0, 0, certT10, nm0 3 n t u y z vd vi vs rest⟩) = some (.ok .next, tabs (setRow P false) xc tc ++ [(y + 57, namesO ts cp), (z + 57, headO ts)], 114, [((n.fmod 3).toNat, 1), (1, (n.fmod 3).toNat), ((n.fmod 3).toNat, 1), (1, (n.fmod 3).toNat)], [some (.int n u), some (.ref (y + 57)), some (.ref (z + 57)), some vd, some vi, some vs], obsOf (callT (evB (setRow P false) x tok) ⟨tabs (setRow P false) xc tc ++ [(y + 57, namesO ts cp), (z + 57, headO ts)], [], 0, 0, certT10, nm0 3 n t u y z vd vi vs rest⟩)) := by kernel_rfl

theorem runT1_3_1_true (P : Params) (x tok : Nat) (xc tc : Nat) (n : Int) (t u : Tok) (y z cp : Nat) (ts : Nat → Nat) (vd vi vs : Value) (rest : List (Str × Value)) : endsT [72, 73, 74, 75, 76] (callT (evB (setRow P true) x tok) ⟨tabs (setRow P true) xc tc ++ [(y + 57, namesO ts cp), (z + 57, headO ts)], [], 0, 0, certT10, nm0 3 n t u y z vd vi vs rest⟩) = some (.ok .next, tabs (setRow P true) xc tc ++ [(y + 57, namesO ts cp), (z + 57, headO ts)], 114, [((n.fmod 3).toNat, 1), (1, (n.fmod 3).toNat), ((n.fmod 3).toNat, 1), (1, (n.fmod 3).toNat)], [some (.int n u), some (.ref (y + 57)), some (.ref (z + 57)), some vd, some vi, some vs], obsOf (callT (evB (setRow P true) x tok) ⟨tabs (setRow P true) xc tc ++ [(y + 57, namesO ts cp), (z + 57, headO ts)], [], 0, 0, certT10, nm0 3 n t u y z vd vi vs rest⟩)) := by kernel_rfl

noncomputable def certT11 : List (Option Nat) := decs [(16, 122328302417142866148058233569280), (16, 40881731857378917567319326621954), (16, 41203635257821277118699474534529), (16, 319388530136354360690638602369), (16, 286189590627903885010517907996673), (16, 40884227236117919468670796447873), (16, 81456454589737354684321478230148), (16, 770734060466247798849739165876869), (16, 122660167823209216690142004117504), (16, 44053353580822660241709387006339), (16, 367938082090250996393847927341056), (16, 40884227232788717908897445332105), (16, 204421137688224415172363173496845), (16, 40884227232559658736814892977692), (16, 40884227232557625241900876415105), (16, 19961935439019205948352774273), (16, 324894906925489003959347562184840), (16, 13627263448761937337494360098178), (16, 122652740183028844549899875844096), (16, 319408482171202236319342330243), (16, 1277554121012904984992746045440), (16, 40891693863030869653494878437429), (16, 243708323116768859094384228959105), (16, 40884227296337532818141032317702), (16, 204421272933230814401169432200449), (16, 2330400952255398564159718661851397), (16, 40884227232557697295096853169025), (16, 327056350232890669690223335702657), (16, 899442666704542726041386531028992), (16, 107301137053548413184597396246), (16, 1962442900004405516503110326960128), (16, 40891693632192670111540896864304), (16, 162578684702171328713038317502593), (16, 153523390678226928926724), (16, 2699272363156375892649405302440065), (2, 8517)]

theorem runT1_3_2_false (P : Params) (x tok : Nat) (xc tc : Nat) (n : Int) (t u : Tok) (y z cp : Nat) (ts : Nat → Nat) (vd vi vs : Value) (rest : List (Str × Value)) : endsT [70, 71, 72, 73, 74] (callT (evB (setRow P false) x tok) ⟨tabs (setRow P false) xc tc ++ [(y + 57, namesO ts cp), (z + 57, headO ts)], [], 0, 0, certT11, nm0 3 n t u y z vd vi vs rest⟩) = some (.ok .next, tabs (setRow P false) xc tc ++ [(y + 57, namesO ts cp), (z + 57, headO ts)], 114, [((n.fmod 3).toNat, 2), (2, (n.fmod 3).toNat), ((n.fmod 3).toNat, 2), (2, (n.fmod 3).toNat)], [some (.int n u), some (.ref (y + 57)), some (.ref (z + 57)), some vd, some vi, some vs], obsOf (callT (evB (setRow P false) x tok) ⟨tabs (setRow P false) xc tc ++ [(y + 57, namesO ts cp), (z + 57, headO ts)], [], 0, 0, certT11, nm0 3 n t u y z vd vi vs rest⟩)) := by kernel_rfl

theorem runT1_3_2_true (P : Params) (x tok : Nat) (xc tc : Nat) (n : Int) (t u : Tok) (y z cp : Nat) (ts : Nat → Nat) (vd vi vs : Value) (rest : List (Str × Value)) : endsT [70, 71, 72, 73, 74] (callT (evB (setRow P true) x tok) ⟨tabs (setRow P true) xc tc ++ [(y + 57, namesO ts cp), (z + 57, headO ts)], [], 0, 0, certT11, nm0 3 n t u y z vd vi vs rest⟩) = some (.ok .next, tabs (setRow P true) xc tc ++ [(y + 57, namesO ts cp), (z + 57, headO ts)], 114, [((n.fmod 3).toNat, 2), (2, (n.fmod 3).toNat), ((n.fmod 3).toNat, 2), (2, (n.fmod 3).toNat)], [some (.int n u), some (.ref (y + 57)), some (.ref (z + 57)), some vd, some vi, some vs], obsOf (callT (evB (setRow P true) x tok) ⟨tabs (setRow P true) xc tc ++ [(y + 57, namesO ts cp), (z + 57, headO ts)], [], 0, 0, certT11, nm0 3 n t u y z vd vi vs rest⟩)) := by kernel_rfl

noncomputable def certT12 : List (Option Nat) := decs [(16, 40564838702422069751520876822528), (16, 122652681393061863448215396827265), (16, 40884227231367810257943229677955), (16, 40884227232557697862410224812161), (16, 735878620872452838893231143927937), (16, 40881731858541062439530081323282), (16, 40884227232669249826607128069761), (16, 2495378739074526329218023553), (16, 41211121383375994937924755931265), (16, 1277554120791544056108231426048), (16, 40891693863030869653494878437405), (16, 40881731857370414771187950289793), (16, 367958045093019276222942364565632), (16, 45675347607691838263345100735366), (16, 1390063725906692143410079680710785), (16, 40901674449986376190694213062946), (16, 40901558393107693186293440708609), (16, 367957908483137413253886447190017), (16, 975575786917392753558064136329), (16, 2149945398878647478258603892146176), (16, 40884285565608269517062431309824), (16, 81763463714720869021617915757063), (16, 245290391216178768535550248878209), (16, 40564820266303322326141178528518), (16, 245305363395345824049751146905601), (16, 531494953555624238443542586917254), (16, 735916090170570022524603206959233), (16, 40884363539520211226722620967186), (16, 40884362632249494700912420077568), (16, 365719828788502027769312536707072), (16, 2455169770606128171329647949268105), (16, 40567314430195049839965007222574), (16, 2813353372565968483150387346407424), (16, 40891654872793411841758598357701), (16, 81456454589737354684321478213633), (16, 152296319072580965319301), (12, 10365046460846024973713537)]

noncomputable def certT13 : List (Option Nat) := decs [(16, 40564838702422069751520876822528), (16, 122652681393061863448215396827265), (16, 40884227232557697858012176236675), (16, 122013865647164379558233858129920), (16, 40564819228721317966531327476099), (16, 531494954023249200712028440772609), (16, 40884285563228494268302532560525), (16, 162259354806118615585542713180289), (16, 40886722303143767959421063348481), (16, 245305362481514586445268356435328), (16, 40881731857425034427606950265219), (16, 40884207737448192898203331330187), (16, 40884232226515958556347026523273), (16, 204446128904997781828102225346689), (16, 40884227271823989247565682475653), (16, 40884227231367882869932715688065), (16, 327056350232890670257811853688961), (16, 973875069013521626191721385820160), (16, 319427517993310696253692085249), (16, 123610905766296868761086048862259), (16, 40891713358149811325608409481603), (16, 162259285745050579613795066314753), (16, 163217500905004322426061849575428), (16, 40881731858541062439530095722625), (16, 40885426943878522661181386228481), (16, 206661983089842746589844825194625), (16, 2575706308344035104848358649447045), (16, 40884227232548402432815851921343), (16, 40884207738619561146920397193345), (16, 730166765387213692528342052373512), (16, 1758021829485337202768731926006550), (16, 1962325624527306526126326383902720), (16, 163213835822655400447189952763952), (16, 40881732008476198275177072574593), (16, 2515327232872070003535446529), (16, 2086053812935712973619239210467328), (4, 143843915)]

theorem runT1_4_0_false_false (P : Params) (x tok : Nat) (xc tc : Nat) (n : Int) (t u : Tok) (y z cp : Nat) (ts : Nat → Nat) (vd vi vs : Value) (rest : List (Str × Value)) : endsT [78, 79, 80, 81, 82] (callT (evB (setTwo P false false) x tok) ⟨tabs (setTwo P false false) xc tc ++ [(y + 57, namesO ts cp), (z + 57, headO ts)], [], 0, 0, certT12, nm0 4 n t u y z vd vi vs rest⟩) = some (.ok .next, tabs (setTwo P false false) xc tc ++ [(y + 57, namesO ts cp), (z + 57, headO ts)], 114, [((n.fmod 3).toNat, 0), (0, (n.fmod 3).toNat), ((n.fmod 3).toNat, 0), (0, (n.fmod 3).toNat)], [some (.int n u), some (.ref (y + 57)), some (.ref (z + 57)), some vd, some vi, some vs], obsOf (callT (evB (setTwo P false false) x tok) ⟨tabs (setTwo P false false) xc tc ++ [(y + 57, namesO ts cp), (z + 57, headO ts)], [], 0, 0, certT12, nm0 4 n t u y z vd vi vs rest⟩)) := by kernel_rfl

theorem runT1_4_0_false_true (P : Params) (x tok : Nat) (xc tc : Nat) (n : Int) (t u : Tok) (y z cp : Nat) (ts : Nat → Nat) (vd vi vs : Value) (rest : List (Str × Value)) : endsT [78, 79, 80, 81, 82] (callT (evB (setTwo P false true) x tok) ⟨tabs (setTwo P false true) xc tc ++ [(y + 57, namesO ts cp), (z + 57, headO ts)], [], 0, 0, certT13, nm0 4 n t u y z vd vi vs rest⟩) = some (.ok .next, tabs (setTwo P false true) xc tc ++ [(y + 57, namesO ts cp), (z + 57, headO ts)], 114, [((n.fmod 3).toNat, 0), (0, (n.fmod 3).toNat), ((n.fmod 3).toNat, 0), (0, (n.fmod 3).toNat)], [some (.int n u), some (.ref (y + 57)), some (.ref (z + 57)), some vd, some vi, some vs], obsOf (callT (evB (setTwo P false true) x tok) ⟨tabs (setTwo P false true) xc tc ++ [(y + 57, namesO ts cp), (z + 57, headO ts)], [], 0, 0, certT13, nm0 4 n t u y z vd vi vs rest⟩)) := by kernel_rfl

theorem runT1_4_0_true_false (P : Params) (x tok : Nat) (xc tc : Nat) (n : Int) (t u : Tok) (y z cp : Nat) (ts : Nat → Nat) (vd vi vs : Value) (rest : List (Str × Value)) : endsT [78, 79, 80, 81, 82] (callT (evB (setTwo P true false) x tok) ⟨tabs (setTwo P true false) xc tc ++ [(y + 57, namesO ts cp), (z + 57, headO ts)], [], 0, 0, certT12, nm0 4 n t u y z vd vi vs rest⟩) = some (.ok .next, tabs (setTwo P true false) xc tc ++ [(y + 57, namesO ts cp), (z + 57, headO ts)], 114, [((n.fmod 3).toNat, 0), (0, (n.fmod 3).toNat), ((n.fmod 3).toNat, 0), (0, (n.fmod 3).toNat)], [some (.int n u), some (.ref (y + 57)), some (.ref (z + 57)), some vd, some vi, some vs], obsOf (callT (evB (setTwo P true false) x tok) ⟨tabs (setTwo P true false) xc tc ++ [(y + 57, namesO ts cp), (z + 57, headO ts)], [], 0, 0, certT12, nm0 4 n t u y z vd vi vs rest⟩)) := by kernel_rfl

theorem runT1_4_0_true_true (P : Params) (x tok : Nat) (xc tc : Nat) (n : Int) (t u : Tok) (y z cp : Nat) (ts : Nat → Nat) (vd vi vs : Value) (rest : List (Str × Value)) : endsT [78, 79, 80, 81, 82] (callT (evB (setTwo P true true) x tok) ⟨tabs (setTwo P true true) xc tc ++ [(y + 57, namesO ts cp), (z + 57, headO ts)], [], 0, 0, certT13, nm0 4 n t u y z vd vi vs rest⟩) = some (.ok .next, tabs (setTwo P true true) xc tc ++ [(y + 57, namesO ts cp), (z + 57, headO ts)], 114, [((n.fmod 3).toNat, 0), (0, (n.fmod 3).toNat), ((n.fmod 3).toNat, 0), (0, (n.fmod 3).toNat)], [some (.int n u), some (.ref (y + 57)), some (.ref (z + 57)), some vd, some vi, some vs], obsOf (callT (evB (setTwo P true true) x tok) ⟨tabs (setTwo P true true) xc tc ++ [(y + 57, namesO ts cp), (z + 57, headO ts)], [], 0, 0, certT13, nm0 4 n t u y z vd vi vs rest⟩)) := by kernel_rfl

noncomputable def certT14 : List (Option Nat) := decs [(16, 40564838702422069751520876822528), (16, 122652681393061863448215396827266), (16, 81768454312809925905283461202307), (16, 40884207737439186833679761588611), (16, 40884227232566920667133707829377), (16, 122652681697673093587334017859713), (16, 122018856397558906261609268658563), (16, 316932143985898716057800311171), (16, 40914171734925293832555701747712), (16, 41834965182729087212249401016449), (16, 204413630994235446640433011097729), (16, 66848914436320466652398387845), (16, 122652682154589935391725305528832), (16, 2688803319142008071393395203), (16, 367958043874574287580584722055168), (16, 653159467142792517389296760669321), (16, 1389991360026333142282100174751760), (16, 40884227232557698008723187339554), (16, 40884227232557697858012446737415), (16, 43100121626139648223837490791425), (16, 446866666591859890456052195542146), (16, 986484658765771248809067780), (16, 122652681701242756413931411997188), (16, 19495146616894667744100484), (16, 19331749629195896730488376688640), (16, 284273142932104700540863568248832), (16, 245305265919743246663922030215168), (16, 405967600098292234766439799685894), (16, 731763785866079725652546215429773), (16, 284427855738610294907666474240274), (16, 40884227232557697862410224812168), (16, 19961935439019205913709920392), (16, 899452998485628988799779661185160), (16, 6549141665865992019954070), (16, 1962442907162332585533284691214465), (16, 40884227688271001957779049764912), (16, 1277573615651945913258973610497), (16, 40881731857369768522406753747456), (16, 2782345973178388859606181317967872)]

noncomputable def certT15 : List (Option Nat) := decs [(16, 40564838702422069751520876822528), (16, 122652681393061863448215396827266), (16, 122652681545367477950392888770947), (16, 40884227232557625237468996485251), (16, 40884227232557697862479210610817), (16, 81768434970015258815290375455105), (16, 5749344454438986297907370574210), (16, 531494720081816029375651366567936), (16, 122013865647164379558649421579917), (16, 162578684702171401346776442093700), (16, 153523390678226928926724), (16, 560946339561159881843032322), (16, 17350655696539593538871067398), (16, 2476032374889833133171032064), (16, 1381439690186892204235317890269312), (16, 695031551049429515455790898495617), (16, 51424692065951479341602138310545), (16, 40564838702487065701343089934465), (16, 40564838702486633355778862366849), (16, 44370422344134651034104202657921), (16, 81129638418240984710206715871361), (16, 243388923252990781752822558900354), (16, 163536966501753505050848428917510), (16, 2393326828758381432765484632130052), (16, 122660167823209216866063864561664), (16, 316932143985902581351975010691), (16, 163534472040389678496481013678080), (16, 572346743205910253532610662777023), (16, 614221632564128538922699047765774), (16, 40881732009666521050833323286463), (16, 316912802363176823092022362241), (16, 84004310633557889341664759136384), (16, 1880674454837815935988694807216129), (16, 40564819358428363729354133001646), (16, 2821011679017951737674193003348097), (16, 40564838702449739867631449587909), (16, 204421135704709353994678379233280), (16, 2207616015520353187868473225642114), (8, 38612807023696694)]

theorem runT1_4_1_false_false (P : Params) (x tok : Nat) (xc tc : Nat) (n : Int) (t u : Tok) (y z cp : Nat) (ts : Nat → Nat) (vd vi vs : Value) (rest : List (Str × Value)) : endsT [78, 79, 80, 81, 82] (callT (evB (setTwo P false false) x tok) ⟨tabs (setTwo P false false) xc tc ++ [(y + 57, namesO ts cp), (z + 57, headO ts)], [], 0, 0, certT14, nm0 4 n t u y z vd vi vs rest⟩) = some (.ok .next, tabs (setTwo P false false) xc tc ++ [(y + 57, namesO ts cp), (z + 57, headO ts)], 122, [((n.fmod 3).toNat, 1), (1, (n.fmod 3).toNat), ((n.fmod 3).toNat, 1), (1, (n.fmod 3).toNat)], [some (.int n u), some (.ref (y + 57)), some (.ref (z + 57)), some vd, some vi, some vs], obsOf (callT (evB (setTwo P false false) x tok) ⟨tabs (setTwo P false false) xc tc ++ [(y + 57, namesO ts cp), (z + 57, headO ts)], [], 0, 0, certT14, nm0 4 n t u y z vd vi vs rest⟩)) := by kernel_rfl

theorem runT1_4_1_false_true (P : Params) (x tok : Nat) (xc tc : Nat) (n : Int) (t u : Tok) (y z cp : Nat) (ts : Nat → Nat) (vd vi vs : Value) (rest : List (Str × Value)) : endsT [78, 79, 80, 81, 82] (callT (evB (setTwo P false true) x tok) ⟨tabs (setTwo P false true) xc tc ++ [(y + 57, namesO ts cp), (z + 57, headO ts)], [], 0, 0, certT15, nm0 4 n t u y z vd vi vs rest⟩) = some (.ok .next, tabs (setTwo P false true) xc tc ++ [(y + 57, namesO ts cp), (z + 57, headO ts)], 122, [((n.fmod 3).toNat, 1), (1, (n.fmod 3).toNat), ((n.fmod 3).toNat, 1), (1, (n.fmod 3).toNat)], [some (.int n u), some (.ref (y + 57)), some (.ref (z + 57)), some vd, some vi, some vs], obsOf (callT (evB (setTwo P false true) x tok) ⟨tabs (setTwo P false true) xc tc ++ [(y + 57, namesO ts cp), (z + 57, headO ts)], [], 0, 0, certT15, nm0 4 n t u y z vd vi vs rest⟩)) := by kernel_rfl

theorem runT1_4_1_true_false (P : Params) (x tok : Nat) (xc tc : Nat) (n : Int) (t u : Tok) (y z cp : Nat) (ts : Nat → Nat) (vd vi vs : Value) (rest : List (Str × Value)) : endsT [78, 79, 80, 81, 82] (callT (evB (setTwo P true false) x tok) ⟨tabs (setTwo P true false) xc tc ++ [(y + 57, namesO ts cp), (z + 57, headO ts)], [], 0, 0, certT14, nm0 4 n t u y z vd vi vs rest⟩) = some (.ok .next, tabs (setTwo P true false) xc tc ++ [(y + 57, namesO ts cp), (z + 57, headO ts)], 122, [((n.fmod 3).toNat, 1), (1, (n.fmod 3).toNat), ((n.fmod 3).toNat, 1), (1, (n.fmod 3).toNat)], [some (.int n u), some (.ref (y + 57)), some (.ref (z + 57)), some vd, some vi, some vs], obsOf (callT (evB (setTwo P true false) x tok) ⟨tabs (setTwo P true false) xc tc ++ [(y + 57, namesO ts cp), (z + 57, headO ts)], [], 0, 0, certT14, nm0 4 n t u y z vd vi vs rest⟩)) := by kernel_rfl

theorem runT1_4_1_true_true (P : Params) (x tok : Nat) (xc tc : Nat) (n : Int) (t u : Tok) (y z cp : Nat) (ts : Nat → Nat) (vd vi vs : Value) (rest : List (Str × Value)) : endsT [78, 79, 80, 81, 82] (callT (evB (setTwo P true true) x tok) ⟨tabs (setTwo P true true) xc tc ++ [(y + 57, namesO ts cp), (z + 57, headO ts)], [], 0, 0, certT15, nm0 4 n t u y z vd vi vs rest⟩) = some (.ok .next, tabs (setTwo P true true) xc tc ++ [(y + 57, namesO ts cp), (z + 57, headO ts)], 122, [((n.fmod 3).toNat, 1), (1, (n.fmod 3).toNat), ((n.fmod 3).toNat, 1), (1, (n.fmod 3).toNat)], [some (.int n u), some (.ref (y + 57)), some (.ref (z + 57)), some vd, some vi, some vs], obsOf (callT (evB (setTwo P true true) x tok) ⟨tabs (setTwo P true true) xc tc ++ [(y + 57, namesO ts cp), (z + 57, headO ts)], [], 0, 0, certT15, nm0 4 n t u y z vd vi vs rest⟩)) := by kernel_rfl

noncomputable def certT16 : List (Option Nat) := decs [(16, 40564838702422069751520876822528), (16, 122652681393061863448215396827267), (16, 81768454312809925905283461202307), (16, 81768454312809925905283461202307), (16, 40884207737439186833679761588611), (16, 40884227232576144039170562605185), (16, 122652681697673093587334017859713), (16, 122652681697673020962357620261251), (16, 122018856397558906261609268658563), (16, 316932143985898716057800311171), (16, 40914171734925293832555701747712), (16, 41834965182729087212249401016449), (16, 204413630994235446640433011097729), (16, 66848914436320466652398387845), (16, 122652682154589935391725305528832), (16, 2688803319142008071393395203), (16, 367958043874574287580584722055168), (16, 653159467142792517389296760669321), (16, 1389991360026333142282100174751760), (16, 40884227232557698008723187339554), (16, 40884227232557697858012446737415), (16, 43100121626139648223837490791425), (16, 446866666591859890456052195542146), (16, 986484658765771248809067780), (16, 122652681701242756413931411997188), (16, 19495146616894667744100484), (16, 19331749629195896730488376688640), (16, 284273142932104700540863568248832), (16, 245305265919743246663922030215168), (16, 405967600098292234766439799685894), (16, 731763785866079725652546215429773), (16, 284427855738610294907666474240274), (16, 40884227232557697862410224812168), (16, 19961935439019205913709920392), (16, 899452998485628988799779661185160), (16, 6549141665865992019954070), (16, 1962442907162332585533284691214465), (16, 40884227688271001957779049764912), (16, 1277573615651945913258973610497), (16, 40881731857369768522406753747456), (16, 2782345973178388859606181317967872)]

noncomputable def certT17 : List (Option Nat) := decs [(16, 40564838702422069751520876822528), (16, 122652681393061863448215396827267), (16, 122652681545367477950392888770947), (16, 122652681545367477950392888770947), (16, 40884227232557625237468996485251), (16, 40884227232557697862513570349185), (16, 81768434970015258815290375455105), (16, 81768434970015258815290375455106), (16, 5749344454438986297907370574210), (16, 531494720081816029375651366567936), (16, 122013865647164379558649421579917), (16, 162578684702171401346776442093700), (16, 153523390678226928926724), (16, 560946339561159881843032322), (16, 17350655696539593538871067398), (16, 2476032374889833133171032064), (16, 1381439690186892204235317890269312), (16, 695031551049429515455790898495617), (16, 51424692065951479341602138310545), (16, 40564838702487065701343089934465), (16, 40564838702486633355778862366849), (16, 44370422344134651034104202657921), (16, 81129638418240984710206715871361), (16, 243388923252990781752822558900354), (16, 163536966501753505050848428917510), (16, 2393326828758381432765484632130052), (16, 122660167823209216866063864561664), (16, 316932143985902581351975010691), (16, 163534472040389678496481013678080), (16, 572346743205910253532610662777023), (16, 614221632564128538922699047765774), (16, 40881732009666521050833323286463), (16, 316912802363176823092022362241), (16, 84004310633557889341664759136384), (16, 1880674454837815935988694807216129), (16, 40564819358428363729354133001646), (16, 2821011679017951737674193003348097), (16, 40564838702449739867631449587909), (16, 204421135704709353994678379233280), (16, 2207616015520353187868473225642114), (8, 38612807023696694)]

theorem runT1_4_2_false_false (P : Params) (x tok : Nat) (xc tc : Nat) (n : Int) (t u : Tok) (y z cp : Nat) (ts : Nat → Nat) (vd vi vs : Value) (rest : List (Str × Value)) : endsT [78, 79, 80, 81, 82] (callT (evB (setTwo P false false) x tok) ⟨tabs (setTwo P false false) xc tc ++ [(y + 57, namesO ts cp), (z + 57, headO ts)], [], 0, 0, certT16, nm0 4 n t u y z vd vi vs rest⟩) = some (.ok .next, tabs (setTwo P false false) xc tc ++ [(y + 57, namesO ts cp), (z + 57, headO ts)], 130, [((n.fmod 3).toNat, 2), (2, (n.fmod 3).toNat), ((n.fmod 3).toNat, 2), (2, (n.fmod 3).toNat)], [some (.int n u), some (.ref (y + 57)), some (.ref (z + 57)), some vd, some vi, some vs], obsOf (callT (evB (setTwo P false false) x tok) ⟨tabs (setTwo P false false) xc tc ++ [(y + 57, namesO ts cp), (z + 57, headO ts)], [], 0, 0, certT16, nm0 4 n t u y z vd vi vs rest⟩)) := by kernel_rfl

theorem runT1_4_2_false_true (P : Params) (x tok : Nat) (xc tc : Nat) (n : Int) (t u : Tok) (y z cp : Nat) (ts : Nat → Nat) (vd vi vs : Value) (rest : List (Str × Value)) : endsT [78, 79, 80, 81, 82] (callT (evB (setTwo P false true) x tok) ⟨tabs (setTwo P false true) xc tc ++ [(y + 57, namesO ts cp), (z + 57, headO ts)], [], 0, 0, certT17, nm0 4 n t u y z vd vi vs rest⟩) = some (.ok .next, tabs (setTwo P false true) xc tc ++ [(y + 57, namesO ts cp), (z + 57, headO ts)], 130, [((n.fmod 3).toNat, 2), (2, (n.fmod 3).toNat), ((n.fmod 3).toNat, 2), (2, (n.fmod 3).toNat)], [some (.int n u), some (.ref (y + 57)), some (.ref (z + 57)), some vd, some vi, some vs], obsOf (callT (evB (setTwo P false true) x tok) ⟨tabs (setTwo P false true) xc tc ++ [(y + 57, namesO ts cp), (z + 57, headO ts)], [], 0, 0, certT17, nm0 4 n t u y z vd vi vs rest⟩)) := by kernel_rfl

theorem runT1_4_2_true_false (P : Params) (x tok : Nat) (xc tc : Nat) (n : Int) (t u : Tok) (y z cp : Nat) (ts : Nat → Nat) (vd vi vs : Value) (rest : List (Str × Value)) : endsT [78, 79, 80, 81, 82] (callT (evB (setTwo P true false) x tok) ⟨tabs (setTwo P true false) xc tc ++ [(y + 57, namesO ts cp), (z + 57, headO ts)], [], 0, 0, certT16, nm0 4 n t u y z vd vi vs rest⟩) = some (.ok .next, tabs (setTwo P true false) xc tc ++ [(y + 57, namesO ts cp), (z + 57, headO ts)], 130, [((n.fmod 3).toNat, 2), (2, (n.fmod 3).toNat), ((n.fmod 3).toNat, 2), (2, (n.fmod 3).toNat)], [some (.int n u), some (.ref (y + 57)), some (.ref (z + 57)), some vd, some vi, some vs], obsOf (callT (evB (setTwo P true false) x tok) ⟨tabs (setTwo P true false) xc tc ++ [(y + 57, namesO ts cp), (z + 57, headO ts)], [], 0, 0, certT16, nm0 4 n t u y z vd vi vs rest⟩)) := by kernel_rfl

theorem runT1_4_2_true_true (P : Params) (x tok : Nat) (xc tc : Nat) (n : Int) (t u : Tok) (y z cp : Nat) (ts : Nat → Nat) (vd vi vs : Value) (rest : List (Str × Value)) : endsT [78, 79, 80, 81, 82] (callT (evB (setTwo P true true) x tok) ⟨tabs (setTwo P true true) xc tc ++ [(y + 57, namesO ts cp), (z + 57, headO ts)], [], 0, 0, certT17, nm0 4 n t u y z vd vi vs rest⟩) = some (.ok .next, tabs (setTwo P true true) xc tc ++ [(y + 57, namesO ts cp), (z + 57, headO ts)], 130, [((n.fmod 3).toNat, 2), (2, (n.fmod 3).toNat), ((n.fmod 3).toNat, 2), (2, (n.fmod 3).toNat)], [some (.int n u), some (.ref (y + 57)), some (.ref (z + 57)), some vd, some vi, some vs], obsOf (callT (evB (setTwo P true true) x tok) ⟨tabs (setTwo P true true) xc tc ++ [(y + 57, namesO ts cp), (z + 57, headO ts)], [], 0, 0, certT17, nm0 4 n t u y z vd vi vs rest⟩)) := by kernel_rfl

noncomputable def certT18 : List (Option Nat) := decs [(16, 40884227232557697862444850872320), (16, 40884227232557697862444850872320), (16, 19344002928826822684672774), (16, 40891693558419637812227838328961), (16, 9981043872280827481970196609), (16, 41203596267574670275399779385476), (16, 245305246424790613346929390895105), (16, 40564819215576778203193304727942), (16, 40881731858541062439530081043841), (16, 40884634345457700673121522173057), (16, 207620207165577931344603198275713), (16, 40901674449986376190694212584069), (16, 40901558393107693186293440708609), (16, 367957908483137413253886447190017), (16, 975575786917392753558064136329), (16, 1663167568391006523392741406146560), (16, 40884285565608269517062431309824), (16, 81763463714720869021617915757063), (16, 245290391202011669086941288071297), (16, 40564820266303322326141178528518), (16, 245305363395345824049751146905601), (16, 531494953555624238443539365691782), (16, 735916090170570022524603206959233), (16, 40884227080261378820891308493074), (16, 40564838550125750709761146372225), (16, 322039866282250092643564519553), (16, 1758021829485337179489974821947648), (16, 1962325624527306526126326383902720), (16, 162578684854495534832568670885936), (16, 162259354806118615585542442598529), (16, 2495222891685166535791427841), (10, 474313722619561525248)]

theorem runT1_5_0_false (P : Params) (x tok : Nat) (xc tc : Nat) (n : Int) (t u : Tok) (y z cp : Nat) (ts : Nat → Nat) (vd vi vs : Value) (rest : List (Str × Value)) : endsT [66, 67, 68, 69, 70] (callT (evB (setRow P false) x tok) ⟨tabs (setRow P false) xc tc ++ [(y + 57, namesO ts cp), (z + 57, headO ts)], [], 0, 0, certT18, nm0 5 n t u y z vd vi vs rest⟩) = some (.ok .next, tabs (setRow P false) xc tc ++ [(y + 57, namesO ts cp), (z + 57, headO ts)], 114, [((n.fmod 2).toNat, 0), (0, (n.fmod 2).toNat), ((n.fmod 2).toNat, 0), (0, (n.fmod 2).toNat)], [some (.int n u), some (.ref (y + 57)), some (.ref (z + 57)), some vd, some vi, some vs], obsOf (callT (evB (setRow P false) x tok) ⟨tabs (setRow P false) xc tc ++ [(y + 57, namesO ts cp), (z + 57, headO ts)], [], 0, 0, certT18, nm0 5 n t u y z vd vi vs rest⟩)) := by kernel_rfl

theorem runT1_5_0_true (P : Params) (x tok : Nat) (xc tc : Nat) (n : Int) (t u : Tok) (y z cp : Nat) (ts : Nat → Nat) (vd vi vs : Value) (rest : List (Str × Value)) : endsT [66, 67, 68, 69, 70] (callT (evB (setRow P true) x tok) ⟨tabs (setRow P true) xc tc ++ [(y + 57, namesO ts cp), (z + 57, headO ts)], [], 0, 0, certT18, nm0 5 n t u y z vd vi vs rest⟩) = some (.ok .next, tabs (setRow P true) xc tc ++ [(y + 57, namesO ts cp), (z + 57, headO ts)], 114, [((n.fmod 2).toNat, 0), (0, (n.fmod 2).toNat), ((n.fmod 2).toNat, 0), (0, (n.fmod 2).toNat)], [some (.int n u), some (.ref (y + 57)), some (.ref (z + 57)), some vd, some vi, some vs], obsOf (callT (evB (setRow P true) x tok) ⟨tabs (setRow P true) xc tc ++ [(y + 57, namesO ts cp), (z + 57, headO ts)], [], 0, 0, certT18, nm0 5 n t u y z vd vi vs rest⟩)) := by kernel_rfl

noncomputable def certT19 : List (Option Nat) := decs [(16, 81449046439861038710339353444352), (16, 81449046439861038710339353444352), (16, 19344002928826822684672774), (16, 40891693558419637812227838328961), (16, 9981043872280827481970196609), (16, 41203596267574670275399779385476), (16, 245305246424790613346929390895105), (16, 40564819215576778203193304727942), (16, 40881731858541062439530081043841), (16, 40884634345457700673121522173057), (16, 207620207165577931344603198275713), (16, 40901674449986376190694212584069), (16, 40901558393107693186293440708609), (16, 367957908483137413253886447190017), (16, 975575786917392753558064136329), (16, 1663167568391006523392741406146560), (16, 40884285565608269517062431309824), (16, 81763463714720869021617915757063), (16, 245290391202011669086941288071297), (16, 40564820266303322326141178528518), (16, 245305363395345824049751146905601), (16, 531494953555624238443539365691782), (16, 735916090170570022524603206959233), (16, 40884227080261378820891308493074), (16, 40564838550125750709761146372225), (16, 322039866282250092643564519553), (16, 1758021829485337179489974821947648), (16, 1962325624527306526126326383902720), (16, 162578684854495534832568670885936), (16, 162259354806118615585542442598529), (16, 2495222891685166535791427841), (10, 474313722619561525248)]

theorem runT1_5_1_false (P : Params) (x tok : Nat) (xc tc : Nat) (n : Int) (t u : Tok) (y z cp : Nat) (ts : Nat → Nat) (vd vi vs : Value) (rest : List (Str × Value)) : endsT [66, 67, 68, 69, 70] (callT (evB (setRow P false) x tok) ⟨tabs (setRow P false) xc tc ++ [(y + 57, namesO ts cp), (z + 57, headO ts)], [], 0, 0, certT19, nm0 5 n t u y z vd vi vs rest⟩) = some (.ok .next, tabs (setRow P false) xc tc ++ [(y + 57, namesO ts cp), (z + 57, headO ts)], 114, [((n.fmod 2).toNat, 1), (1, (n.fmod 2).toNat), ((n.fmod 2).toNat, 1), (1, (n.fmod 2).toNat)], [some (.int n u), some (.ref (y + 57)), some (.ref (z + 57)), some vd, some vi, some vs], obsOf (callT (evB (setRow P false) x tok) ⟨tabs (setRow P false) xc tc ++ [(y + 57, namesO ts cp), (z + 57, headO ts)], [], 0, 0, certT19, nm0 5 n t u y z vd vi vs rest⟩)) := by kernel_rfl

theorem runT1_5_1_true (P : Params) (x tok : Nat) (xc tc : Nat) (n : Int) (t u : Tok) (y z cp : Nat) (ts : Nat → Nat) (vd vi vs : Value) (rest : List (Str × Value)) : endsT [66, 67, 68, 69, 70] (callT (evB (setRow P true) x tok) ⟨tabs (setRow P true) xc tc ++ [(y + 57, namesO ts cp), (z + 57, headO ts)], [], 0, 0, certT19, nm0 5 n t u y z vd vi vs rest⟩) = some (.ok .next, tabs (setRow P true) xc tc ++ [(y + 57, namesO ts cp), (z + 57, headO ts)], 114, [((n.fmod 2).toNat, 1), (1, (n.fmod 2).toNat), ((n.fmod 2).toNat, 1), (1, (n.fmod 2).toNat)], [some (.int n u), some (.ref (y + 57)), some (.ref (z + 57)), some vd, some vi, some vs], obsOf (callT (evB (setRow P true) x tok) ⟨tabs (setRow P true) xc tc ++ [(y + 57, namesO ts cp), (z + 57, headO ts)], [], 0, 0, certT19, nm0 5 n t u y z vd vi vs rest⟩)) := by kernel_rfl

noncomputable def certT20 : List (Option Nat) := decs [(16, 40884227232557697862444850872320), (16, 40884227232557697862444582436865), (16, 316932143985898662865678729345), (16, 163212510154581835106876712304640), (16, 163529422803449077464599701241985), (16, 81129638415806083185462653026304), (16, 243388917812824593486981609046146), (16, 135551997629215574522430214), (16, 19344002928826821352898688), (16, 47554364986203747988992813973633), (16, 695031860516730462503704910119041), (16, 40901674464265027603188380942991), (16, 324837961531384692104616336179329), (16, 40884232068335344296827067301896), (16, 40886722303143769120472586911896), (16, 245305362481515451136396811572096), (16, 41842451308348221147380084425091), (16, 909113406310434981627822209), (16, 122652681701242756413931403608580), (16, 40564819358428363729355923275908), (16, 41008079720680422974123529044097), (16, 491249542825733420847655978811521), (16, 326739710972602477759399410614917), (16, 324837961683681083797706100457601), (16, 324518709611047344120702221435009), (16, 899452999111342475128677335187713), (16, 319388530138750985024595269395), (16, 1840748449540859474645333623963649), (16, 316912802362888592715870699905), (16, 82726678537299723523872429981824), (16, 2207747237315633165066525585965057), (3, 842550)]

theorem runT1_6_0_false (P : Params) (x tok : Nat) (xc tc : Nat) (n : Int) (t u : Tok) (y z cp : Nat) (ts : Nat → Nat) (vd vi vs : Value) (rest : List (Str × Value)) : endsT [66, 67, 68, 69, 70] (callT (evB (setRow P false) x tok) ⟨tabs (setRow P false) xc tc ++ [(y + 57, namesO ts cp), (z + 57, headO ts)], [], 0, 0, certT20, nm0 6 n t u y z vd vi vs rest⟩) = some (.ok .next, tabs (setRow P false) xc tc ++ [(y + 57, namesO ts cp), (z + 57, headO ts)], 121, [((n.fmod 3).toNat, 0), (0, (n.fmod 3).toNat), ((n.fmod 3).toNat, 0), (0, (n.fmod 3).toNat)], [some (.int n u), some (.ref (y + 57)), some (.ref (z + 57)), some vd, some vi, some vs], obsOf (callT (evB (setRow P false) x tok) ⟨tabs (setRow P false) xc tc ++ [(y + 57, namesO ts cp), (z + 57, headO ts)], [], 0, 0, certT20, nm0 6 n t u y z vd vi vs rest⟩)) := by kernel_rfl

theorem runT1_6_0_true (P : Params) (x tok : Nat) (xc tc : Nat) (n : Int) (t u : Tok) (y z cp : Nat) (ts : Nat → Nat) (vd vi vs : Value) (rest : List (Str × Value)) : endsT [66, 67, 68, 69, 70] (callT (evB (setRow P true) x tok) ⟨tabs (setRow P true) xc tc ++ [(y + 57, namesO ts cp), (z + 57, headO ts)], [], 0, 0, certT20, nm0 6 n t u y z vd vi vs rest⟩) = some (.ok .next, tabs (setRow P true) xc tc ++ [(y + 57, namesO ts cp), (z + 57, headO ts)], 121, [((n.fmod 3).toNat, 0), (0, (n.fmod 3).toNat), ((n.fmod 3).toNat, 0), (0, (n.fmod 3).toNat)], [some (.int n u), some (.ref (y + 57)), some (.ref (z + 57)), some vd, some vi, some vs], obsOf (callT (evB (setRow P true) x tok) ⟨tabs (setRow P true) xc tc ++ [(y + 57, namesO ts cp), (z + 57, headO ts)], [], 0, 0, certT20, nm0 6 n t u y z vd vi vs rest⟩)) := by kernel_rfl

noncomputable def certT21 : List (Option Nat) := decs [(16, 40884227232557697862444850872320), (16, 40884227232557697862444582436866), (16, 316932143985898662865678729473), (16, 163212510154581835106876712304640), (16, 163529422803449077464599701241985), (16, 81129638415806083185462653026304), (16, 243388917812824593486981609046146), (16, 135551997629215574522430214), (16, 19344002928826821352898688), (16, 47554364986203747988992813973633), (16, 695031860516730462503704910119041), (16, 40901674464265027603188380942991), (16, 324837961531384692104616336179329), (16, 40884232068335344296827067301896), (16, 40886722303143769120472586911896), (16, 245305362481515451136396811572096), (16, 41842451308348221147380084425091), (16, 909113406310434981627822209), (16, 122652681701242756413931403608580), (16, 40564819358428363729355923275908), (16, 41008079720680422974123529044097), (16, 491249542825733420847655978811521), (16, 326739710972602477759399410614917), (16, 324837961683681083797706100457601), (16, 324518709611047344120702221435009), (16, 899452999111342475128677335187713), (16, 319388530138750985024595269395), (16, 1840748449540859474645333623963649), (16, 316912802362888592715870699905), (16, 82726678537299723523872429981824), (16, 2207747237315633165066525585965057), (3, 842550)]

theorem runT1_6_1_false (P : Params) (x tok : Nat) (xc tc : Nat) (n : Int) (t u : Tok) (y z cp : Nat) (ts : Nat → Nat) (vd vi vs : Value) (rest : List (Str × Value)) : endsT [66, 67, 68, 69, 70] (callT (evB (setRow P false) x tok) ⟨tabs (setRow P false) xc tc ++ [(y + 57, namesO ts cp), (z + 57, headO ts)], [], 0, 0, certT21, nm0 6 n t u y z vd vi vs rest⟩) = some (.ok .next, tabs (setRow P false) xc tc ++ [(y + 57, namesO ts cp), (z + 57, headO ts)], 122, [((n.fmod 3).toNat, 1), (1, (n.fmod 3).toNat), ((n.fmod 3).toNat, 1), (1, (n.fmod 3).toNat)], [some (.int n u), some (.ref (y + 57)), some (.ref (z + 57)), some vd, some vi, some vs], obsOf (callT (evB (setRow P false) x tok) ⟨tabs (setRow P false) xc tc ++ [(y + 57, namesO ts cp), (z + 57, headO ts)], [], 0, 0, certT21, nm0 6 n t u y z vd vi vs rest⟩)) := by kernel_rfl

theorem runT1_6_1_true (P : Params) (x tok : Nat) (xc tc : Nat) (n : Int) (t u : Tok) (y z cp : Nat) (ts : Nat → Nat) (vd vi vs : Value) (rest : List (Str × Value)) : endsT [66, 67, 68, 69, 70] (callT (evB (setRow P true) x tok) ⟨tabs (setRow P true) xc tc ++ [(y + 57, namesO ts cp), (z + 57, headO ts)], [], 0, 0, certT21, nm0 6 n t u y z vd vi vs rest⟩) = some (.ok .next, tabs (setRow P true) xc tc ++ [(y + 57, namesO ts cp), (z + 57, headO ts)], 122, [((n.fmod 3).toNat, 1), (1, (n.fmod 3).toNat), ((n.fmod 3).toNat, 1), (1, (n.fmod 3).toNat)], [some (.int n u), some (.ref (y + 57)), some (.ref (z + 57)), some vd, some vi, some vs], obsOf (callT (evB (setRow P true) x tok) ⟨tabs (setRow P true) xc tc ++ [(y + 57, namesO ts cp), (z + 57, headO ts)], [], 0, 0, certT21, nm0 6 n t u y z vd vi vs rest⟩)) := by kernel_rfl

noncomputable def certT22 : List (Option Nat) := decs [(16, 40884227232557697862444850872320), (16, 40884227232557697862444582436867), (16, 316932143985898662865678729601), (16, 163212510154581835106876712304640), (16, 163529422803449077464599701241985), (16, 81129638415806083185462653026304), (16, 243388917812824593486981609046146), (16, 135551997629215574522430214), (16, 19344002928826821352898688), (16, 47554364986203747988992813973633), (16, 695031860516730462503704910119041), (16, 40901674464265027603188380942991), (16, 324837961531384692104616336179329), (16, 40884232068335344296827067301896), (16, 40886722303143769120472586911896), (16, 245305362481515451136396811572096), (16, 41842451308348221147380084425091), (16, 909113406310434981627822209), (16, 122652681701242756413931403608580), (16, 40564819358428363729355923275908), (16, 41008079720680422974123529044097), (16, 491249542825733420847655978811521), (16, 326739710972602477759399410614917), (16, 324837961683681083797706100457601), (16, 324518709611047344120702221435009), (16, 899452999111342475128677335187713), (16, 319388530138750985024595269395), (16, 1840748449540859474645333623963649), (16, 316912802362888592715870699905), (16, 82726678537299723523872429981824), (16, 2207747237315633165066525585965057), (3, 842550)]

theorem runT1_6_2_false (P : Params) (x tok : Nat) (xc tc : Nat) (n : Int) (t u : Tok) (y z cp : Nat) (ts : Nat → Nat) (vd vi vs : Value) (rest : List (Str × Value)) : endsT [66, 67, 68, 69, 70] (callT (evB (setRow P false) x tok) ⟨tabs (setRow P false) xc tc ++ [(y + 57, namesO ts cp), (z + 57, headO ts)], [], 0, 0, certT22, nm0 6 n t u y z vd vi vs rest⟩) = some (.ok .next, tabs (setRow P false) xc tc ++ [(y + 57, namesO ts cp), (z + 57, headO ts)], 124, [((n.fmod 3).toNat, 2), (2, (n.fmod 3).toNat), ((n.fmod 3).toNat, 2), (2, (n.fmod 3).toNat)], [some (.int n u), some (.ref (y + 57)), some (.ref (z + 57)), some vd, some vi, some vs], obsOf (callT (evB (setRow P false) x tok) ⟨tabs (setRow P false) xc tc ++ [(y + 57, namesO ts cp), (z + 57, headO ts)], [], 0, 0, certT22, nm0 6 n t u y z vd vi vs rest⟩)) := by kernel_rfl

theorem runT1_6_2_true (P : Params) (x tok : Nat) (xc tc : Nat) (n : Int) (t u : Tok) (y z cp : Nat) (ts : Nat → Nat) (vd vi vs : Value) (rest : List (Str × Value)) : endsT [66, 67, 68, 69, 70] (callT (evB (setRow P true) x tok) ⟨tabs (setRow P true) xc tc ++ [(y + 57, namesO ts cp), (z + 57, headO ts)], [], 0, 0, certT22, nm0 6 n t u y z vd vi vs rest⟩) = some (.ok .next, tabs (setRow P true) xc tc ++ [(y + 57, namesO ts cp), (z + 57, headO ts)], 124, [((n.fmod 3).toNat, 2), (2, (n.fmod 3).toNat), ((n.fmod 3).toNat, 2), (2, (n.fmod 3).toNat)], [some (.int n u), some (.ref (y + 57)), some (.ref (z + 57)), some vd, some vi, some vs], obsOf (callT (evB (setRow P true) x tok) ⟨tabs (setRow P true) xc tc ++ [(y + 57, namesO ts cp), (z + 57, headO ts)], [], 0, 0, certT22, nm0 6 n t u y z vd vi vs rest⟩)) := by kernel_rfl

noncomputable def certT23 : List (Option Nat) := decs [(16, 319408025254357014550348300288), (16, 245292886519359688853788244836352), (16, 40881731858541062439530081125126), (16, 40884227688266063459365616107649), (16, 41832470416726142532156555018753), (16, 319427517993310687182977057410), (16, 123610905766296848494887725694991), (16, 446532399810472882408305207591299), (16, 365402780738678881638067736674305), (16, 40884227257405897325507028075657), (16, 204421331418586999410004561495681), (16, 43102615782957607096337633068677), (16, 43100121626139648223837488676993), (16, 446866666591859890548411172275330), (16, 754370901399762447265481988), (16, 122652681701242756413931386831364), (16, 19495146616894667744100484), (16, 15528797828511201770598826016768), (16, 284273142932104700540863568248832), (16, 245305265919743246663922030215168), (16, 405967600098291370075311344550662), (16, 731763785866079725652546215429773), (16, 2495383516789198074035865874), (16, 2495383461441009198053736577), (16, 367957908483137413253886447190017), (16, 1880674448588972157647403960254729), (16, 40564819358428363729354133001646), (16, 40891693610802580983429513085057), (16, 162578684702171328713038317502593), (16, 153523390678226928926724), (14, 127322620418439512550002393217)]

theorem runT1_7_0_false (P : Params) (x tok : Nat) (xc tc : Nat) (n : Int) (t u : Tok) (y z cp : Nat) (ts : Nat → Nat) (vd vi vs : Value) (rest : List (Str × Value)) : endsT [66, 67, 68, 69, 70] (callT (evB (setRow P false) x tok) ⟨tabs (setRow P false) xc tc ++ [(y + 57, namesO ts cp), (z + 57, headO ts)], [], 0, 0, certT23, nm0 7 n t u y z vd vi vs rest⟩) = some (.ok .next, tabs (setRow P false) xc tc ++ [(y + 57, namesO ts cp), (z + 57, headO ts)], 111, [], [some (.int n u), some (.ref (y + 57)), some (.ref (z + 57)), some vd, some vi, some vs], obsOf (callT (evB (setRow P false) x tok) ⟨tabs (setRow P false) xc tc ++ [(y + 57, namesO ts cp), (z + 57, headO ts)], [], 0, 0, certT23, nm0 7 n t u y z vd vi vs rest⟩)) := by kernel_rfl

theorem runT1_7_0_true (P : Params) (x tok : Nat) (xc tc : Nat) (n : Int) (t u : Tok) (y z cp : Nat) (ts : Nat → Nat) (vd vi vs : Value) (rest : List (Str × Value)) : endsT [66, 67, 68, 69, 70] (callT (evB (setRow P true) x tok) ⟨tabs (setRow P true) xc tc ++ [(y + 57, namesO ts cp), (z + 57, headO ts)], [], 0, 0, certT23, nm0 7 n t u y z vd vi vs rest⟩) = some (.ok .next, tabs (setRow P true) xc tc ++ [(y + 57, namesO ts cp), (z + 57, headO ts)], 111, [], [some (.int n u), some (.ref (y + 57)), some (.ref (z + 57)), some vd, some vi, some vs], obsOf (callT (evB (setRow P true) x tok) ⟨tabs (setRow P true) xc tc ++ [(y + 57, namesO ts cp), (z + 57, headO ts)], [], 0, 0, certT23, nm0 7 n t u y z vd vi vs rest⟩)) := by kernel_rfl

end Mine

end
section
open PySem PySem.W PySem.Calls PySem.Spec PyProof.Rows
set_option maxRecDepth 100000
set_option maxHeartbeats 1000000
namespace Mine
theorem lawKind : lawEnv.scope.kind = .function := by kernel_rfl
theorem K0_35 (P : Params) : K0 P 35 = none := rfl
theorem K0_1 (P : Params) : (K0 P sysModules).isSome = true := by kernel_rfl
/-- what the top is known by -/
structure Cm (w : World) : Prop where
  kb : ∀ a o, K0 w.params a = some o → a < 55
  lim : ∀ h : Heap, (∀ a o, K0 w.params a = some o → h.get? a = some o) → h.NoLimit
noncomputable def isFields (o : Obj) : Bool := match o.data with
  | .fields _ => true
  | _ => false
noncomputable def notIter (o : Obj) : Bool := match o.cls with
  | .type c => c != "list_iterator" && c != "range_iterator"
  | _ => true
noncomputable def isTabO (o : Obj) : Bool := match o.cls with
  | .none => true
  | .type c => c == "code"
  | _ => false
theorem tabs_all (P : Params) (xc tc : Nat) : (tabs P xc tc).all (fun p => isFields p.2 && notIter p.2 && isTabO p.2) = true := by kernel_rfl
theorem tabs_adr (P : Params) (xc tc : Nat) : (tabs P xc tc).map (·.1) = [xc + 57 + 16, xc + 57 + 8, 35] := by kernel_rfl
noncomputable def TabFull (P : Params) (h : Heap) : Prop := ∃ xc tc, ∀ p ∈ tabs P xc tc, h.get? p.1 = some p.2
noncomputable def TabOk (P : Params) (h : Heap) : Prop := h.get? 35 = some tab0 ∨ TabFull P h
structure LS (w : World) (h : Heap) (m : Str → Option Value) : Prop where
  ns : h.Ns 56 m
  ls : ∃ nm, m = nmap nm
  k0 : ∀ a o, K0 w.params a = some o → h.get? a = some o
  tab : TabOk w.params h
structure AOk (A : Around) : Prop where
  hd : A.handled = none
  fr : A.frames = some [lawEnv]
  dp : A.depth ≤ 400
  un : A.units ≤ 100
/-- all is kept but the code table and law's frame -/
noncomputable def Kp (h h' : Heap) : Prop := ∀ a o, h.get? a = some o → a ≠ 35 → a ≠ 56 → h'.get? a = some o
/-- all is kept but law's frame -/
noncomputable def Kq (h h' : Heap) : Prop := ∀ a o, h.get? a = some o → a ≠ 56 → h'.get? a = some o
theorem Kq.kp {h h' : Heap} (k : Kq h h') : Kp h h' := fun a o ha _ h2 => k a o ha h2
theorem Kp.trans {h h' h'' : Heap} (k : Kp h h') (k' : Kp h' h'') : Kp h h'' := fun a o ha h1 h2 => k' a o (k a o ha h1 h2) h1 h2
theorem Kq.trans {h h' h'' : Heap} (k : Kq h h') (k' : Kq h' h'') : Kq h h'' := fun a o ha h1 => k' a o (k a o ha h1) h1
theorem sb_kq {h h' : Heap} (sb : Heap.SameBut 56 h h') : Kq h h' := fun a _ ha hn => (sb.2 a hn).trans ha
theorem TabFull.keep2 {P : Params} {h h' : Heap} (x : TabFull P h) (k : ∀ a o, h.get? a = some o → isFields o = true → notIter o = true → h'.get? a = some o) : TabFull P h' := by
  obtain ⟨xc, tc, x⟩ := x
  refine ⟨xc, tc, fun p hp => ?_⟩
  have := List.all_eq_true.mp (tabs_all P xc tc) p hp
  rw [Bool.and_eq_true, Bool.and_eq_true] at this
  exact k _ _ (x p hp) this.1.1 this.1.2
theorem TabOk.keep2 {P : Params} {h h' : Heap} (x : TabOk P h) (k : ∀ a o, h.get? a = some o → isFields o = true → notIter o = true → h'.get? a = some o) : TabOk P h' := by
  rcases x with x | x
  · exact .inl (k _ _ x rfl (by decide +kernel))
  · exact .inr (x.keep2 k)
section
variable {w : World} {A : Around} {m : Str → Option Value} {s : Shared}
theorem LS.size {h : Heap} (L : LS w h m) : ∃ x, h.objs.size = x + 57 := by
  have : 56 < h.objs.size := L.ns.lt
  exact ⟨h.objs.size - 57, by omega⟩
theorem LS.frame {h : Heap} (L : LS w h m) : ∃ o, h.get? 56 = some o ∧ o.isFreed = false ∧ isFields o = false := by
  obtain ⟨o, es, ep, h1, h2, h3⟩ := L.ns
  refine ⟨o, h1, ?_, ?_⟩
  · obtain ⟨c, d, dt, sl⟩ := o
    simp only at h2
    subst h2
    rfl
  · unfold isFields
    rw [h2]
theorem mkHyp (C : Cm w) {h : Heap} (hk : ∀ a o, K0 w.params a = some o → h.get? a = some o) (x tok : Nat) (T : List Addr) (hT : ∀ b ∈ T, b = 35 ∨ 55 ≤ b) (h56 : 56 ∈ T) : Hyp (evB w.params x tok) prog0 w h T where
  X := hk
  kT := fun a o ha hm => by
    have h1 := C.kb a o ha
    rcases hT a hm with rfl | h2
    · have h3 : K0 w.params 35 = some o := ha
      rw [K0_35] at h3; cases h3
    · exact absurd h1 (Nat.not_lt.mpr h2)
  S := rfl
  src := srcZ_eq.symm
  srch := rfl
  botT := fun b hb => by
    have : b = 56 := by
      have hb' : b ∈ [56] := hb
      simpa using hb'
    rw [this]; exact h56
  lim := fun h' k => C.lim h' fun a o ha => k a o (hk a o ha) fun hm => by
    have h1 := C.kb a o ha
    rcases hT a hm with rfl | h2
    · have h3 : K0 w.params 35 = some o := ha
      rw [K0_35] at h3; cases h3
    · exact absurd h1 (Nat.not_lt.mpr h2)
  botK := fun p hp => by
    have : p = lawEnv := by cases hp; rfl
    rw [this, lawKind]; intro q; cases q
  sys := K0_1 _
theorem AOk.sc (a : AOk A) (e : Ev) (he : botE e = [lawEnv]) : ScOk e sc0 A := ⟨a.hd, by rw [a.fr, he]; rfl, a.dp, a.un⟩
theorem mkRl {h : Heap} {nm : List (Str × Value)} (ns : h.Ns 56 (nmap nm)) {x tok : Nat} {led : List (Addr × Obj)} {cert : List (Option Nat)} (hx : h.objs.size = x + 57) (hled : ∀ p ∈ led, h.get? p.1 = some p.2) (hnd : (led.map (·.1)).Nodup) (hno : ∀ b ∈ led.map (·.1), b ≠ 56) :
    Rl (evB w.params x tok) h (56 :: led.map (·.1)) h ⟨led, [], 0, 0, cert, nm⟩ := by
  refine ⟨hled, (fun p hp => absurd hp List.not_mem_nil), by simpa using hnd, hx, (fun b o h _ => h), fun b hb => ?_, Nat.le_refl _, fun p hp => ?_⟩
  · have hb' : b ∈ led.map (·.1) := by simpa using hb
    refine ⟨.inr (.tail _ hb'), ?_⟩
    show b ∉ [56]
    simpa using hno b hb'
  · cases hp
    exact ⟨56, rfl, ns.lt, ns⟩
/-- a turn by its run -/
theorem use_turn (C : Cm w) (a : AOk A) (hk : ∀ a o, K0 w.params a = some o → s.heap.get? a = some o) {nm : List (Str × Value)} (ns : s.heap.Ns 56 (nmap nm)) {led : List (Addr × Obj)} {cert : List (Option Nat)} {x : Nat} (hx : s.heap.objs.size = x + 57)
    (hled : ∀ p ∈ led, s.heap.get? p.1 = some p.2) (hnd : (led.map (·.1)).Nodup) (hlow : ∀ b ∈ led.map (·.1), (b = 35 ∨ 55 ≤ b) ∧ b ≠ 56)
    {keep : List Nat} {l : List (Addr × Obj)} {tk : Nat} {les : List (Nat × Nat)} {rows : List (Option Value)}
    (hrun : endsT keep (callT (evB w.params x s.toks) ⟨led, [], 0, 0, cert, nm⟩) = some (.ok .next, l, tk, les, rows, obsOf (callT (evB w.params x s.toks) ⟨led, [], 0, 0, cert, nm⟩)))
    (hles : ∀ p ∈ les, p.1 ≤ p.2) {Q : Flow → Shared → Prop} {E : Value → Shared → Prop}
    (hQ : ∀ h' nm', h'.Ns 56 (nmap nm') → keysT.map (rowOf nm') = rows → (∀ a o, s.heap.get? a = some o → a ∉ 56 :: led.map (·.1) → h'.get? a = some o) → (∀ p ∈ l, h'.get? p.1 = some p.2) → Q .next { s with heap := h', toks := s.toks + tk }) :
    wpAny (model prog0 w) A (execs turnBody lawEnv) Q E s := by
  obtain ⟨σ', o, hr, ho, hl, rfl, hrows⟩ := endsT_is hrun hles
  have H := mkHyp C hk x s.toks (56 :: led.map (·.1)) (fun b hb => by
    rcases List.mem_cons.mp hb with rfl | hb
    · exact .inr (by decide)
    · exact (hlow b hb).1) (.head _)
  have F := fnsL_ok H 60 40 30
  refine F.execs sc0 A (a.sc _ rfl) _ _ _ _ _ _ hr ho Q E s.gens s.drawn s.os s.heap (mkRl ns hx hled hnd fun b hb => (hlow b hb).2) fun h' R' => ?_
  exact hQ h' σ'.nm (bot_ns R' rfl rfl) hrows R'.old fun p hp => R'.led p (hl p hp)
end
end Mine

end
section
open PySem PySem.W PySem.Calls PySem.Spec PyProof.Rows
set_option maxRecDepth 100000
set_option maxHeartbeats 1000000
namespace Mine
theorem row_is (P : Params) : setRow P false = P ∨ setRow P true = P := by
  have h := setRow_eq P
  cases hb : P.followText theRow with
  | false => rw [hb] at h; exact .inl h
  | true => rw [hb] at h; exact .inr h
theorem two_is (P : Params) : setTwo P false false = P ∨ setTwo P false true = P ∨ setTwo P true false = P ∨ setTwo P true true = P := by
  have h := setTwo_eq P
  cases hb : P.followText theRow with
  | false =>
    cases hc : P.followText twoRow with
    | false => rw [hb, hc] at h; exact .inl h
    | true => rw [hb, hc] at h; exact .inr (.inl h)
  | true =>
    cases hc : P.followText twoRow with
    | false => rw [hb, hc] at h; exact .inr (.inr (.inl h))
    | true => rw [hb, hc] at h; exact .inr (.inr (.inr h))
theorem les4 {a r : Nat} (h : a = r) : ∀ p ∈ [(a, r), (r, a), (a, r), (r, a)], p.1 ≤ p.2 := by
  subst h
  intro p hp
  simp only [List.mem_cons, List.not_mem_nil, or_false, or_self] at hp
  subst hp
  exact Nat.le_refl _
theorem les0 : ∀ p ∈ ([] : List (Nat × Nat)), p.1 ≤ p.2 := fun p hp => by cases hp
/-- the names that a turn reads -/
structure NmOk (m : Str → Option Value) (k n : Int) (t u : Tok) (y z : Nat) (vd vi vs : Value) : Prop where
  sort : m ("sort" : Str) = some (.int k t)
  n : m ("n" : Str) = some (.int n u)
  names : m ("names" : Str) = some (.ref (y + 57))
  header : m ("header" : Str) = some (.ref (z + 57))
  draws : m ("draws" : Str) = some vd
  i : m ("i" : Str) = some vi
  script : m ("script" : Str) = some vs
theorem nmap_over {x : Str} {v : Value} {nm : List (Str × Value)} (h : nmap nm x = some v) : nmap ((x, v) :: nm) = nmap nm := by
  rw [nmap_cons]
  funext y
  split
  · rename_i q; rw [q, h]
  · rfl
theorem nm0_is {nm : List (Str × Value)} {k n : Int} {t u : Tok} {y z : Nat} {vd vi vs : Value} (N : NmOk (nmap nm) k n t u y z vd vi vs) : nmap (nm0 k n t u y z vd vi vs nm) = nmap nm := by
  unfold nm0
  have e7 := nmap_over N.script
  have e6 := nmap_over (nm := (("script" : Str), vs) :: nm) (by rw [e7]; exact N.i)
  have e5 := nmap_over (nm := (("i" : Str), vi) :: (("script" : Str), vs) :: nm) (by rw [e6, e7]; exact N.draws)
  have e4 := nmap_over (nm := (("draws" : Str), vd) :: (("i" : Str), vi) :: (("script" : Str), vs) :: nm) (by rw [e5, e6, e7]; exact N.header)
  have e3 := nmap_over (nm := (("header" : Str), .ref (z + 57)) :: (("draws" : Str), vd) :: (("i" : Str), vi) :: (("script" : Str), vs) :: nm) (by rw [e4, e5, e6, e7]; exact N.names)
  have e2 := nmap_over (nm := (("names" : Str), .ref (y + 57)) :: (("header" : Str), .ref (z + 57)) :: (("draws" : Str), vd) :: (("i" : Str), vi) :: (("script" : Str), vs) :: nm) (by rw [e3, e4, e5, e6, e7]; exact N.n)
  have e1 := nmap_over (nm := (("n" : Str), .int n u) :: (("names" : Str), .ref (y + 57)) :: (("header" : Str), .ref (z + 57)) :: (("draws" : Str), vd) :: (("i" : Str), vi) :: (("script" : Str), vs) :: nm) (by rw [e2, e3, e4, e5, e6, e7]; exact N.sort)
  rw [e1, e2, e3, e4, e5, e6, e7]
theorem cls_ne {h : Heap} {a b : Addr} {o o' : Obj} (ha : h.get? a = some o) (hb : h.get? b = some o') (hc : isTabO o ≠ isTabO o') : a ≠ b := by
  rintro rfl
  rw [ha] at hb
  cases hb
  exact hc rfl
section
variable {w : World} {A : Around} {m : Str → Option Value} {s : Shared} {E : Value → Shared → Prop}
/-- what a turn leaves -/
noncomputable def After (w : World) (s : Shared) (m : Str → Option Value) (Q : Flow → Shared → Prop) : Prop :=
  ∀ h' tk m', LS w h' m' → TabFull w.params h' → Kp s.heap h' → (∀ x ∈ keysT, m' x = m x) → Q .next { s with heap := h', toks := tk }
theorem keys_is {nm' : List (Str × Value)} {k n : Int} {t u : Tok} {y z : Nat} {vd vi vs : Value} (N : NmOk m k n t u y z vd vi vs)
    (h : keysT.map (rowOf nm') = [some (.int n u), some (.ref (y + 57)), some (.ref (z + 57)), some vd, some vi, some vs]) : ∀ x ∈ keysT, nmap nm' x = m x := by
  have e : keysT.map m = [some (.int n u), some (.ref (y + 57)), some (.ref (z + 57)), some vd, some vi, some vs] := by
    show [m ("n" : Str), m ("names" : Str), m ("header" : Str), m ("draws" : Str), m ("i" : Str), m ("script" : Str)] = _
    rw [N.n, N.names, N.header, N.draws, N.i, N.script]
  rw [← e] at h
  exact List.map_inj_left.mp h
theorem go (C : Cm w) (a : AOk A) (L : LS w s.heap m) {k n : Int} {t u : Tok} {y z cp : Nat} {ts : Nat → Nat} {vd vi vs : Value} {nm : List (Str × Value)} (N : NmOk m k n t u y z vd vi vs) (hnm : m = nmap nm)
    (gN : s.heap.get? (y + 57) = some (namesO ts cp)) (gH : s.heap.get? (z + 57) = some (headO ts)) {tb te : List (Addr × Obj)} (htb : ∀ p ∈ tb, s.heap.get? p.1 = some p.2) (hnd : (tb.map (·.1)).Nodup) (hlow : ∀ b ∈ tb.map (·.1), b = 35 ∨ 57 ≤ b)
    (hto : ∀ p ∈ tb, isTabO p.2 = true) (hte : ∀ p ∈ tb, p.1 = 35 ∨ p ∈ te) {xc tc x : Nat} (hx : s.heap.objs.size = x + 57) (hfull : te = tabs w.params xc tc)
    {cert : List (Option Nat)} {keep : List Nat} {tk : Nat} {les : List (Nat × Nat)}
    (hrun : endsT keep (callT (evB w.params x s.toks) ⟨tb ++ [(y + 57, namesO ts cp), (z + 57, headO ts)], [], 0, 0, cert, nm0 k n t u y z vd vi vs nm⟩) = some (.ok .next, te ++ [(y + 57, namesO ts cp), (z + 57, headO ts)], tk, les, [some (.int n u), some (.ref (y + 57)), some (.ref (z + 57)), some vd, some vi, some vs], obsOf (callT (evB w.params x s.toks) ⟨tb ++ [(y + 57, namesO ts cp), (z + 57, headO ts)], [], 0, 0, cert, nm0 k n t u y z vd vi vs nm⟩)))
    (hles : ∀ p ∈ les, p.1 ≤ p.2) {Q : Flow → Shared → Prop} (h : After w s m Q) : wpAny (model prog0 w) A (execs turnBody lawEnv) Q E s := by
  have hmem : ∀ p ∈ tb ++ [(y + 57, namesO ts cp), (z + 57, headO ts)], s.heap.get? p.1 = some p.2 := by
    intro p hp
    rcases List.mem_append.mp hp with hp | hp
    · exact htb p hp
    · rcases List.mem_cons.mp hp with rfl | hp
      · exact gN
      · rw [List.mem_singleton] at hp
        subst hp
        exact gH
  have hyz : y + 57 ≠ z + 57 := by
    intro q
    rw [q, gH] at gN
    have := congrArg Obj.cls (Option.some.inj gN)
    exact absurd (Value.type.inj this) (by decide)
  have hmap : (tb ++ [(y + 57, namesO ts cp), (z + 57, headO ts)]).map (·.1) = tb.map (·.1) ++ [y + 57, z + 57] := List.map_append
  have hns : s.heap.Ns 56 (nmap (nm0 k n t u y z vd vi vs nm)) := by
    rw [nm0_is (hnm ▸ N), ← hnm]
    exact L.ns
  have hlow2 : ∀ b ∈ (tb ++ [(y + 57, namesO ts cp), (z + 57, headO ts)]).map (·.1), b = 35 ∨ 57 ≤ b := by
    rw [hmap]
    intro b hb
    rcases List.mem_append.mp hb with hb | hb
    · exact hlow b hb
    · simp only [List.mem_cons, List.not_mem_nil, or_false] at hb
      rcases hb with rfl | rfl
      · exact .inr (Nat.le_add_left _ _)
      · exact .inr (Nat.le_add_left _ _)
  refine use_turn C a L.k0 hns hx hmem ?_ (fun b hb => ?_) hrun hles fun h' nm' ns' rows old led' => ?_
  · rw [hmap]
    refine List.nodup_append.mpr ⟨hnd, ?_, ?_⟩
    · refine List.nodup_cons.mpr ⟨?_, List.nodup_cons.mpr ⟨List.not_mem_nil, List.nodup_nil⟩⟩
      intro q
      exact hyz (List.mem_singleton.mp q)
    · intro b hb c hc
      obtain ⟨p, hp, rfl⟩ := List.mem_map.mp hb
      simp only [List.mem_cons, List.not_mem_nil, or_false] at hc
      rcases hc with rfl | rfl
      · exact cls_ne (htb p hp) gN (by rw [hto p hp]; intro q; cases q)
      · exact cls_ne (htb p hp) gH (by rw [hto p hp]; intro q; cases q)
  · rcases hlow2 b hb with rfl | q
    · exact ⟨.inl rfl, by decide⟩
    · refine ⟨.inr (Nat.le_trans (by decide) q), ?_⟩
      rintro rfl
      exact absurd q (by decide)
  · have hfullh : TabFull w.params h' := ⟨xc, tc, fun p hp => led' p (List.mem_append.mpr (.inl (hfull ▸ hp)))⟩
    have hkp : Kp s.heap h' := by
      intro b ob hb h35 h56
      by_cases hm : b ∈ (tb ++ [(y + 57, namesO ts cp), (z + 57, headO ts)]).map (·.1)
      · obtain ⟨p, hp, rfl⟩ := List.mem_map.mp hm
        have e1 := hmem p hp
        rw [hb] at e1
        cases e1
        rcases List.mem_append.mp hp with q | q
        · rcases hte p q with q | q
          · exact absurd q h35
          · exact led' p (List.mem_append.mpr (.inl q))
        · exact led' p (List.mem_append.mpr (.inr q))
      · refine old b ob hb ?_
        intro q
        rcases List.mem_cons.mp q with q | q
        · exact h56 q
        · exact hm q
    refine h h' _ _ ⟨ns', ⟨nm', rfl⟩, fun b ob hb => hkp b ob (L.k0 b ob hb) ?_ ?_, .inr hfullh⟩ hfullh hkp (keys_is N rows)
    · rintro rfl
      rw [K0_35] at hb
      cases hb
    · rintro rfl
      exact absurd (C.kb _ _ hb) (by decide)
theorem tabs_nd (P : Params) (xc tc : Nat) : ((tabs P xc tc).map (·.1)).Nodup := by
  rw [tabs_adr]
  simp
theorem tabs_low (P : Params) (xc tc : Nat) : ∀ b ∈ (tabs P xc tc).map (·.1), b = 35 ∨ 57 ≤ b := by
  rw [tabs_adr]
  intro b hb
  simp only [List.mem_cons, List.not_mem_nil, or_false] at hb
  rcases hb with rfl | rfl | rfl
  · exact .inr (Nat.le_trans (Nat.le_add_left 57 xc) (Nat.le_add_right _ _))
  · exact .inr (Nat.le_trans (Nat.le_add_left 57 xc) (Nat.le_add_right _ _))
  · exact .inl rfl
theorem tabs_tab (P : Params) (xc tc : Nat) : ∀ p ∈ tabs P xc tc, isTabO p.2 = true := fun p hp => by
  have := List.all_eq_true.mp (tabs_all P xc tc) p hp
  rw [Bool.and_eq_true, Bool.and_eq_true] at this
  exact this.2

/-- the first turn of all -/
theorem turn00 (C : Cm w) (a : AOk A) (L : LS w s.heap m) {n : Int} {t u : Tok} {y z cp : Nat} {ts : Nat → Nat} {vd vi vs : Value} (N : NmOk m 0 n t u y z vd vi vs) (gN : s.heap.get? (y + 57) = some (namesO ts cp)) (gH : s.heap.get? (z + 57) = some (headO ts)) (h35 : s.heap.get? 35 = some tab0) {Q : Flow → Shared → Prop} (h : After w s m Q) : wpAny (model prog0 w) A (execs turnBody lawEnv) Q E s := by
  obtain ⟨nm, hnm⟩ := L.ls
  obtain ⟨x, hx⟩ := L.size
  rcases row_is w.params with er | er
  · have q := runT0_0_77_false w.params x s.toks n t u y z cp ts vd vi vs nm
    rw [er] at q
    exact go C a L N hnm gN gH (tb := [(35, tab0)]) (xc := x + 11) (tc := s.toks + 25) (fun p hp => by rw [List.mem_singleton] at hp; rw [hp]; exact h35) (List.nodup_cons.mpr ⟨List.not_mem_nil, List.nodup_nil⟩) (fun b hb => .inl (List.mem_singleton.mp hb)) (fun p hp => by rw [List.mem_singleton] at hp; rw [hp]; rfl) (fun p hp => .inl (by rw [List.mem_singleton] at hp; rw [hp])) hx rfl q les0 h
  · have q := runT0_0_77_true w.params x s.toks n t u y z cp ts vd vi vs nm
    rw [er] at q
    exact go C a L N hnm gN gH (tb := [(35, tab0)]) (xc := x + 11) (tc := s.toks + 25) (fun p hp => by rw [List.mem_singleton] at hp; rw [hp]; exact h35) (List.nodup_cons.mpr ⟨List.not_mem_nil, List.nodup_nil⟩) (fun b hb => .inl (List.mem_singleton.mp hb)) (fun p hp => by rw [List.mem_singleton] at hp; rw [hp]; rfl) (fun p hp => .inl (by rw [List.mem_singleton] at hp; rw [hp])) hx rfl q les0 h
theorem go1 (C : Cm w) (a : AOk A) (L : LS w s.heap m) {k n : Int} {t u : Tok} {y z cp : Nat} {ts : Nat → Nat} {vd vi vs : Value} {nm : List (Str × Value)} (N : NmOk m k n t u y z vd vi vs) (hnm : m = nmap nm)
    (gN : s.heap.get? (y + 57) = some (namesO ts cp)) (gH : s.heap.get? (z + 57) = some (headO ts)) {xc tc x : Nat} (hT : ∀ p ∈ tabs w.params xc tc, s.heap.get? p.1 = some p.2) (hx : s.heap.objs.size = x + 57)
    {cert : List (Option Nat)} {keep : List Nat} {tk : Nat} {les : List (Nat × Nat)}
    (hrun : endsT keep (callT (evB w.params x s.toks) ⟨tabs w.params xc tc ++ [(y + 57, namesO ts cp), (z + 57, headO ts)], [], 0, 0, cert, nm0 k n t u y z vd vi vs nm⟩) = some (.ok .next, tabs w.params xc tc ++ [(y + 57, namesO ts cp), (z + 57, headO ts)], tk, les, [some (.int n u), some (.ref (y + 57)), some (.ref (z + 57)), some vd, some vi, some vs], obsOf (callT (evB w.params x s.toks) ⟨tabs w.params xc tc ++ [(y + 57, namesO ts cp), (z + 57, headO ts)], [], 0, 0, cert, nm0 k n t u y z vd vi vs nm⟩)))
    (hles : ∀ p ∈ les, p.1 ≤ p.2) {Q : Flow → Shared → Prop} (h : After w s m Q) : wpAny (model prog0 w) A (execs turnBody lawEnv) Q E s :=
  go C a L N hnm gN gH hT (tabs_nd _ _ _) (tabs_low _ _ _) (tabs_tab _ _ _) (fun _ hp => .inr hp) (te := tabs w.params xc tc) (xc := xc) (tc := tc) hx (Eq.refl (tabs w.params xc tc)) hrun hles h
theorem turn10 (C : Cm w) (a : AOk A) (L : LS w s.heap m) {n : Int} {t u : Tok} {y z cp : Nat} {ts : Nat → Nat} {vd vi vs : Value} (N : NmOk m 0 n t u y z vd vi vs) (gN : s.heap.get? (y + 57) = some (namesO ts cp)) (gH : s.heap.get? (z + 57) = some (headO ts)) (F : TabFull w.params s.heap) {Q : Flow → Shared → Prop} (h : After w s m Q) : wpAny (model prog0 w) A (execs turnBody lawEnv) Q E s := by
  obtain ⟨nm, hnm⟩ := L.ls
  obtain ⟨x, hx⟩ := L.size
  obtain ⟨xc, tc, hT⟩ := F
  rcases row_is w.params with er | er
  · have q := runT1_0_77_false w.params x s.toks xc tc n t u y z cp ts vd vi vs nm
    rw [er] at q
    exact go1 C a L N hnm gN gH hT hx q les0 h
  · have q := runT1_0_77_true w.params x s.toks xc tc n t u y z cp ts vd vi vs nm
    rw [er] at q
    exact go1 C a L N hnm gN gH hT hx q les0 h
theorem turn11 (C : Cm w) (a : AOk A) (L : LS w s.heap m) {n : Int} {t u : Tok} {y z cp : Nat} {ts : Nat → Nat} {vd vi vs : Value} (N : NmOk m 1 n t u y z vd vi vs) (gN : s.heap.get? (y + 57) = some (namesO ts cp)) (gH : s.heap.get? (z + 57) = some (headO ts)) (F : TabFull w.params s.heap) {Q : Flow → Shared → Prop} (h : After w s m Q) : wpAny (model prog0 w) A (execs turnBody lawEnv) Q E s := by
  obtain ⟨nm, hnm⟩ := L.ls
  obtain ⟨x, hx⟩ := L.size
  obtain ⟨xc, tc, hT⟩ := F
  have hr : n.fmod 3 = 0 ∨ n.fmod 3 = 1 ∨ n.fmod 3 = 2 := by
    rw [Int.fmod_eq_emod_of_nonneg n (by decide : (0 : Int) ≤ 3)]
    omega
  rcases hr with hr | hr | hr
  · have hl := les4 (a := (n.fmod 3).toNat) (r := 0) (by omega)
    rcases row_is w.params with er | er
    · have q := runT1_1_0_false w.params x s.toks xc tc n t u y z cp ts vd vi vs nm
      rw [er] at q
      exact go1 C a L N hnm gN gH hT hx q hl h
    · have q := runT1_1_0_true w.params x s.toks xc tc n t u y z cp ts vd vi vs nm
      rw [er] at q
      exact go1 C a L N hnm gN gH hT hx q hl h
  · have hl := les4 (a := (n.fmod 3).toNat) (r := 1) (by omega)
    rcases row_is w.params with er | er
    · have q := runT1_1_1_false w.params x s.toks xc tc n t u y z cp ts vd vi vs nm
      rw [er] at q
      exact go1 C a L N hnm gN gH hT hx q hl h
    · have q := runT1_1_1_true w.params x s.toks xc tc n t u y z cp ts vd vi vs nm
      rw [er] at q
      exact go1 C a L N hnm gN gH hT hx q hl h
  · have hl := les4 (a := (n.fmod 3).toNat) (r := 2) (by omega)
    rcases row_is w.params with er | er
    · have q := runT1_1_2_false w.params x s.toks xc tc n t u y z cp ts vd vi vs nm
      rw [er] at q
      exact go1 C a L N hnm gN gH hT hx q hl h
    · have q := runT1_1_2_true w.params x s.toks xc tc n t u y z cp ts vd vi vs nm
      rw [er] at q
      exact go1 C a L N hnm gN gH hT hx q hl h
theorem turn12 (C : Cm w) (a : AOk A) (L : LS w s.heap m) {n : Int} {t u : Tok} {y z cp : Nat} {ts : Nat → Nat} {vd vi vs : Value} (N : NmOk m 2 n t u y z vd vi vs) (gN : s.heap.get? (y + 57) = some (namesO ts cp)) (gH : s.heap.get? (z + 57) = some (headO ts)) (F : TabFull w.params s.heap) {Q : Flow → Shared → Prop} (h : After w s m Q) : wpAny (model prog0 w) A (execs turnBody lawEnv) Q E s := by
  obtain ⟨nm, hnm⟩ := L.ls
  obtain ⟨x, hx⟩ := L.size
  obtain ⟨xc, tc, hT⟩ := F
  have hr : n.fmod 4 = 0 ∨ n.fmod 4 = 1 ∨ n.fmod 4 = 2 ∨ n.fmod 4 = 3 := by
    rw [Int.fmod_eq_emod_of_nonneg n (by decide : (0 : Int) ≤ 4)]
    omega
  rcases hr with hr | hr | hr | hr
  · have hl := les4 (a := (n.fmod 4).toNat) (r := 0) (by omega)
    rcases row_is w.params with er | er
    · have q := runT1_2_0_false w.params x s.toks xc tc n t u y z cp ts vd vi vs nm
      rw [er] at q
      exact go1 C a L N hnm gN gH hT hx q hl h
    · have q := runT1_2_0_true w.params x s.toks xc tc n t u y z cp ts vd vi vs nm
      rw [er] at q
      exact go1 C a L N hnm gN gH hT hx q hl h
  · have hl := les4 (a := (n.fmod 4).toNat) (r := 1) (by omega)
    rcases row_is w.params with er | er
    · have q := runT1_2_1_false w.params x s.toks xc tc n t u y z cp ts vd vi vs nm
      rw [er] at q
      exact go1 C a L N hnm gN gH hT hx q hl h
    · have q := runT1_2_1_true w.params x s.toks xc tc n t u y z cp ts vd vi vs nm
      rw [er] at q
      exact go1 C a L N hnm gN gH hT hx q hl h
  · have hl := les4 (a := (n.fmod 4).toNat) (r := 2) (by omega)
    rcases row_is w.params with er | er
    · have q := runT1_2_2_false w.params x s.toks xc tc n t u y z cp ts vd vi vs nm
      rw [er] at q
      exact go1 C a L N hnm gN gH hT hx q hl h
    · have q := runT1_2_2_true w.params x s.toks xc tc n t u y z cp ts vd vi vs nm
      rw [er] at q
      exact go1 C a L N hnm gN gH hT hx q hl h
  · have hl := les4 (a := (n.fmod 4).toNat) (r := 3) (by omega)
    rcases row_is w.params with er | er
    · have q := runT1_2_3_false w.params x s.toks xc tc n t u y z cp ts vd vi vs nm
      rw [er] at q
      exact go1 C a L N hnm gN gH hT hx q hl h
    · have q := runT1_2_3_true w.params x s.toks xc tc n t u y z cp ts vd vi vs nm
      rw [er] at q
      exact go1 C a L N hnm gN gH hT hx q hl h
theorem turn13 (C : Cm w) (a : AOk A) (L : LS w s.heap m) {n : Int} {t u : Tok} {y z cp : Nat} {ts : Nat → Nat} {vd vi vs : Value} (N : NmOk m 3 n t u y z vd vi vs) (gN : s.heap.get? (y + 57) = some (namesO ts cp)) (gH : s.heap.get? (z + 57) = some (headO ts)) (F : TabFull w.params s.heap) {Q : Flow → Shared → Prop} (h : After w s m Q) : wpAny (model prog0 w) A (execs turnBody lawEnv) Q E s := by
  obtain ⟨nm, hnm⟩ := L.ls
  obtain ⟨x, hx⟩ := L.size
  obtain ⟨xc, tc, hT⟩ := F
  have hr : n.fmod 3 = 0 ∨ n.fmod 3 = 1 ∨ n.fmod 3 = 2 := by
    rw [Int.fmod_eq_emod_of_nonneg n (by decide : (0 : Int) ≤ 3)]
    omega
  rcases hr with hr | hr | hr
  · have hl := les4 (a := (n.fmod 3).toNat) (r := 0) (by omega)
    rcases row_is w.params with er | er
    · have q := runT1_3_0_false w.params x s.toks xc tc n t u y z cp ts vd vi vs nm
      rw [er] at q
      exact go1 C a L N hnm gN gH hT hx q hl h
    · have q := runT1_3_0_true w.params x s.toks xc tc n t u y z cp ts vd vi vs nm
      rw [er] at q
      exact go1 C a L N hnm gN gH hT hx q hl h
  · have hl := les4 (a := (n.fmod 3).toNat) (r := 1) (by omega)
    rcases row_is w.params with er | er
    · have q := runT1_3_1_false w.params x s.toks xc tc n t u y z cp ts vd vi vs nm
      rw [er] at q
      exact go1 C a L N hnm gN gH hT hx q hl h
    · have q := runT1_3_1_true w.params x s.toks xc tc n t u y z cp ts vd vi vs nm
      rw [er] at q
      exact go1 C a L N hnm gN gH hT hx q hl h
  · have hl := les4 (a := (n.fmod 3).toNat) (r := 2) (by omega)
    rcases row_is w.params with er | er
    · have q := runT1_3_2_false w.params x s.toks xc tc n t u y z cp ts vd vi vs nm
      rw [er] at q
      exact go1 C a L N hnm gN gH hT hx q hl h
    · have q := runT1_3_2_true w.params x s.toks xc tc n t u y z cp ts vd vi vs nm
      rw [er] at q
      exact go1 C a L N hnm gN gH hT hx q hl h
theorem turn14 (C : Cm w) (a : AOk A) (L : LS w s.heap m) {n : Int} {t u : Tok} {y z cp : Nat} {ts : Nat → Nat} {vd vi vs : Value} (N : NmOk m 4 n t u y z vd vi vs) (gN : s.heap.get? (y + 57) = some (namesO ts cp)) (gH : s.heap.get? (z + 57) = some (headO ts)) (F : TabFull w.params s.heap) {Q : Flow → Shared → Prop} (h : After w s m Q) : wpAny (model prog0 w) A (execs turnBody lawEnv) Q E s := by
  obtain ⟨nm, hnm⟩ := L.ls
  obtain ⟨x, hx⟩ := L.size
  obtain ⟨xc, tc, hT⟩ := F
  have hr : n.fmod 3 = 0 ∨ n.fmod 3 = 1 ∨ n.fmod 3 = 2 := by
    rw [Int.fmod_eq_emod_of_nonneg n (by decide : (0 : Int) ≤ 3)]
    omega
  rcases hr with hr | hr | hr
  · have hl := les4 (a := (n.fmod 3).toNat) (r := 0) (by omega)
    rcases two_is w.params with er | er | er | er
    · have q := runT1_4_0_false_false w.params x s.toks xc tc n t u y z cp ts vd vi vs nm
      rw [er] at q
      exact go1 C a L N hnm gN gH hT hx q hl h
    · have q := runT1_4_0_false_true w.params x s.toks xc tc n t u y z cp ts vd vi vs nm
      rw [er] at q
      exact go1 C a L N hnm gN gH hT hx q hl h
    · have q := runT1_4_0_true_false w.params x s.toks xc tc n t u y z cp ts vd vi vs nm
      rw [er] at q
      exact go1 C a L N hnm gN gH hT hx q hl h
    · have q := runT1_4_0_true_true w.params x s.toks xc tc n t u y z cp ts vd vi vs nm
      rw [er] at q
      exact go1 C a L N hnm gN gH hT hx q hl h
  · have hl := les4 (a := (n.fmod 3).toNat) (r := 1) (by omega)
    rcases two_is w.params with er | er | er | er
    · have q := runT1_4_1_false_false w.params x s.toks xc tc n t u y z cp ts vd vi vs nm
      rw [er] at q
      exact go1 C a L N hnm gN gH hT hx q hl h
    · have q := runT1_4_1_false_true w.params x s.toks xc tc n t u y z cp ts vd vi vs nm
      rw [er] at q
      exact go1 C a L N hnm gN gH hT hx q hl h
    · have q := runT1_4_1_true_false w.params x s.toks xc tc n t u y z cp ts vd vi vs nm
      rw [er] at q
      exact go1 C a L N hnm gN gH hT hx q hl h
    · have q := runT1_4_1_true_true w.params x s.toks xc tc n t u y z cp ts vd vi vs nm
      rw [er] at q
      exact go1 C a L N hnm gN gH hT hx q hl h
  · have hl := les4 (a := (n.fmod 3).toNat) (r := 2) (by omega)
    rcases two_is w.params with er | er | er | er
    · have q := runT1_4_2_false_false w.params x s.toks xc tc n t u y z cp ts vd vi vs nm
      rw [er] at q
      exact go1 C a L N hnm gN gH hT hx q hl h
    · have q := runT1_4_2_false_true w.params x s.toks xc tc n t u y z cp ts vd vi vs nm
      rw [er] at q
      exact go1 C a L N hnm gN gH hT hx q hl h
    · have q := runT1_4_2_true_false w.params x s.toks xc tc n t u y z cp ts vd vi vs nm
      rw [er] at q
      exact go1 C a L N hnm gN gH hT hx q hl h
    · have q := runT1_4_2_true_true w.params x s.toks xc tc n t u y z cp ts vd vi vs nm
      rw [er] at q
      exact go1 C a L N hnm gN gH hT hx q hl h
theorem turn15 (C : Cm w) (a : AOk A) (L : LS w s.heap m) {n : Int} {t u : Tok} {y z cp : Nat} {ts : Nat → Nat} {vd vi vs : Value} (N : NmOk m 5 n t u y z vd vi vs) (gN : s.heap.get? (y + 57) = some (namesO ts cp)) (gH : s.heap.get? (z + 57) = some (headO ts)) (F : TabFull w.params s.heap) {Q : Flow → Shared → Prop} (h : After w s m Q) : wpAny (model prog0 w) A (execs turnBody lawEnv) Q E s := by
  obtain ⟨nm, hnm⟩ := L.ls
  obtain ⟨x, hx⟩ := L.size
  obtain ⟨xc, tc, hT⟩ := F
  have hr : n.fmod 2 = 0 ∨ n.fmod 2 = 1 := by
    rw [Int.fmod_eq_emod_of_nonneg n (by decide : (0 : Int) ≤ 2)]
    omega
  rcases hr with hr | hr
  · have hl := les4 (a := (n.fmod 2).toNat) (r := 0) (by omega)
    rcases row_is w.params with er | er
    · have q := runT1_5_0_false w.params x s.toks xc tc n t u y z cp ts vd vi vs nm
      rw [er] at q
      exact go1 C a L N hnm gN gH hT hx q hl h
    · have q := runT1_5_0_true w.params x s.toks xc tc n t u y z cp ts vd vi vs nm
      rw [er] at q
      exact go1 C a L N hnm gN gH hT hx q hl h
  · have hl := les4 (a := (n.fmod 2).toNat) (r := 1) (by omega)
    rcases row_is w.params with er | er
    · have q := runT1_5_1_false w.params x s.toks xc tc n t u y z cp ts vd vi vs nm
      rw [er] at q
      exact go1 C a L N hnm gN gH hT hx q hl h
    · have q := runT1_5_1_true w.params x s.toks xc tc n t u y z cp ts vd vi vs nm
      rw [er] at q
      exact go1 C a L N hnm gN gH hT hx q hl h
theorem turn16 (C : Cm w) (a : AOk A) (L : LS w s.heap m) {n : Int} {t u : Tok} {y z cp : Nat} {ts : Nat → Nat} {vd vi vs : Value} (N : NmOk m 6 n t u y z vd vi vs) (gN : s.heap.get? (y + 57) = some (namesO ts cp)) (gH : s.heap.get? (z + 57) = some (headO ts)) (F : TabFull w.params s.heap) {Q : Flow → Shared → Prop} (h : After w s m Q) : wpAny (model prog0 w) A (execs turnBody lawEnv) Q E s := by
  obtain ⟨nm, hnm⟩ := L.ls
  obtain ⟨x, hx⟩ := L.size
  obtain ⟨xc, tc, hT⟩ := F
  have hr : n.fmod 3 = 0 ∨ n.fmod 3 = 1 ∨ n.fmod 3 = 2 := by
    rw [Int.fmod_eq_emod_of_nonneg n (by decide : (0 : Int) ≤ 3)]
    omega
  rcases hr with hr | hr | hr
  · have hl := les4 (a := (n.fmod 3).toNat) (r := 0) (by omega)
    rcases row_is w.params with er | er
    · have q := runT1_6_0_false w.params x s.toks xc tc n t u y z cp ts vd vi vs nm
      rw [er] at q
      exact go1 C a L N hnm gN gH hT hx q hl h
    · have q := runT1_6_0_true w.params x s.toks xc tc n t u y z cp ts vd vi vs nm
      rw [er] at q
      exact go1 C a L N hnm gN gH hT hx q hl h
  · have hl := les4 (a := (n.fmod 3).toNat) (r := 1) (by omega)
    rcases row_is w.params with er | er
    · have q := runT1_6_1_false w.params x s.toks xc tc n t u y z cp ts vd vi vs nm
      rw [er] at q
      exact go1 C a L N hnm gN gH hT hx q hl h
    · have q := runT1_6_1_true w.params x s.toks xc tc n t u y z cp ts vd vi vs nm
      rw [er] at q
      exact go1 C a L N hnm gN gH hT hx q hl h
  · have hl := les4 (a := (n.fmod 3).toNat) (r := 2) (by omega)
    rcases row_is w.params with er | er
    · have q := runT1_6_2_false w.params x s.toks xc tc n t u y z cp ts vd vi vs nm
      rw [er] at q
      exact go1 C a L N hnm gN gH hT hx q hl h
    · have q := runT1_6_2_true w.params x s.toks xc tc n t u y z cp ts vd vi vs nm
      rw [er] at q
      exact go1 C a L N hnm gN gH hT hx q hl h
theorem turn17 (C : Cm w) (a : AOk A) (L : LS w s.heap m) {n : Int} {t u : Tok} {y z cp : Nat} {ts : Nat → Nat} {vd vi vs : Value} (N : NmOk m 7 n t u y z vd vi vs) (gN : s.heap.get? (y + 57) = some (namesO ts cp)) (gH : s.heap.get? (z + 57) = some (headO ts)) (F : TabFull w.params s.heap) {Q : Flow → Shared → Prop} (h : After w s m Q) : wpAny (model prog0 w) A (execs turnBody lawEnv) Q E s := by
  obtain ⟨nm, hnm⟩ := L.ls
  obtain ⟨x, hx⟩ := L.size
  obtain ⟨xc, tc, hT⟩ := F
  rcases row_is w.params with er | er
  · have q := runT1_7_0_false w.params x s.toks xc tc n t u y z cp ts vd vi vs nm
    rw [er] at q
    exact go1 C a L N hnm gN gH hT hx q les0 h
  · have q := runT1_7_0_true w.params x s.toks xc tc n t u y z cp ts vd vi vs nm
    rw [er] at q
    exact go1 C a L N hnm gN gH hT hx q les0 h
/-- a turn, of any sort -/
theorem turn_ok (C : Cm w) (a : AOk A) (L : LS w s.heap m) {k n : Int} {t u : Tok} {y z cp : Nat} {ts : Nat → Nat} {vd vi vs : Value} (N : NmOk m k n t u y z vd vi vs) (gN : s.heap.get? (y + 57) = some (namesO ts cp)) (gH : s.heap.get? (z + 57) = some (headO ts)) (h0 : 0 ≤ k) (h7 : k ≤ 7) (F : TabFull w.params s.heap ∨ (s.heap.get? 35 = some tab0 ∧ k = 0)) {Q : Flow → Shared → Prop} (h : After w s m Q) : wpAny (model prog0 w) A (execs turnBody lawEnv) Q E s := by
  rcases F with F | ⟨h35, rfl⟩
  · have hk : k = 0 ∨ k = 1 ∨ k = 2 ∨ k = 3 ∨ k = 4 ∨ k = 5 ∨ k = 6 ∨ k = 7 := by omega
    rcases hk with rfl | rfl | rfl | rfl | rfl | rfl | rfl | rfl
    · exact turn10 C a L N gN gH F h
    · exact turn11 C a L N gN gH F h
    · exact turn12 C a L N gN gH F h
    · exact turn13 C a L N gN gH F h
    · exact turn14 C a L N gN gH F h
    · exact turn15 C a L N gN gH F h
    · exact turn16 C a L N gN gH F h
    · exact turn17 C a L N gN gH F h
  · exact turn00 C a L N gN gH h35 h
end
end Mine

end
section
open PySem PySem.W PySem.Calls PySem.Spec PyProof.Rows
set_option maxRecDepth 100000
set_option maxHeartbeats 400000
namespace Mine
noncomputable def lawSt (i : Nat) : Stmt := lawParts.1.getD i (.Pass default)
theorem law_split : lawParts.1 = [lawSt 0, lawSt 1, lawSt 2, lawSt 3, lawSt 4, lawSt 5] := by kernel_rfl
theorem notClass : (lawEnv.scope.kind == .class || (lawEnv.scope.kind == .module && lawEnv.locals != lawEnv.globals)) = false := by kernel_rfl
theorem loc_n : lawEnv.kindOf ("n" : Str) = some .local := by kernel_rfl
theorem loc_i : lawEnv.kindOf ("i" : Str) = some .local := by kernel_rfl
theorem loc_j : lawEnv.kindOf ("j" : Str) = some .local := by kernel_rfl
theorem loc_sort : lawEnv.kindOf ("sort" : Str) = some .local := by kernel_rfl
theorem loc_draws : lawEnv.kindOf ("draws" : Str) = some .local := by kernel_rfl
theorem loc_script : lawEnv.kindOf ("script" : Str) = some .local := by kernel_rfl
theorem up_ne {o : Option Value} (x y : Str) {v u : Value} (h : x ≠ y) (hm : o = some u) : (if x = y then some v else o) = some u := (if_neg h).trans hm
theorem up_eq {o : Option Value} {x : Str} {v : Value} : (if x = x then some v else o) = some v := if_pos rfl
theorem TabFull.kq {P : Params} {h h' : Heap} (F : TabFull P h) (k : Kq h h') : TabFull P h' := by
  obtain ⟨xc, tc, F⟩ := F
  refine ⟨xc, tc, fun p hp => k _ _ (F p hp) ?_⟩
  intro q
  rcases tabs_low P xc tc p.1 (List.mem_map.mpr ⟨p, hp, rfl⟩) with r | r
  · rw [q] at r; exact absurd r (by decide)
  · rw [q] at r; exact absurd r (by decide)
theorem TabOk.kq {P : Params} {h h' : Heap} (F : TabOk P h) (k : Kq h h') : TabOk P h' := by
  rcases F with F | F
  · exact .inl (k _ _ F (by decide))
  · exact .inr (F.kq k)
section
variable {w : World} {A : Around} {m : Str → Option Value} {s : Shared} {E : Value → Shared → Prop}
theorem LS.kq (C : Cm w) {h h' : Heap} {m' : Str → Option Value} (L : LS w h m) (ls : ∃ nm, m' = nmap nm) (k : Kq h h') (ns : h'.Ns 56 m') : LS w h' m' :=
  ⟨ns, ls, fun a o ha => k a o (L.k0 a o ha) (by rintro rfl; exact absurd (C.kb _ _ ha) (by decide)), L.tab.kq k⟩
theorem LS.store (C : Cm w) (L : LS w s.heap m) {x : Str} {v : Value} (hx : lawEnv.kindOf x = some .local) {Q : Unit → Shared → Prop}
    (h : ∀ h', LS w h' (fun y => if y = x then some v else m y) → Heap.SameBut 56 s.heap h' → Q () { s with heap := h', toks := s.toks + 1 }) : wpAny (model prog0 w) A (storeName lawEnv x v) Q E s := by
  obtain ⟨nm, hnm⟩ := L.ls
  exact wpAny_storeName_local hx L.ns (fun h' ns sb => h h' (L.kq C ⟨(x, v) :: nm, by rw [nmap_cons, hnm]⟩ (sb_kq sb) ns) sb) notClass
theorem LS.name (L : LS w s.heap m) {x : Str} {pos : Pos} {v : Value} (hx : lawEnv.kindOf x = some .local) (hv : m x = some v) {Q : Value → Shared → Prop} (h : Q v s) (hd : (x == ("__debug__" : Str)) = false := by decide +kernel) : wpAny (model prog0 w) A (eval (.Name x pos) lawEnv) Q E s :=
  wpAny_Name (wpAny_loadName_local lawKind hx L.ns hv h) hd
/-- a tree that reads the top alone -/
theorem leaf (C : Cm w) (a : AOk A) (L : LS w s.heap m) {α : Type} {t : Sem α} {tz : Sem α} (ht : t = tz) {cert : List (Option Nat)} {v : α} {tk : Nat}
    (hrun : ∀ (x : Nat) (nm : List (Str × Value)), ∃ o, run (evB w.params x s.toks) (code (evB w.params x s.toks) 60) none tz ⟨[], [], 0, 0, cert, nm⟩ = some (.ok v, ⟨[], [], 0, tk, [], nm⟩, o) ∧ o.map Ob.dup = o ∧ lesOf o = [])
    {Q : α → Shared → Prop} (h : ∀ h', LS w h' m → Kq s.heap h' → Q v { s with heap := h', toks := s.toks + tk }) : wpAny (model prog0 w) A t Q E s := by
  obtain ⟨x, hx⟩ := L.size
  obtain ⟨nm, hnm⟩ := L.ls
  obtain ⟨o, hr, hd, hl⟩ := hrun x nm
  have H := mkHyp C L.k0 x s.toks [56] (fun b hb => .inr (by rw [List.mem_singleton.mp hb]; decide)) (.head _)
  have R0 : Rl (evB w.params x s.toks) s.heap [56] s.heap ⟨[], [], 0, 0, cert, nm⟩ := mkRl (led := []) (hnm ▸ L.ns) hx (fun p hp => by cases hp) List.nodup_nil (fun b hb => by cases hb)
  rw [ht]
  refine plain_ok (A := A) (sc := sc0) H 60 a.hd tz _ _ _ _ hr (oks_of_dup hd (by rw [hl]; simp)) Q E s.gens s.drawn s.os s.heap R0 fun h' R' => ?_
  have kq : Kq s.heap h' := fun b ob hb hn => R'.old b ob hb (by simpa using hn)
  have ns' : h'.Ns 56 m := by rw [hnm]; exact bot_ns R' rfl rfl
  exact h h' (L.kq C L.ls kq ns') kq
theorem ez : PySem.eval = srcZ.eval := congrArg Src.eval srcZ_eq
theorem glob_list (C : Cm w) (a : AOk A) (L : LS w s.heap m) {pos : Pos} {Q : Value → Shared → Prop} (h : ∀ h', LS w h' m → Kq s.heap h' → Q (.type "list") { s with heap := h' }) : wpAny (model prog0 w) A (eval (.Name ("list" : Str) pos) lawEnv) Q E s :=
  leaf C a L (t := eval (.Name ("list" : Str) pos) lawEnv) (tz := srcZ.eval (.Name ⟨#[108, 105, 115, 116]⟩ pos) lawEnv) (by rw [ez]; rfl) (cert := [none, none]) (v := .type "list") (tk := 0) (fun x nm => ⟨[.n 3 3, .n 0 0], by kernel_rfl, rfl, rfl⟩) fun h' L' k => h h' L' k
theorem glob_range (C : Cm w) (a : AOk A) (L : LS w s.heap m) {pos : Pos} {Q : Value → Shared → Prop} (h : ∀ h', LS w h' m → Kq s.heap h' → Q (.type "range") { s with heap := h' }) : wpAny (model prog0 w) A (eval (.Name ("range" : Str) pos) lawEnv) Q E s :=
  leaf C a L (t := eval (.Name ("range" : Str) pos) lawEnv) (tz := srcZ.eval (.Name ⟨#[114, 97, 110, 103, 101]⟩ pos) lawEnv) (by rw [ez]; rfl) (cert := [none, none]) (v := .type "range") (tk := 0) (fun x nm => ⟨[.n 3 3, .n 0 0], by kernel_rfl, rfl, rfl⟩) fun h' L' k => h h' L' k
theorem glob_len (C : Cm w) (a : AOk A) (L : LS w s.heap m) {pos : Pos} {Q : Value → Shared → Prop} (h : ∀ h', LS w h' m → Kq s.heap h' → Q (.builtin "len") { s with heap := h' }) : wpAny (model prog0 w) A (eval (.Name ("len" : Str) pos) lawEnv) Q E s :=
  leaf C a L (t := eval (.Name ("len" : Str) pos) lawEnv) (tz := srcZ.eval (.Name ⟨#[108, 101, 110]⟩ pos) lawEnv) (by rw [ez]; rfl) (cert := [none, none]) (v := .builtin "len") (tk := 0) (fun x nm => ⟨[.n 3 3, .n 0 0], by kernel_rfl, rfl, rfl⟩) fun h' L' k => h h' L' k
theorem push_kq {h : Heap} (o : Obj) : Kq h (h.push o) := fun _ _ ha _ => Heap.get?_push_of_some _ ha
theorem LS.push (C : Cm w) {hh : Heap} (L : LS w hh m) (o : Obj) : LS w (hh.push o) m := L.kq C L.ls (push_kq o) (L.ns.push _)
/-- a change of an iterator alone -/
theorem LS.iter (C : Cm w) {h h' : Heap} (L : LS w h m) {it : Addr} (h57 : 57 ≤ it) (hi : ∀ o, h.get? it = some o → notIter o = false) (k : ∀ a o, a ≠ it → h.get? a = some o → h'.get? a = some o) : LS w h' m := by
  refine ⟨?_, L.ls, fun a o ha => k a o ?_ (L.k0 a o ha), L.tab.keep2 fun a o ha _ hn => k a o ?_ ha⟩
  · obtain ⟨o, es, ep, h1, h2, h3⟩ := L.ns
    exact ⟨o, es, ep, k 56 o (by rintro rfl; exact absurd h57 (by decide)) h1, h2, h3⟩
  · rintro rfl
    exact absurd (Nat.lt_of_lt_of_le (C.kb _ _ ha) (Nat.le_trans (by decide) h57)) (Nat.lt_irrefl _)
  · rintro rfl
    rw [hi o ha] at hn
    cases hn
theorem TabFull.iter {P : Params} {h h' : Heap} (F : TabFull P h) {it : Addr} (hi : ∀ o, h.get? it = some o → notIter o = false) (k : ∀ a o, a ≠ it → h.get? a = some o → h'.get? a = some o) : TabFull P h' :=
  F.keep2 fun a o ha _ hn => k a o (by rintro rfl; rw [hi o ha] at hn; cases hn) ha
/-- a change of a list alone -/
theorem LS.seq (C : Cm w) {h h' : Heap} (L : LS w h m) {it : Addr} (h57 : 57 ≤ it) (hi : ∀ o, h.get? it = some o → isFields o = false) (k : ∀ a o, a ≠ it → h.get? a = some o → h'.get? a = some o) : LS w h' m := by
  refine ⟨?_, L.ls, fun a o ha => k a o ?_ (L.k0 a o ha), L.tab.keep2 fun a o ha hn _ => k a o ?_ ha⟩
  · obtain ⟨o, es, ep, h1, h2, h3⟩ := L.ns
    exact ⟨o, es, ep, k 56 o (by rintro rfl; exact absurd h57 (by decide)) h1, h2, h3⟩
  · rintro rfl
    exact absurd (Nat.lt_of_lt_of_le (C.kb _ _ ha) (Nat.le_trans (by decide) h57)) (Nat.lt_irrefl _)
  · rintro rfl
    rw [hi o ha] at hn
    cases hn
end
noncomputable def tsOf (tok tok' i : Nat) : Nat := match Nat.blt i 8 with
  | true => tok + i
  | false => tok' + (i - 8)
theorem run_names (P : Params) (x tok tok' : Nat) (nm : List (Str × Value)) : (fnsL (evB P x tok) 60 40 30).exec sc0 (lawSt 0) lawEnv ⟨[], [], 0, 0, [], nm⟩
    = some (.ok .next, ⟨[(x + 57, namesO (tsOf tok tok') 0)], [], 1, 9, [], (("names" : Str), .ref (x + 57)) :: nm⟩, []) := by kernel_rfl
theorem run_header (P : Params) (x tok tok' : Nat) (nm : List (Str × Value)) : (fnsL (evB P x tok') 60 40 30).exec sc0 (lawSt 1) lawEnv ⟨[], [], 0, 0, [], nm⟩
    = some (.ok .next, ⟨[(x + 57, headO (tsOf tok tok'))], [], 1, 3, [], (("header" : Str), .ref (x + 57)) :: nm⟩, []) := by kernel_rfl
section
variable {w : World} {A : Around} {m : Str → Option Value} {s : Shared} {E : Value → Shared → Prop}
/-- a statement of law's own that makes one object, by its run -/
theorem use_stmt (C : Cm w) (a : AOk A) (L : LS w s.heap m) {st : Stmt} {v : Str} {o : Obj} {tk : Nat}
    (hr : ∀ x nm, (fnsL (evB w.params x s.toks) 60 40 30).exec sc0 st lawEnv ⟨[], [], 0, 0, [], nm⟩ = some (.ok .next, ⟨[(x + 57, o)], [], 1, tk, [], (v, .ref (x + 57)) :: nm⟩, [])) {Q : Flow → Shared → Prop}
    (h : ∀ h' y, LS w h' (fun z => if z = v then some (.ref (y + 57)) else m z) → Kq s.heap h' → h'.get? (y + 57) = some o → Q .next { s with heap := h', toks := s.toks + tk }) : wpAny (model prog0 w) A (exec st lawEnv) Q E s := by
  obtain ⟨x, hx⟩ := L.size
  obtain ⟨nm, hnm⟩ := L.ls
  have H := mkHyp C L.k0 x s.toks [56] (fun b hb => .inr (by rw [List.mem_singleton.mp hb]; decide)) (.head _)
  have R0 : Rl (evB w.params x s.toks) s.heap [56] s.heap ⟨[], [], 0, 0, [], nm⟩ := mkRl (led := []) (hnm ▸ L.ns) hx (fun p hp => by cases hp) List.nodup_nil (fun b hb => by cases hb)
  have ho : Oks [] := fun p hp => by cases hp
  refine (fnsL_ok H 60 40 30).exec sc0 A (a.sc _ rfl) _ _ _ _ _ _ (hr x nm) ho Q E s.gens s.drawn s.os s.heap R0 fun h' R' => ?_
  have kq : Kq s.heap h' := fun b ob hb hn => R'.old b ob hb (by simpa using hn)
  have ns' : h'.Ns 56 (nmap ((v, .ref (x + 57)) :: nm)) := bot_ns R' rfl rfl
  rw [nmap_cons, ← hnm] at ns'
  exact h h' x (L.kq C ⟨(v, .ref (x + 57)) :: nm, by rw [nmap_cons, ← hnm]⟩ kq ns') kq (R'.led (x + 57, o) (.head _))
theorem names_ok (C : Cm w) (a : AOk A) (L : LS w s.heap m) (tok' : Nat) {Q : Flow → Shared → Prop}
    (h : ∀ h' y, LS w h' (fun z => if z = ("names" : Str) then some (.ref (y + 57)) else m z) → Kq s.heap h' → h'.get? (y + 57) = some (namesO (tsOf s.toks tok') 0) → Q .next { s with heap := h', toks := s.toks + 9 }) : wpAny (model prog0 w) A (exec (lawSt 0) lawEnv) Q E s :=
  use_stmt (st := lawSt 0) (v := ("names" : Str)) (o := namesO (tsOf s.toks tok') 0) (tk := 9) C a L (fun x nm => run_names w.params x s.toks tok' nm) h
theorem header_ok (C : Cm w) (a : AOk A) (L : LS w s.heap m) (tok : Nat) {Q : Flow → Shared → Prop}
    (h : ∀ h' y, LS w h' (fun z => if z = ("header" : Str) then some (.ref (y + 57)) else m z) → Kq s.heap h' → h'.get? (y + 57) = some (headO (tsOf tok s.toks)) → Q .next { s with heap := h', toks := s.toks + 3 }) : wpAny (model prog0 w) A (exec (lawSt 1) lawEnv) Q E s :=
  use_stmt (st := lawSt 1) (v := ("header" : Str)) (o := headO (tsOf tok s.toks)) (tk := 3) C a L (fun x nm => run_header w.params x tok s.toks nm) h
end
end Mine

end
section
open PySem PySem.W PySem.Calls PySem.Spec PyProof.Rows
set_option maxRecDepth 100000
set_option maxHeartbeats 400000
namespace Mine
section
variable {w : World} {A : Around} {m : Str → Option Value} {s : Shared} {E : Value → Shared → Prop}
/-- draws = list(script) -/
theorem draws_ok (C : Cm w) (a : AOk A) (L : LS w s.heap m) {items : Array Value} (hs : m ("script" : Str) = some (.ref 55)) (hl : s.heap.IsList 55 items) (hsz : items.size ≤ 63) {Q : Flow → Shared → Prop}
    (h : ∀ h' tk l c, LS w h' (fun y => if y = ("draws" : Str) then some (.ref l) else m y) → Kq s.heap h' → (∀ b o, s.heap.get? b = some o → b ≠ 56 → b ≠ l) → 57 ≤ l → h'.get? l = some { cls := .type "list", dict := none, data := .seq items c, slots := #[] } → Q .next { s with heap := h', toks := tk }) : wpAny (model prog0 w) A (exec (lawSt 2) lawEnv) Q E s := by
  show wpAny _ _ (exec (.Assign [.Name ("draws" : Str) _] (.Call (.Name ("list" : Str) _) [.Name ("script" : Str) _] [] _) _) lawEnv) _ _ _
  refine wpAny_Assign_Name ?_ rfl
  show wpAny _ _ (PySem.eval (.Name ("list" : Str) _) lawEnv >>= fun f => callWith _ f [] [(false, PySem.eval (.Name ("script" : Str) _) lawEnv)] []) _ _ _
  refine wpAny_bind (glob_list C a L fun h1 L1 k1 => ?_)
  refine PyProof.Rows.callWith_type rfl (evalArgs_plain (spliced_cons (LS.name (s := { s with heap := h1 }) L1 loc_script hs (spliced_nil ?_))))
  obtain ⟨o, q1, q2, n, q3⟩ := hl
  refine call_list_seq (s := { s with heap := h1 }) 55 (.inl rfl) (k1 _ _ q1 (by decide)) q2 q3 (fun h2 c k2 g2 => ?_) (Nat.le_trans hsz (by decide))
  have L2 : LS w h2 m := L1.kq C L1.ls (fun b ob hb _ => k2 _ _ hb) (by
    obtain ⟨o, es, ep, h1, h2, h3⟩ := L1.ns
    exact ⟨o, es, ep, k2 _ _ h1, h2, h3⟩)
  have h52 : 57 ≤ h1.objs.size := L1.ns.lt
  refine LS.store (s := { s with heap := h2 }) C L2 loc_draws fun h3 L3 sb => h h3 _ _ c L3 (fun b ob hb hn => sb_kq sb b ob (k2 _ _ (k1 b ob hb hn)) hn) (fun b ob hb hn q => Nat.lt_irrefl _ (q ▸ Heap.lt_size (k1 b ob hb hn))) h52 (sb_kq sb _ _ g2 ?_)
  intro q
  have q' : h1.objs.size = 56 := q
  rw [q'] at h52
  exact absurd h52 (by decide)
end
noncomputable def jBody : List Stmt := match lawParts.1 with
  | [_, _, _, .For _ _ b _ _, _, _] => b
  | _ => []
section
variable {w : World} {A : Around} {m : Str → Option Value} {s : Shared} {E : Value → Shared → Prop}
/-- draws.append(j + 9 * len(script)) -/
theorem jturn (C : Cm w) (a : AOk A) (L : LS w s.heap m) {l : Addr} {its items : Array Value} {x : Int} {t : Tok} (hj : m ("j" : Str) = some (.int x t)) (hdr : m ("draws" : Str) = some (.ref l)) (hs : m ("script" : Str) = some (.ref 55)) (hl : PlainL s.heap l its) (h52 : 57 ≤ l) (h5 : s.heap.IsList 55 items) (hz : items.size ≤ 63) (hz2 : its.size ≤ 100) {Q : Flow → Shared → Prop}
    (h : ∀ h' tk z u, LS w h' m → PlainL h' l (its.push (.int z u)) → (∀ b o, s.heap.get? b = some o → b ≠ 56 → b ≠ l → h'.get? b = some o) → Q .next { s with heap := h', toks := tk }) : wpAny (model prog0 w) A (execs jBody lawEnv) Q E s := by
  show wpAny _ _ (execs [.Expr (.Call (.Attribute (.Name ("draws" : Str) _) ("append" : Str) _) [.BinOp (.Name ("j" : Str) _) .Add (.BinOp (.Constant (.int 9) _ _) .Mult (.Call (.Name ("len" : Str) _) [.Name ("script" : Str) _] [] _) _) _] [] _) _] lawEnv) _ _ _
  refine wpAny_execs_cons (wpAny_Expr (wpAny_Call_append rfl rfl rfl rfl (L.name loc_draws hdr ⟨l, its, rfl, hl, ?_⟩)))
  refine wpAny_BinOp (L.name loc_j hj (wpAny_BinOp (wpAny_Constant_int ?_)))
  show wpAny _ _ (PySem.eval (.Name ("len" : Str) _) lawEnv >>= fun f => callWith _ f [] [(false, PySem.eval (.Name ("script" : Str) _) lawEnv)] []) _ _ _
  refine wpAny_bind (glob_len (s := { s with toks := s.toks + 1 }) C a L fun h1 L1 k1 => ?_)
  refine Calls.callWith_builtin rfl (evalArgs_plain (spliced_cons (LS.name (s := { s with heap := h1, toks := s.toks + 1 }) L1 loc_script hs (spliced_nil ?_))))
  obtain ⟨o5, q1, q2⟩ := h5
  refine PyProof.Rows.len_list (s := { s with heap := h1, toks := s.toks + 1 }) (items := items) ⟨o5, k1 _ _ q1 (by decide), q2⟩ (by omega) (mul_int (add_int ?_))
  have l51 : l ≠ 56 := by rintro rfl; exact absurd h52 (by decide)
  have hl1 : PlainL h1 l its := by
    obtain ⟨o, n, e, r⟩ := hl
    exact ⟨o, n, k1 _ _ e l51, r⟩
  have hz3 : its.size ≤ sizeLine := Nat.le_trans hz2 (by decide)
  refine list_append_plainL (s := { s with heap := h1, toks := _ }) hl1 (fun h2 p2 sb2 => wpAny_execs_nil ?_) hz3
  have hns : ∀ o, h1.get? l = some o → isFields o = false := fun o ho => by
    obtain ⟨o', n, e, _, _, r⟩ := hl1
    rw [ho] at e
    cases e
    unfold isFields
    rw [r]
  exact h h2 _ _ _ (L1.seq C h52 hns fun b o hb ho => (sb2.2 b hb).trans ho) p2 fun b o hb h1 h2 => (sb2.2 b h2).trans (k1 b o hb h1)
end
section
variable {w : World} {A : Around} {m : Str → Option Value} {s : Shared} {E : Value → Shared → Prop}
/-- for j in range(8): draws.append(..) -/
theorem loop1 (C : Cm w) (a : AOk A) (L : LS w s.heap m) {l : Addr} {its items : Array Value} (hdr : m ("draws" : Str) = some (.ref l)) (hs : m ("script" : Str) = some (.ref 55)) (hl : PlainL s.heap l its) (hi : ∀ v ∈ its, ∃ n t, v = .int n t) (h52 : 57 ≤ l) (h5 : s.heap.IsList 55 items) (hz : items.size ≤ 63) (hz2 : its.size ≤ 63) {Q : Flow → Shared → Prop}
    (h : ∀ h' tk m' its', LS w h' m' → (∀ x, x ≠ ("j" : Str) → m' x = m x) → its'.size ≤ 71 → PlainL h' l its' → (∀ v ∈ its', ∃ n t, v = .int n t) → (∀ b o, s.heap.get? b = some o → b ≠ 56 → b ≠ l → h'.get? b = some o) → Q .next { s with heap := h', toks := tk }) : wpAny (model prog0 w) A (exec (lawSt 3) lawEnv) Q E s := by
  show wpAny _ _ (exec (.For (.Name ("j" : Str) _) (.Call (.Name ("range" : Str) _) [.Constant (.int 8) _ _] [] _) jBody [] _) lawEnv) _ _ _
  refine wpAny_For ?_
  show wpAny _ _ (PySem.eval (.Name ("range" : Str) _) lawEnv >>= fun f => callWith _ f [] [(false, PySem.eval (.Constant (.int 8) 0 default) lawEnv)] []) _ _ _
  refine wpAny_bind (glob_range C a L fun h1 L1 k1 => ?_)
  refine PyProof.Rows.callWith_type rfl (evalArgs_plain (spliced_cons (wpAny_Constant_int (spliced_nil ?_))))
  refine call_range_1 (s := { s with heap := h1, toks := s.toks + 1 }) ?_
  refine wpAny_pyIter_range (IsRange.new _ _ _ _ _ _ _) (by decide) ?_
  have kk : ∀ b o, s.heap.get? b = some o → b ≠ 56 → ((h1.push { cls := .type "range", data := .fields #[.int 0 (s.toks + 1), .int 8 s.toks, .int 1 (s.toks + 1 + 1)] })).get? b = some o := fun b o hb hn => Heap.get?_push_of_some _ (k1 b o hb hn)
  have L2 := L1.push C { cls := .type "range", data := .fields #[.int 0 (s.toks + 1), .int 8 s.toks, .int 1 (s.toks + 1 + 1)] }
  show codeAny _ _ (.forLoop _ (.ref (h1.push { cls := .type "range", data := .fields #[.int 0 (s.toks + 1), .int 8 s.toks, .int 1 (s.toks + 1 + 1)] }).objs.size) _ _ _) _ { s with heap := (h1.push { cls := .type "range", data := .fields #[.int 0 (s.toks + 1), .int 8 s.toks, .int 1 (s.toks + 1 + 1)] }).push _, toks := _ }
  generalize h1.push { cls := .type "range", data := .fields #[.int 0 (s.toks + 1), .int 8 s.toks, .int 1 (s.toks + 1 + 1)] } = h2 at *
  generalize hit : h2.objs.size = it
  have hit52 : 57 ≤ it := by rw [← hit]; exact L2.ns.lt
  have bit : ∀ b o, h2.get? b = some o → b ≠ it := fun b o hb q => by
    have := Heap.lt_size hb
    rw [hit, q] at this
    exact Nat.lt_irrefl _ this
  have big : ∀ b : Nat, 57 ≤ b → b ≠ 35 ∧ b ≠ 56 := fun b hb => ⟨by omega, by omega⟩
  have lit : l ≠ it := by
    obtain ⟨o, n, q1, _⟩ := hl
    exact bit l o (kk l o q1 (big l h52).2)
  refine codeAny_forLoop (fun r s' => ∃ (x left : Int) (m' : Str → Option Value) (h' : Heap) (tk : Nat) (its' : Array Value), r = left.toNat ∧ 0 ≤ left ∧ (its'.size : Int) + left ≤ 71 ∧ s' = { s with heap := h', toks := tk } ∧ LS w h' m' ∧ (∀ x, x ≠ ("j" : Str) → m' x = m x) ∧ PlainL h' l its' ∧ (∀ v ∈ its', ∃ n t, v = .int n t) ∧ IsRangeIter h' it x left 1 ∧ (∀ b o, s.heap.get? b = some o → b ≠ 56 → b ≠ l → h'.get? b = some o)) ?_ 8 ?_
  · rintro r _ ⟨x, left, m', h', tk, its', rfl, p0, p1, rfl, L', pm, pl, pi, pit, pk⟩
    have hni : ∀ o, h'.get? it = some o → notIter o = false := fun o ho => by
      rw [pit] at ho
      cases ho
      rfl
    by_cases hle : left ≤ 0
    · refine wpAny_pyNext_range_end (s := { s with heap := h', toks := tk }) a.hd pit hle fun h4 eb => wpAny_execs_nil ?_
      exact h h4 tk m' its' (L'.iter C hit52 hni eb) pm (by omega) (pl.extBut eb lit) pi fun b o hb q1 q2 => eb b o (bit b o (kk b o hb q1)) (pk b o hb q1 q2)
    · refine wpAny_pyNext_range_item (s := { s with heap := h', toks := tk }) pit (by omega) fun h4 pit4 sb4 => ?_
      have k4 : ∀ b o, b ≠ it → h'.get? b = some o → h4.get? b = some o := fun b o hb ho => (sb4.2 b hb).trans ho
      refine wpAny_assign_Name (LS.store (s := { s with heap := h4, toks := tk + 1 }) C (L'.iter C hit52 hni k4) loc_j fun h5' L5 sb5 => ?_)
      have k5 : ∀ b o, b ≠ it → b ≠ 56 → h'.get? b = some o → h5'.get? b = some o := fun b o q1 q2 ho => sb_kq sb5 b o (k4 b o q1 ho) q2
      obtain ⟨o5, g1, g2⟩ := h5
      obtain ⟨ol, nl, g3, g4⟩ := pl
      refine jturn (s := { s with heap := h5', toks := tk + 1 + 1 }) (items := items) C a L5 up_eq (up_ne "draws" "j" (by decide +kernel) ((pm _ (by decide +kernel)).trans hdr)) (up_ne "script" "j" (by decide +kernel) ((pm _ (by decide +kernel)).trans hs)) ⟨ol, nl, k5 l ol lit (big l h52).2 g3, g4⟩ h52 ⟨o5, k5 55 o5 (bit 55 o5 (kk 55 o5 g1 (by decide))) (by decide) (pk 55 o5 g1 (by decide) (by rintro rfl; exact absurd h52 (by decide))), g2⟩ hz (by omega) fun h6 tk6 z u L6 p6 k6 => ?_
      refine ⟨(left - 1).toNat, by omega, x + 1, left - 1, _, h6, tk6, _, rfl, by omega, by rw [Array.size_push]; omega, rfl, L6, fun x hx => (if_neg hx).trans (pm x hx), p6, ?_, k6 it _ (sb_kq sb5 it _ pit4 (big it hit52).2) (big it hit52).2 (Ne.symm lit), fun b o hb q1 q2 => k6 b o (k5 b o (bit b o (kk b o hb q1)) q1 (pk b o hb q1 q2)) q1 q2⟩
      intro v hv
      rcases Array.mem_push.mp hv with hv | rfl
      · exact pi v hv
      · exact ⟨_, _, rfl⟩
  · refine ⟨0, 8, m, _, _, its, rfl, by decide, by omega, rfl, L2.push C _, fun _ _ => rfl, ?_, hi, ?_, fun b o hb q1 _ => Heap.get?_push_of_some _ (kk b o hb q1)⟩
    · obtain ⟨o, n, q1, q2⟩ := hl
      exact ⟨o, n, Heap.get?_push_of_some _ (kk l o q1 (big l h52).2), q2⟩
    · rw [← hit]
      exact Heap.get?_push_size _ rfl
end
end Mine

end
section
open PySem PySem.W PySem.Calls PySem.Spec PyProof.Rows
set_option maxRecDepth 100000
set_option maxHeartbeats 400000
namespace Mine
noncomputable def outBody : List Stmt := match lawParts.1 with
  | [_, _, _, _, .For _ _ b _ _, _] => b
  | _ => []
noncomputable def outSt (i : Nat) : Stmt := outBody.getD i (.Pass default)
theorem out_split : outBody = [outSt 0, outSt 1] := by kernel_rfl
theorem mod8 (n : Int) : 0 ≤ n.fmod 8 ∧ n.fmod 8 ≤ 7 := by
  rw [Int.fmod_eq_emod_of_nonneg n (by decide : (0 : Int) ≤ 8)]
  omega
section
variable {w : World} {A : Around} {m : Str → Option Value} {s : Shared} {E : Value → Shared → Prop}
theorem key_n : ("n" : Str) ∈ keysT := by decide +kernel
theorem key_names : ("names" : Str) ∈ keysT := by decide +kernel
theorem key_header : ("header" : Str) ∈ keysT := by decide +kernel
theorem key_draws : ("draws" : Str) ∈ keysT := by decide +kernel
theorem key_i : ("i" : Str) ∈ keysT := by decide +kernel
theorem key_script : ("script" : Str) ∈ keysT := by decide +kernel
theorem key_sort : ∀ x ∈ keysT, x ≠ ("sort" : Str) := by decide +kernel
/-- what the outer loop keeps of the names -/
structure NmI (m : Str → Option Value) (n i : Int) (u t : Tok) (y z : Nat) (vd vs : Value) : Prop where
  n : m ("n" : Str) = some (.int n u)
  names : m ("names" : Str) = some (.ref (y + 57))
  header : m ("header" : Str) = some (.ref (z + 57))
  draws : m ("draws" : Str) = some vd
  i : m ("i" : Str) = some (.int i t)
  script : m ("script" : Str) = some vs
theorem NmI.keys {m m' : Str → Option Value} {n i : Int} {u t : Tok} {y z : Nat} {vd vs : Value} (N : NmI m n i u t y z vd vs) (h : ∀ x ∈ keysT, m' x = m x) : NmI m' n i u t y z vd vs :=
  ⟨(h _ key_n).trans N.n, (h _ key_names).trans N.names, (h _ key_header).trans N.header, (h _ key_draws).trans N.draws, (h _ key_i).trans N.i, (h _ key_script).trans N.script⟩
/-- for sort in [i % 8, n % 8]: .. -/
theorem inner (C : Cm w) (a : AOk A) (L : LS w s.heap m) {n i : Int} {u t : Tok} {y z cp : Nat} {ts : Nat → Nat} {vd vs : Value} (N : NmI m n i u t y z vd vs) (gN : s.heap.get? (y + 57) = some (namesO ts cp)) (gH : s.heap.get? (z + 57) = some (headO ts))
    (F : TabFull w.params s.heap ∨ (s.heap.get? 35 = some tab0 ∧ i = 0)) {Q : Flow → Shared → Prop} (h : After w s m Q) : wpAny (model prog0 w) A (exec (outSt 1) lawEnv) Q E s := by
  show wpAny _ _ (exec (.For (.Name ("sort" : Str) _) (.List [.BinOp (.Name ("i" : Str) _) .Mod (.Constant (.int 8) _ _) _, .BinOp (.Name ("n" : Str) _) .Mod (.Constant (.int 8) _ _) _] _) turnBody [] _) lawEnv) _ _ _
  refine wpAny_For (wpAny_List ?_)
  show wpAny _ _ (spliced [(false, PySem.eval (.BinOp (.Name ("i" : Str) _) .Mod (.Constant (.int 8) _ _) _) lawEnv), (false, PySem.eval (.BinOp (.Name ("n" : Str) _) .Mod (.Constant (.int 8) _ _) _) lawEnv)]) _ _ _
  refine spliced_cons (wpAny_BinOp (L.name loc_i N.i (wpAny_Constant_int (mod_int (by decide) ?_))))
  refine spliced_cons (wpAny_BinOp (LS.name (s := { s with toks := s.toks + 1 + 1 }) L loc_n N.n (wpAny_Constant_int (mod_int (by decide) (spliced_nil ⟨by show 2 ≤ sizeLine; decide, ?_⟩)))))
  generalize s.toks + 1 = t1
  generalize hit1 : t1 + 1 + 1 = t2
  show wpAny _ _ (pyIter (.ref s.heap.objs.size)) _ _ { s with heap := s.heap.push { cls := .type "list", data := .seq #[.int (i.fmod 8) t1, .int (n.fmod 8) t2] }, toks := t2 + 1 }
  generalize hits : (#[.int (i.fmod 8) t1, .int (n.fmod 8) t2] : Array Value) = items
  have sz : items.size = 2 := by rw [← hits]; rfl
  generalize hl : s.heap.objs.size = l
  have l57 : 57 ≤ l := by rw [← hl]; exact L.ns.lt
  have bl : ∀ b o, s.heap.get? b = some o → b ≠ l := fun b o hb q => by
    have := Heap.lt_size hb
    rw [hl, q] at this
    exact Nat.lt_irrefl _ this
  have hlist : (s.heap.push { cls := .type "list", data := .seq items }).IsList l items := by
    rw [← hl]
    exact ⟨_, Heap.get?_push_size _ rfl, rfl, _, rfl⟩
  have L0 := L.push C { cls := .type "list", data := .seq items }
  have kq0 : Kq s.heap (s.heap.push { cls := .type "list", data := .seq items }) := push_kq _
  generalize hh0 : s.heap.push { cls := .type "list", data := .seq items } = h0 at *
  refine wpAny_pyIter_list (s := { s with heap := h0, toks := t2 + 1 }) hlist ?_
  show codeAny _ _ (.forLoop _ (.ref h0.objs.size) _ _ _) _ { s with heap := h0.push _, toks := t2 + 1 }
  generalize hit : h0.objs.size = it
  have it57 : 57 ≤ it := by rw [← hit]; exact L0.ns.lt
  have bit : ∀ b o, h0.get? b = some o → b ≠ it := fun b o hb q => by
    have := Heap.lt_size hb
    rw [hit, q] at this
    exact Nat.lt_irrefl _ this
  have big : ∀ b : Nat, 57 ≤ b → b ≠ 35 ∧ b ≠ 56 := fun b hb => ⟨by omega, by omega⟩
  obtain ⟨l35, l56⟩ := big l l57
  obtain ⟨i35, i56⟩ := big it it57
  have lit : l ≠ it := by
    obtain ⟨o, q1, _⟩ := hlist
    exact bit l o q1
  refine codeAny_forLoop (fun r s' => ∃ j m' h' tk, r = items.size - j ∧ s' = { s with heap := h', toks := tk } ∧ LS w h' m' ∧ h'.IsList l items ∧ h'.IsListIter it l j ∧ Kp s.heap h' ∧ (∀ x ∈ keysT, m' x = m x) ∧ (TabFull w.params h' ∨ (h'.get? 35 = some tab0 ∧ i = 0 ∧ j = 0))) ?_ (items.size - 0) ⟨0, m, _, _, rfl, rfl, L0.push C _, ?_, ?_, ?_, fun _ _ => rfl, ?_⟩
  · rintro r _ ⟨j, m', h', tk, rfl, rfl, L', hl', hit', kp, km, hF⟩
    have hni : ∀ o, h'.get? it = some o → notIter o = false := fun o ho => by
      obtain ⟨o', q1, q2, _⟩ := hit'
      rw [ho] at q1
      cases q1
      unfold notIter
      rw [q2]
      decide +kernel
    have bit' : ∀ b o, s.heap.get? b = some o → b ≠ 56 → b ≠ it := fun b o hb q => bit b o (kq0 b o hb q)
    cases hx : items[j]? with
    | none =>
      have hF' : TabFull w.params h' := by
        rcases hF with hF | ⟨_, _, rfl⟩
        · exact hF
        · rw [← hits] at hx; cases hx
      refine wpAny_pyNext_list_end (s := { s with heap := h', toks := tk }) a.hd hit' hl' hx fun h1 eb => wpAny_execs_nil ?_
      exact h h1 tk m' (L'.iter C it57 hni eb) (hF'.iter hni eb) (fun b o hb q1 q2 => eb b o (bit' b o hb q2) (kp b o hb q1 q2)) km
    | some x =>
      refine wpAny_pyNext_list_item (s := { s with heap := h', toks := tk }) hit' hl' hx fun h1 hit1 sb1 => ?_
      have k1 : ∀ b o, b ≠ it → h'.get? b = some o → h1.get? b = some o := fun b o hb ho => (sb1.2 b hb).trans ho
      have L1 : LS w h1 m' := L'.iter C it57 hni k1
      refine wpAny_assign_Name (LS.store (s := { s with heap := h1, toks := tk }) C L1 loc_sort fun h2 L2 sb2 => ?_)
      have k2 : ∀ b o, b ≠ it → b ≠ 56 → h'.get? b = some o → h2.get? b = some o := fun b o q1 q2 ho => sb_kq sb2 b o (k1 b o q1 ho) q2
      have hlt : j < items.size := by
        rcases Nat.lt_or_ge j items.size with q | q
        · exact q
        · rw [Array.getElem?_eq_none q] at hx; cases hx
      have hx' : ∃ k t', x = .int k t' ∧ 0 ≤ k ∧ k ≤ 7 ∧ (i = 0 → j = 0 → k = 0) := by
        rw [← hits] at hx
        have hj : j = 0 ∨ j = 1 := by omega
        rcases hj with rfl | rfl
        · cases hx
          exact ⟨_, _, rfl, (mod8 i).1, (mod8 i).2, fun q _ => by rw [q]; rfl⟩
        · cases hx
          exact ⟨_, _, rfl, (mod8 n).1, (mod8 n).2, fun _ q => by omega⟩
      obtain ⟨k, t', rfl, k0, k7, kz⟩ := hx'
      have hF2 : TabFull w.params h2 ∨ (h2.get? 35 = some tab0 ∧ k = 0) := by
        rcases hF with hF | ⟨q1, q2, q3⟩
        · exact .inl ((hF.iter hni k1).kq (sb_kq sb2))
        · exact .inr ⟨k2 35 _ (Ne.symm i35) (by decide) q1, kz q2 q3⟩
      have NI := N.keys km
      have NN : NmOk (fun v => if v = ("sort" : Str) then some (.int k t') else m' v) k n t' u y z vd (.int i t) vs :=
        ⟨up_eq, up_ne "n" "sort" (by decide +kernel) NI.n, up_ne "names" "sort" (by decide +kernel) NI.names, up_ne "header" "sort" (by decide +kernel) NI.header, up_ne "draws" "sort" (by decide +kernel) NI.draws, up_ne "i" "sort" (by decide +kernel) NI.i, up_ne "script" "sort" (by decide +kernel) NI.script⟩
      have y56 : y + 57 ≠ 35 ∧ y + 57 ≠ 56 := big _ (Nat.le_add_left _ _)
      have z56 : z + 57 ≠ 35 ∧ z + 57 ≠ 56 := big _ (Nat.le_add_left _ _)
      have gN2 := k2 _ _ (bit' _ _ gN y56.2) y56.2 (kp _ _ gN y56.1 y56.2)
      have gH2 := k2 _ _ (bit' _ _ gH z56.2) z56.2 (kp _ _ gH z56.1 z56.2)
      refine turn_ok (s := { s with heap := h2, toks := tk + 1 }) C a L2 NN gN2 gH2 k0 k7 hF2 fun h3 tk3 m3 L3 F3 kp3 km3 => ?_
      refine ⟨items.size - (j + 1), by omega, j + 1, m3, h3, tk3, rfl, rfl, L3, ?_, ?_, fun b o hb q1 q2 => kp3 b o (k2 b o (bit' b o hb q2) q2 (kp b o hb q1 q2)) q1 q2, fun x hx => (km3 x hx).trans ((if_neg (key_sort x hx)).trans (km x hx)), .inl F3⟩
      · obtain ⟨o, q1, q2, q3⟩ := hl'
        exact ⟨o, kp3 l o (k2 l o lit l56 q1) l35 l56, q2, q3⟩
      · obtain ⟨o, q1, q2, q3⟩ := hit1
        exact ⟨o, kp3 it o (sb_kq sb2 it o q1 i56) i35 i56, q2, q3⟩
  · obtain ⟨o, q1, q2⟩ := hlist
    exact ⟨o, Heap.get?_push_of_some _ q1, q2⟩
  · rw [← hit]
    exact ⟨_, Heap.get?_push_size _ rfl, rfl, rfl⟩
  · exact fun b o hb _ q => Heap.get?_push_of_some _ (kq0 b o hb q)
  · rcases F with F | ⟨q1, q2⟩
    · exact .inl ((F.kq kq0).kq (push_kq _))
    · exact .inr ⟨Heap.get?_push_of_some _ (kq0 _ _ q1 (by decide)), q2, rfl⟩
end
end Mine

end
section
open PySem PySem.W PySem.Calls PySem.Spec PyProof.Rows
set_option maxRecDepth 100000
set_option maxHeartbeats 400000
namespace Mine
theorem key_ni : ∀ x ∈ keysT, x ≠ ("sort" : Str) := by decide +kernel
section
variable {w : World} {A : Around} {m : Str → Option Value} {s : Shared} {E : Value → Shared → Prop}
/-- what the law keeps of the names, about the outer loop -/
structure NmL (m : Str → Option Value) (y z : Nat) (vd vs : Value) : Prop where
  names : m ("names" : Str) = some (.ref (y + 57))
  header : m ("header" : Str) = some (.ref (z + 57))
  draws : m ("draws" : Str) = some vd
  script : m ("script" : Str) = some vs
/-- one turn of the outer loop -/
theorem oturn (C : Cm w) (a : AOk A) (L : LS w s.heap m) {i : Int} {t : Tok} {l : Addr} {its : Array Value} {n : Int} {u : Tok} {y z cp : Nat} {ts : Nat → Nat} {vs : Value} (N : NmL m y z (.ref l) vs) (hi : m ("i" : Str) = some (.int i t)) (hl : s.heap.IsList l its) (h0 : 0 ≤ i) (h71 : i < 100) (hx : its[i.toNat]? = some (.int n u))
    (gN : s.heap.get? (y + 57) = some (namesO ts cp)) (gH : s.heap.get? (z + 57) = some (headO ts)) (F : TabFull w.params s.heap ∨ (s.heap.get? 35 = some tab0 ∧ i = 0)) {Q : Flow → Shared → Prop}
    (h : ∀ h' tk m', LS w h' m' → TabFull w.params h' → Kp s.heap h' → NmL m' y z (.ref l) vs → Q .next { s with heap := h', toks := tk }) : wpAny (model prog0 w) A (execs outBody lawEnv) Q E s := by
  rw [out_split]
  refine wpAny_execs_cons ?_
  show wpAny _ _ (exec (.Assign [.Name ("n" : Str) _] (.Subscript (.Name ("draws" : Str) _) (.Name ("i" : Str) _) _) _) lawEnv) _ _ _
  refine wpAny_Assign_Name (Subscript_ (L.name loc_draws N.draws (L.name loc_i hi (item_list hl h0 (by omega) hx ?_)))) rfl
  refine LS.store C L loc_n fun h1 L1 sb1 => ?_
  have y56 : y + 57 ≠ 56 := by omega
  have z56 : z + 57 ≠ 56 := by omega
  have F1 : TabFull w.params h1 ∨ (h1.get? 35 = some tab0 ∧ i = 0) := by
    rcases F with F | ⟨q1, q2⟩
    · exact .inl (F.kq (sb_kq sb1))
    · exact .inr ⟨sb_kq sb1 _ _ q1 (by decide), q2⟩
  have NI : NmI (fun v => if v = ("n" : Str) then some (.int n u) else m v) n i u t y z (.ref l) vs :=
    ⟨up_eq, up_ne "names" "n" (by decide +kernel) N.names, up_ne "header" "n" (by decide +kernel) N.header, up_ne "draws" "n" (by decide +kernel) N.draws, up_ne "i" "n" (by decide +kernel) hi, up_ne "script" "n" (by decide +kernel) N.script⟩
  refine wpAny_execs_cons (inner (s := { s with heap := h1, toks := s.toks + 1 }) C a L1 NI (sb_kq sb1 _ _ gN y56) (sb_kq sb1 _ _ gH z56) F1 fun h2 tk2 m2 L2 F2 kp2 km2 => wpAny_execs_nil ?_)
  have NI2 := NI.keys km2
  exact h h2 tk2 m2 L2 F2 ((sb_kq sb1).kp.trans kp2) ⟨NI2.names, NI2.header, NI2.draws, NI2.script⟩
/-- for i in range(len(draws)): .. -/
theorem outer (C : Cm w) (a : AOk A) (L : LS w s.heap m) {l : Addr} {its : Array Value} {y z cp : Nat} {ts : Nat → Nat} {vs : Value} (N : NmL m y z (.ref l) vs) (hl : s.heap.IsList l its) (hi : ∀ v ∈ its, ∃ n t, v = .int n t) (h57 : 57 ≤ l) (hz : its.size ≤ 71)
    (gN : s.heap.get? (y + 57) = some (namesO ts cp)) (gH : s.heap.get? (z + 57) = some (headO ts)) {Q : Flow → Shared → Prop}
    (h : ∀ h' tk m', LS w h' m' → Kp s.heap h' → Q .next { s with heap := h', toks := tk }) : wpAny (model prog0 w) A (exec (lawSt 4) lawEnv) Q E s := by
  show wpAny _ _ (exec (.For (.Name ("i" : Str) _) (.Call (.Name ("range" : Str) _) [.Call (.Name ("len" : Str) _) [.Name ("draws" : Str) _] [] _] [] _) outBody [] _) lawEnv) _ _ _
  refine wpAny_For ?_
  refine wpAny_Call_NameR ?_
  show wpAny _ _ (PySem.eval (.Name ("range" : Str) _) lawEnv) (fun f s₁ => wpAny _ _ (callWith _ f [] [(false, PySem.eval (.Call (.Name ("len" : Str) _) [.Name ("draws" : Str) _] [] _) lawEnv)] []) _ _ s₁) _ _
  refine glob_range C a L fun h1 L1 k1 => ?_
  refine PyProof.Rows.callWith_type rfl (evalArgs_plain (spliced_cons (wpAny_Call_NameR ?_)))
  show wpAny _ _ (PySem.eval (.Name ("len" : Str) _) lawEnv) (fun f s₁ => wpAny _ _ (callWith _ f [] [(false, PySem.eval (.Name ("draws" : Str) _) lawEnv)] []) _ _ s₁) _ _
  refine glob_len (s := { s with heap := h1 }) C a L1 fun h2 L2 k2 => ?_
  refine Calls.callWith_builtin rfl (evalArgs_plain (spliced_cons (LS.name (s := { s with heap := h2 }) L2 loc_draws N.draws (spliced_nil ?_))))
  have l56 : l ≠ 56 := by rintro rfl; exact absurd h57 (by decide)
  have k12 : Kq s.heap h2 := k1.trans k2
  have hl2 : h2.IsList l its := by
    obtain ⟨o, q1, q2⟩ := hl
    exact ⟨o, k12 _ _ q1 l56, q2⟩
  refine PyProof.Rows.len_list (s := { s with heap := h2 }) (items := its) hl2 (by omega) (spliced_nil ?_)
  refine call_range_1 (s := { s with heap := h2, toks := s.toks + 1 + 1 }) ?_
  refine wpAny_pyIter_range (IsRange.new _ _ _ _ _ _ _) (small_one (by omega) (by omega) (by omega) (by omega)) ?_
  rw [rangeSize_nat]
  have esz : (((its.size : Int) - 0).toNat : Int) = (its.size : Int) := by omega
  rw [esz]
  generalize hro : ({ cls := .type "range", data := .fields #[.int 0 (s.toks + 1 + 1), .int its.size (s.toks + 1), .int 1 (s.toks + 1 + 1 + 1)] } : Obj) = ro
  have L3 := L2.push C ro
  have k3 : Kq s.heap (h2.push ro) := k12.trans (push_kq _)
  show codeAny _ _ (.forLoop _ (.ref (h2.push ro).objs.size) _ _ _) _ { s with heap := (h2.push ro).push _, toks := _ }
  generalize h2.push ro = h3 at *
  generalize hit : h3.objs.size = it
  have it57 : 57 ≤ it := by rw [← hit]; exact L3.ns.lt
  have bit : ∀ b o, h3.get? b = some o → b ≠ it := fun b o hb q => by
    have := Heap.lt_size hb
    rw [hit, q] at this
    exact Nat.lt_irrefl _ this
  have bit' : ∀ b o, s.heap.get? b = some o → b ≠ 56 → b ≠ it := fun b o hb q => bit b o (k3 b o hb q)
  have big : ∀ b : Nat, 57 ≤ b → b ≠ 35 ∧ b ≠ 56 := fun b hb => ⟨by omega, by omega⟩
  obtain ⟨i35, i56⟩ := big it it57
  have y56 : y + 57 ≠ 35 ∧ y + 57 ≠ 56 := big _ (Nat.le_add_left _ _)
  have z56 : z + 57 ≠ 35 ∧ z + 57 ≠ 56 := big _ (Nat.le_add_left _ _)
  have lo := hl
  obtain ⟨ol, ql1, ql2⟩ := lo
  refine codeAny_forLoop (fun r s' => ∃ (x left : Int) (m' : Str → Option Value) (h' : Heap) (tk : Nat), r = left.toNat ∧ 0 ≤ left ∧ 0 ≤ x ∧ x + left = its.size ∧ s' = { s with heap := h', toks := tk } ∧ LS w h' m' ∧ NmL m' y z (.ref l) vs ∧ IsRangeIter h' it x left 1 ∧ Kp s.heap h' ∧ (TabFull w.params h' ∨ (h'.get? 35 = some tab0 ∧ x = 0))) ?_ its.size ?_
  · rintro r _ ⟨x, left, m', h', tk, rfl, p0, p1, p2, rfl, L', N', pit, kp, hF⟩
    have hni : ∀ o, h'.get? it = some o → notIter o = false := fun o ho => by
      rw [pit] at ho
      cases ho
      rfl
    by_cases hle : left ≤ 0
    · refine wpAny_pyNext_range_end (s := { s with heap := h', toks := tk }) a.hd pit hle fun h4 eb => wpAny_execs_nil ?_
      exact h h4 tk m' (L'.iter C it57 hni eb) fun b o hb q1 q2 => eb b o (bit' b o hb q2) (kp b o hb q1 q2)
    · refine wpAny_pyNext_range_item (s := { s with heap := h', toks := tk }) pit (by omega) fun h4 pit4 sb4 => ?_
      have k4 : ∀ b o, b ≠ it → h'.get? b = some o → h4.get? b = some o := fun b o hb ho => (sb4.2 b hb).trans ho
      refine wpAny_assign_Name (LS.store (s := { s with heap := h4, toks := tk + 1 }) C (L'.iter C it57 hni k4) loc_i fun h5 L5 sb5 => ?_)
      have k5 : ∀ b o, b ≠ it → b ≠ 56 → h'.get? b = some o → h5.get? b = some o := fun b o q1 q2 ho => sb_kq sb5 b o (k4 b o q1 ho) q2
      have hlt : x.toNat < its.size := by omega
      obtain ⟨n, u, hnu⟩ := hi _ (Array.getElem_mem hlt)
      have hx : its[x.toNat]? = some (.int n u) := by rw [Array.getElem?_eq_getElem hlt, hnu]
      have F5 : TabFull w.params h5 ∨ (h5.get? 35 = some tab0 ∧ x = 0) := by
        rcases hF with hF | ⟨q1, q2⟩
        · exact .inl ((hF.iter hni k4).kq (sb_kq sb5))
        · exact .inr ⟨k5 35 _ (Ne.symm i35) (by decide) q1, q2⟩
      have N5 : NmL (fun v => if v = ("i" : Str) then some (.int x tk) else m' v) y z (.ref l) vs := ⟨up_ne "names" "i" (by decide +kernel) N'.names, up_ne "header" "i" (by decide +kernel) N'.header, up_ne "draws" "i" (by decide +kernel) N'.draws, up_ne "script" "i" (by decide +kernel) N'.script⟩
      refine oturn (s := { s with heap := h5, toks := tk + 1 + 1 }) C a L5 N5 up_eq ⟨ol, k5 l ol (bit' l ol ql1 l56) l56 (kp l ol ql1 (big l h57).1 l56), ql2⟩ p1 (by omega) hx (k5 _ _ (bit' _ _ gN y56.2) y56.2 (kp _ _ gN y56.1 y56.2)) (k5 _ _ (bit' _ _ gH z56.2) z56.2 (kp _ _ gH z56.1 z56.2)) F5 fun h6 tk6 m6 L6 F6 kp6 N6 => ?_
      exact ⟨(left - 1).toNat, by omega, x + 1, left - 1, m6, h6, tk6, rfl, by omega, by omega, by omega, rfl, L6, N6, kp6 it _ (sb_kq sb5 it _ pit4 i56) i35 i56, fun b o hb q1 q2 => kp6 b o (k5 b o (bit' b o hb q2) q2 (kp b o hb q1 q2)) q1 q2, .inl F6⟩
  · refine ⟨0, its.size, m, _, _, by omega, by omega, by decide, by omega, rfl, L3.push C _, N, ?_, fun b o hb _ q => Heap.get?_push_of_some _ (k3 b o hb q), ?_⟩
    · rw [← hit]
      exact Heap.get?_push_size _ rfl
    · have T4 := (L3.push C { cls := .type "range_iterator", data := .fields #[rawInt 0, rawInt its.size, rawInt 1] }).tab
      rcases T4 with T4 | T4
      · exact .inr ⟨T4, rfl⟩
      · exact .inl T4
end
end Mine

end
section
open PySem PySem.W PySem.W.X PySem.Calls PySem.Spec PyProof.Rows
set_option maxRecDepth 100000
set_option maxHeartbeats 400000
namespace Mine
theorem tab_at {w : World} {m : Str → Option Value} {h : Heap} (L : LS w h m) : ∃ o, h.get? 35 = some o := by
  rcases L.tab with h1 | ⟨xc, tc, h1⟩
  · exact ⟨_, h1⟩
  · have hm : (35 : Addr) ∈ (tabs w.params xc tc).map (·.1) := by rw [tabs_adr]; simp
    obtain ⟨p, hp, e⟩ := List.mem_map.mp hm
    have := h1 p hp
    rw [e] at this
    exact ⟨_, this⟩
theorem one_nm (x : Str) (v : Value) : (fun y => ([(x, v)] : List (Str × Value)).reverse.lookup y) = nmap [(x, v)] := by
  funext y
  rw [nmap_cons]
  show List.lookup y [(x, v)] = if y = x then some v else nmap [] y
  by_cases h : y = x
  · subst h; simp
  · have : (y == x) = false := by simp [h]
    rw [if_neg h]
    simp only [List.lookup, this]
    rfl
theorem add57 (y : Nat) : y + 57 ≠ 56 := by omega
noncomputable def scriptS : Str := ⟨#[115, 99, 114, 105, 112, 116]⟩
theorem script_nm (v : Value) : nmap [(scriptS, v)] ("script" : Str) = some v := by kernel_rfl
section
variable {w : World} {A : Around} {m : Str → Option Value} {s : Shared} {E : Value → Shared → Prop}
/-- the law's body -/
theorem body_ok (C : Cm w) (a : AOk A) (L : LS w s.heap m) {items : Array Value} (hs : m ("script" : Str) = some (.ref 55)) (h5 : s.heap.IsList 55 items) (hz : items.size ≤ 63) (hi : ∀ v ∈ items, ∃ n t, v = .int n t) {Q : Flow → Shared → Prop}
    (h : ∀ h' tk m', LS w h' m' → Kp s.heap h' → Q (.ret (.bool true)) { s with heap := h', toks := tk }) : wpAny (model prog0 w) A (execs lawParts.1 lawEnv) Q E s := by
  rw [law_split]
  refine wpAny_execs_cons ?_
  refine names_ok C a L (s.toks + 9) ?_
  intro h1 y L1 k1 g1
  refine wpAny_execs_cons ?_
  refine header_ok (s := { s with heap := h1, toks := s.toks + 9 }) C a L1 s.toks ?_
  intro h2 z L2 k2 g2
  generalize s.toks + 9 + 3 = tk2
  generalize tsOf s.toks (s.toks + 9) = ts at *
  have y56 : y + 57 ≠ 56 := add57 y
  have z56 : z + 57 ≠ 56 := add57 z
  have g1 := k2 _ _ g1 y56
  have k12 : Kq s.heap h2 := k1.trans k2
  have h52 : h2.IsList 55 items := by
    obtain ⟨o, q1, q2⟩ := h5
    exact ⟨o, k12 _ _ q1 (by decide), q2⟩
  have s2 := up_ne (v := .ref (z + 57)) "script" "header" (by decide +kernel) (up_ne (v := .ref (y + 57)) "script" "names" (by decide +kernel) hs)
  refine wpAny_execs_cons (draws_ok (s := { s with heap := h2, toks := tk2 }) C a L2 s2 h52 hz fun h3 tk3 l c L3 k3 fr h57 g3 => ?_)
  have h53 : h3.IsList 55 items := by
    obtain ⟨o, q1, q2⟩ := h52
    exact ⟨o, k3 _ _ q1 (by decide), q2⟩
  refine wpAny_execs_cons (loop1 (s := { s with heap := h3, toks := tk3 }) C a L3 up_eq (up_ne "script" "draws" (by decide +kernel) s2) ⟨_, c, g3, rfl, rfl, rfl⟩ hi h57 h53 hz hz fun h4 tk4 m4 its L4 km4 sz4 p4 i4 k4 => ?_)
  have N4 : NmL m4 y z (.ref l) (.ref 55) := ⟨(km4 _ (by decide +kernel)).trans (up_ne "names" "draws" (by decide +kernel) (up_ne "names" "header" (by decide +kernel) up_eq)), (km4 _ (by decide +kernel)).trans (up_ne "header" "draws" (by decide +kernel) up_eq), (km4 _ (by decide +kernel)).trans up_eq, (km4 _ (by decide +kernel)).trans (up_ne "script" "draws" (by decide +kernel) s2)⟩
  have gN4 := k4 _ _ (k3 _ _ g1 y56) y56 (fr _ _ g1 y56)
  have gH4 := k4 _ _ (k3 _ _ g2 z56) z56 (fr _ _ g2 z56)
  refine wpAny_execs_cons (outer (s := { s with heap := h4, toks := tk4 }) C a L4 N4 p4.isList i4 h57 sz4 gN4 gH4 fun h5' tk5 m5 L5 kp5 => ?_)
  show wpAny _ _ (execs [.Return (some (.Constant (.bool true) _ _)) _] lawEnv) _ _ _
  refine wpAny_execs_cons (wpAny_Return_some (wpAny_Constant_bool ?_))
  exact h h5' tk5 m5 L5 fun b o hb q1 q2 => kp5 b o (k4 b o (k3 b o (k12 b o hb q2) q2) q2 (fr b o (k12 b o hb q2) q2)) q1 q2
end
noncomputable def tabVs (P : Params) (xc tc : Nat) : Array Value := match (tabs P xc tc)[2]? with
  | some p => match p.2.data with
    | .fields vs => vs
    | _ => #[]
  | none => #[]
theorem tabs_35 (P : Params) (xc tc : Nat) : (tabs P xc tc)[2]? = some (35, { cls := .none, data := .fields (tabVs P xc tc) }) := by kernel_rfl
theorem K0_all (P : Params) : ((List.range 55).all fun a => Nat.beq a 35 || (K0 P a).isSome) = true := by kernel_rfl
noncomputable def fvs (P : Params) (c : Addr) : Array Value := match K0 P c with
  | some o => match o.data with
    | .fields vs => vs
    | _ => #[]
  | none => #[]
noncomputable def obAt (P : Params) (c : Addr) : Obj := match K0 P c with
  | some o => o
  | none => default
theorem ob39 (P : Params) : K0 P 39 = some (obAt P 39) := by kernel_rfl
theorem ob39c (P : Params) : (obAt P 39).cls = .type "code" := by kernel_rfl
theorem ob39d (P : Params) : (obAt P 39).data = .fields (fvs P 39) := by kernel_rfl
theorem ob39v (P : Params) : (fvs P 39)[11]? = some (.ref 35) := by kernel_rfl
theorem ob53 (P : Params) : K0 P 53 = some (obAt P 53) := by kernel_rfl
theorem ob53d (P : Params) : (obAt P 53).data = .fields (fvs P 53) := by kernel_rfl
noncomputable def lawFd (P : Params) : FuncData := match (obAt P 54).data with
  | .func fd => fd
  | _ => default
theorem ob54 (P : Params) : K0 P 54 = some (obAt P 54) := by kernel_rfl
theorem ob54d (P : Params) : (obAt P 54).data = .func (lawFd P) := by kernel_rfl
theorem fd_code (P : Params) : (lawFd P).code = .ref 53 := by kernel_rfl
theorem fd_body (P : Params) : (lawFd P).body = .stmts lawParts.1 := by kernel_rfl
theorem fd_env (P : Params) : callEnv (lawFd P) 56 54 = lawEnv := by kernel_rfl
theorem fd_co (P : Params) : (lawFd P).scope.isCoroutine = false := by kernel_rfl
theorem fd_gen (P : Params) : (lawFd P).scope.isGenerator = false := by kernel_rfl
theorem fd_kind (P : Params) : (lawFd P).scope.kind = .function := by kernel_rfl
theorem fd_cell (P : Params) : ((lawFd P).scope.names.all fun x => match x.2 with | .cell => false | _ => true) = true := by kernel_rfl
theorem fd_loc (P : Params) : (lawFd P).scope.names.lookup (⟨#[115, 99, 114, 105, 112, 116]⟩ : Str) = some .local := by kernel_rfl
theorem fd_bind (P : Params) : PySem.W.ZFast.zw9782568553167038054 (lawFd P) ⟨[.ref 55], []⟩ = .pure [(⟨#[115, 99, 114, 105, 112, 116]⟩, .ref 55)] := by kernel_rfl
noncomputable def lawTok (P : Params) : Tok := match ((fvs P 53)[1]? : Option Value) with
  | some (.str _ t) => t
  | _ => 0
theorem ob53v (P : Params) : (fvs P 53)[1]? = some (.str (lawFd P).qualname (lawTok P)) := by kernel_rfl
section
variable {w : World} {s : Shared}
theorem law_ok (C : Cm w) (hk : ∀ a o, K0 w.params a = some o → s.heap.get? a = some o) (h35 : s.heap.get? 35 = some tab0) (hsz : s.heap.objs.size = 56) {items : Array Value} (hl : s.heap.IsList 55 items) (hz : items.size ≤ 63)
    (hi : ∀ v ∈ items, ∃ n t, v = .int n t) {R : Result → Shared → Prop} (hR : ∀ h' tk, OldK s.heap h' → R (.ok (.ret (.bool true))) { s with heap := h', toks := tk }) :
    codeAny (model prog0 w) callerA (.call (.ref 54) ⟨[.ref 55], []⟩) R s := by
  refine codeAny_call_plain (fd := lawFd w.params) (body := lawParts.1) (binds := [(⟨#[115, 99, 114, 105, 112, 116]⟩, .ref 55)]) (by decide) (hk _ _ (ob54 _)) (ob54d _) (C.lim _ hk) ⟨53, _, _, _, fd_code _, hk _ _ (ob53 _), ob53d _, ob53v _⟩
    (fd_body _) ?_ (fun x hx => ?_) (fun x hx => ?_) (fun h₀ ns old => ?_) (fd_co _) (fd_gen _) (fd_kind _)
  · have : bindArgs = PySem.W.ZFast.zw9782568553167038054 := PySem.W.ZFast.ze9782568553167038054
    rw [this]
    exact fd_bind _
  · have := List.all_eq_true.mp (fd_cell w.params) x hx
    intro q
    rw [q] at this
    cases this
  · rw [List.mem_singleton.mp hx]
    exact fd_loc _
  · rw [hsz] at ns ⊢
    rw [fd_env]
    have a : AOk (callerA.deeper lawEnv) := ⟨rfl, rfl, by decide, by decide⟩
    have ns' : h₀.Ns 56 (nmap [(scriptS, .ref 55)]) := by rw [← one_nm]; exact ns
    have L : LS w h₀ (nmap [(scriptS, .ref 55)]) := ⟨ns', ⟨_, rfl⟩, fun a o h => old a o (hk a o h), .inl (old _ _ h35)⟩
    have hl0 : h₀.IsList 55 items := by
      obtain ⟨o, q1, q2⟩ := hl
      exact ⟨o, old _ _ q1, q2⟩
    refine body_ok (s := { s with heap := h₀, toks := _ }) C a L (script_nm _) hl0 hz hi ?_
    intro h' tk m' L' kx
    refine hR h' tk ?_
    refine ⟨fun b o hb => ?_, fun b o hb => ?_⟩
    all_goals
      have hb56 : b < 56 := by rw [← hsz]; exact Heap.lt_size hb
    · by_cases e35 : b = 35
      · subst e35
        rw [h35] at hb
        cases hb
        rcases L'.tab with q | ⟨xc, tc, q⟩
        · exact .inl q
        · have := q _ (List.mem_of_getElem? (tabs_35 w.params xc tc))
          refine .inr (.inl ⟨⟨39, _, _, hk _ _ (ob39 _), ob39c _, ob39d _, ob39v _⟩, rfl, #[], tabVs w.params xc tc, rfl, ?_⟩)
          rw [Array.empty_append]
          exact this
      · refine .inl ?_
        by_cases e55 : b = 55
        · subst e55
          obtain ⟨o', q1, q2⟩ := hl
          rw [q1] at hb
          cases hb
          exact kx _ _ (old _ _ q1) (by decide) (by decide)
        · have := List.all_eq_true.mp (K0_all w.params) b (List.mem_range.mpr (Nat.lt_of_le_of_ne (Nat.le_of_lt_succ hb56) e55))
          have h1 : (K0 w.params b).isSome = true := by
            cases hq : (K0 w.params b).isSome with
            | true => rfl
            | false =>
              rw [hq, Bool.or_false] at this
              exact absurd (Nat.eq_of_beq_eq_true this) e35
          obtain ⟨o', ho'⟩ := Option.isSome_iff_exists.mp h1
          have e := hk _ _ ho'
          rw [hb] at e
          cases e
          exact L'.k0 _ _ ho'
    · by_cases e35 : b = 35
      · subst e35
        exact tab_at L'
      · by_cases e55 : b = 55
        · subst e55
          obtain ⟨o', q1, q2⟩ := hl
          exact ⟨_, kx _ _ (old _ _ q1) (by decide) (by decide)⟩
        · have := List.all_eq_true.mp (K0_all w.params) b (List.mem_range.mpr (Nat.lt_of_le_of_ne (Nat.le_of_lt_succ hb56) e55))
          have h1 : (K0 w.params b).isSome = true := by
            cases hq : (K0 w.params b).isSome with
            | true => rfl
            | false =>
              rw [hq, Bool.or_false] at this
              exact absurd (Nat.eq_of_beq_eq_true this) e35
          obtain ⟨o', ho'⟩ := Option.isSome_iff_exists.mp h1
          exact ⟨_, L'.k0 _ _ ho'⟩
end
theorem K0_55 (P : Params) : K0 P 55 = none := by kernel_rfl
theorem K0_st (P : Params) : (K0 P cStatics).isSome = true := by kernel_rfl
theorem kt35 (P : Params) : (hd.ktop_147 P).get 35 = some tab0 := by kernel_rfl
theorem K0_kt {P : Params} {a : Addr} {o : Obj} (h : K0 P a = some o) : (hd.ktop_147 P).get a = some o := by
  unfold K0 at h
  cases hb : Nat.beq a 35 with
  | true => rw [hb] at h; cases h
  | false => rw [hb] at h; exact h
theorem mkCm {w : World} {h : Heap} (ZH : KT.Holds h 1 0 (hd.ktop_147 w.params)) (hsz : h.objs.size = 55 + 1) (lim : h.NoLimit) : Cm w where
  kb := fun a o ha => by
    have h1 := kt_at ZH (K0_kt ha)
    have h2 : a < 56 := by have := Heap.lt_size h1; rw [hsz] at this; exact this
    refine Nat.lt_of_le_of_ne (Nat.le_of_lt_succ h2) ?_
    rintro rfl
    rw [K0_55] at ha
    cases ha
  lim := fun h' k => by
    obtain ⟨o, ho⟩ := Option.isSome_iff_exists.mp (K0_st w.params)
    refine lim.at fun o' q => ?_
    have := kt_at ZH (K0_kt ho)
    rw [q] at this
    cases this
    exact k _ _ ho
theorem fin_ok {w : World} {s₁ : Shared} {vs : List Value} {ns : List Int} (ZH : KT.Holds s₁.heap 1 0 (hd.ktop_147 w.params)) (hsz : s₁.heap.objs.size = 55 + 1) (hl : s₁.heap.IsList 55 vs.toArray) (hi : IntsAre vs ns)
    (hn : ¬ ((63 : Int) < (ns.length : Int))) (hlen : vs.length = ns.length) (lim : s₁.heap.NoLimit) (hg : s₁.gens = #[]) {c : ClaimW} {cl : Str → Option Addr} {mean : ExcName → Option Value} {args : List WData}
    (hr : ∀ cls, c.raises args cls = false) (hp : c.post args (.bool true) args = true) {E : Value → Shared → Prop} :
    wpAny (model prog0 w) callerA (call (.ref 54) [.ref 55]) (fun v s' => GoodWG c cl mean args s₁ (.ok (.ret v)) s') E s₁ := by
  have C := mkCm ZH hsz lim
  refine wpAny_call (law_ok C (fun a o h => kt_at ZH (K0_kt h)) (kt_at ZH (kt35 _)) hsz hl ?_ ?_ fun h' tk old => ?_)
  · rw [List.size_toArray, hlen]
    omega
  · intro v hv
    exact hi.all v (by simpa using hv)
  · exact ⟨.inl ⟨_, _, [], rfl, hr, ReadsW.bool true, hp, fun _ => ⟨List.nodup_nil, fun _ hm => (nomatch hm)⟩⟩, old, rfl, .of_eq hg⟩
end Mine

end
open PySem PySem.W PySem.W.X PySem.W.ZRun PyProof.Rows
set_option maxRecDepth 100000 in
set_option maxHeartbeats 8000000 in
theorem PySem.Challenge.cw_dm0088_03_holds : PySem.Challenge.rw_dm0088_03.Holds := by
  refine Mine.hd ?_
  k_fill
  intro w s₀ s₁ mg mb G y fa o pm cd doc dV kV ho hd hcd hD hmg hg args vals as L hpre hlay hrd hwl hlo
  z_open y L KX ZH ZN ZT
  refine Ground.open G ?_
  intro T B D TE TW
  wrow_args hpre hlay hrd hwl hlo
  obtain ⟨hat, hsz⟩ := script_at L
  have htk := script_toks L ZT
  rw [ZN] at hat hsz
  subst hat
  x_fa T KX hmg
  all_lens
  clear hd hmg hcd hD
  rename_i hn _ hl _ _ hi hb
  exact Mine.fin_ok ZH hsz hl hi hn hb.1 T.nolimit hg (fun _ => rfl) (by first | rfl | wrow_post)
