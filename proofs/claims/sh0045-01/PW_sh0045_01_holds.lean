import PyProof.Rows.All
import Wide.All
import OpenK.AllK
import Wide.FinOn
import Lean
import PySem.Challenge.RW_sh0045_01
set_option Elab.async false
section
open PySem PySem.Spec PySem.Calls PySem.W PySem.W.X PySem.W.ZRun PyProof.Rows
set_option maxRecDepth 100000
set_option maxHeartbeats 0
namespace Mine
local macro_rules | `(tactic| k_head) => `(tactic| z_head)
open_top hd for PySem.Challenge.rw_sh0045_01
end Mine
end
section
open PySem PySem.Spec PySem.Calls PyProof.Rows PySem.W PySem.W.X
set_option maxRecDepth 100000
set_option genInjectivity false
set_option genSizeOfSpec false
set_option genSizeOf false
namespace Mine

/-- the interpreter's tree of a code, by the library's quick twins -/
noncomputable def D (c : Code) : Sem Fin := PySem.W.Fast.tw11892475500146522536 PySem.W.Fast.tw14364793385576792824 c
theorem D_eq (c : Code) : denote table c = D c := by
  unfold D
  rw [table_eq_tree, PySem.W.Fast.te14364793385576792824, PySem.W.Fast.te11892475500146522536]

/-- the entering of a plain def, without the look at the stack -/
noncomputable def userCall (self : Addr) (fd : FuncData) (args : Args) : Sem Fin :=
  PySem.W.R.bindR (match fd.code with
    | .none => .pure fd.qualname
    | c => PySem.W.R.bindR (PySem.W.Fast.tw6609576154772507232 c 1) fun v => match v with
      | .str q _ => .pure q
      | _ => .pure fd.qualname : Sem Str) fun compiled =>
  PySem.W.R.bindR (PySem.W.Fast.tw9782568553167038054 fd args) fun binds =>
  PySem.W.R.bindR (PySem.W.Fast.tw11113344188204177931 fd.scope fd.globals fd.closure binds (compiled ++ ".<locals>.") (some self) fd.code none fd.builtins) fun env =>
  match fd.body with
  | .stmts b => .pure (.again (.func b env))
  | .expr e => .pure (.again (.expr e env))
noncomputable def ins (t : Sem Fin) : Sem Fin := t.bind fun fin => enterFrame.bind fun _ => .pure fin
theorem bind_assoc' {α β γ : Type} (m : Sem α) (f : α → Sem β) (g : β → Sem γ) : (m.bind f).bind g = m.bind fun x => (f x).bind g := bind_assoc m f g
theorem userCall_eq (self : Addr) (fd : FuncData) (args : Args) (h1 : fd.scope.isGenerator = false) (h2 : fd.scope.isCoroutine = false) :
    callFunction self fd args = ins (userCall self fd args) := by
  unfold ins userCall callFunction
  rw [h1, h2, ← PySem.W.R.bindR_eq, ← PySem.W.Fast.te6609576154772507232, ← PySem.W.Fast.te9782568553167038054, ← PySem.W.Fast.te11113344188204177931]
  simp only [bind_assoc']
  have key : ∀ q : Str, (Sem.bind (Sem.pure q) fun x => (bindArgs fd args).bind fun x_1 => (newFunctionEnv fd.scope fd.globals fd.closure x_1 (x ++ Str.ofString ".<locals>.") (some self) fd.code none fd.builtins).bind fun x =>
      (match fd.body with
        | FuncBody.stmts b => Sem.pure (Fin.again (Code.func b x))
        | FuncBody.expr e => Sem.pure (Fin.again (Code.expr e x))).bind fun fin => enterFrame.bind fun _ => Sem.pure fin) =
      (Sem.bind (Sem.pure q) fun x => (bindArgs fd args).bind fun x_1 => (newFunctionEnv fd.scope fd.globals fd.closure x_1 (x ++ Str.ofString ".<locals>.") (some self) fd.code none fd.builtins).bind fun x =>
      enterFrame.bind fun _ => Sem.pure (Fin.again (match fd.body with | FuncBody.stmts b => Code.func b x | FuncBody.expr e => Code.expr e x))) := by
    intro q
    cases fd.body <;> rfl
  generalize fd.code = cd at key ⊢
  cases cd
  case none => exact (key _).symm
  all_goals
    refine Eq.trans ?_ (bind_assoc' _ _ _).symm
    refine congrArg (Sem.bind (field _ 1)) (funext fun v => ?_)
    cases v <;> exact (key _).symm

/-- list.__init__ where the list and what fills it are two objects -/
noncomputable def extNe (self it result : Value) : { t : Sem Fin // PySem.Builtin.List.listSameRef self it = false → PySem.W.Fast.tw8938917530802602619 self it result = t } := by
  refine ⟨?t, fun h => ?p⟩
  case p =>
    unfold PySem.W.Fast.tw8938917530802602619
    simp only [h, Bool.false_or]
    exact rfl
noncomputable def initNe (a r : Addr) : { t : Sem Fin // PySem.Builtin.List.listSameRef (.ref a) (.ref r) = false → PySem.W.Fast.tw7929263774796372950 ⟨[.ref a, .ref r], []⟩ = t } := by
  refine ⟨?t, fun h => ?p⟩
  case p =>
    unfold PySem.W.Fast.tw7929263774796372950
    simp only [(extNe (.ref a) (.ref r) .none).2 h]
    exact rfl
theorem denote_b {id : String} {args : Args} {b : Builtin} (he : entryFor table id = some b) : denote table (.builtin id args) = b args := by
  show (match entryFor table id with
    | some b => b args
    | none => unsupported ((withoutEnding? id "#data").getD id) : Sem Fin) = _
  rw [he]
theorem initNe_eq {a r : Addr} (h : a ≠ r) : denote table (.builtin "list.__init__" ⟨[.ref a, .ref r], []⟩) = (initNe a r).1 := by
  have h' : PySem.Builtin.List.listSameRef (.ref a) (.ref r) = false := by
    unfold PySem.Builtin.List.listSameRef
    exact beq_eq_false_iff_ne.mpr h
  rw [← (initNe a r).2 h', ← PySem.W.Fast.te7929263774796372950]
  exact denote_b F.entry_list_init
noncomputable def twoRefs : Args → Option (Addr × Addr)
  | ⟨[.ref a, .ref r], []⟩ => some (a, r)
  | _ => none
theorem twoRefs_eq {args : Args} {p : Addr × Addr} (h : twoRefs args = some p) : args = ⟨[.ref p.1, .ref p.2], []⟩ := by
  unfold twoRefs at h
  split at h
  · cases h; rfl
  · cases h
noncomputable def isListInit (id : String) : Bool := Nat.beq (PySem.code id) (PySem.code "list.__init__")
theorem isListInit_eq {id : String} (h : isListInit id = true) : id = "list.__init__" := PySem.code_inj _ _ (Nat.eq_of_beq_eq_true h)

inductive Fra where
  | ret (c : Code) (k : PySem.Result → Sem Fin)
  | mark
noncomputable abbrev FO := Pos → List (Code × Pos) → Sem Fin
/-- what a call brings: the new addresses (then unknown numbers), unknown objects -/
structure X where
  a : Nat → Nat
  o : Nat → Obj
  v : Nat → Value
structure Prom where
  d : Nat
  sel : List Nat
  c : Code
  ins : List (Nat × Obj)
  n : Nat
  r : X → PySem.Result
  outs : X → List Obj
  news : X → List Obj
inductive Pr where
  | nil (nsel : List Nat) (us : Nat → Nat) (zs : Nat → Obj) (vs : Nat → Value)
  | cons (p : Prom) (next : Nat → Nat → X → Pr)
  | rw (j n : Nat) (o₁ o₂ : Obj) (next : Pr)
structure RV where
  S : Setting
  S2 : Setting
  K : Nat → Option Obj
  ad : Nat → Nat
  m₀ : Nat
  b : Nat
  t₀ : Nat
  d₀ : Nat
  stop : Code → Bool
noncomputable def RV.addr (R : RV) (j : Nat) : Nat := match Nat.blt j R.m₀ with
  | true => R.ad j
  | false => R.b + (j - R.m₀)
inductive Out where
  | done (r : PySem.Result) (R : RV) (T : BT) (m i : Nat) (nsel : List Nat) (us : Nat → Nat) (zs : Nat → Obj) (vs : Nat → Value) (obs : List (Nat × Nat)) (obf : List (FO × FO))
  | prom (c' : Code) (R : RV) (T : BT) (m i : Nat) (p : Prom) (obs : List (Nat × Nat)) (obf : List (FO × FO)) (next : Nat → Nat → X → Out)
  | rw (g : Option Obj) (o₁ : Obj) (out : Out)
  | stuck (n : Nat) (c : Code)
  | unsup (s : String)
  | fuel
noncomputable def nth : List Nat → Nat → Nat
  | [], _ => 0
  | a :: l, n => match Nat.beq n 0 with
    | true => a
    | false => nth l (n - 1)
noncomputable abbrev Rest := BT → Nat → Nat → List Nat → Pr → List (Nat × Nat) → List (FO × FO) → Out
noncomputable abbrev RunTy := List Fra → Code → Sem Fin → Rest
noncomputable def notCaller : Code → Bool
  | .builtin id _ => !Nat.beq (PySem.code id) (PySem.code "claim.caller")
  | _ => true
noncomputable def depthOK (R : RV) : Nat → List Fra → Code → Bool
  | n, [], c => match notCaller c with
    | true => Nat.blt (R.d₀ + n) 1000
    | false => false
  | n, .mark :: κ, c => depthOK R n κ c
  | n, .ret c₁ _ :: κ, c => match notCaller c with
    | true => depthOK R (n + 6) κ c₁
    | false => false
noncomputable def userGo (ih : RunTy) (o : Obj) (a : Nat) (args : Args) (c' : Code) (κ : List Fra) : Rest := match o.data with
  | .func fd => match fd.scope.isGenerator with
    | true => fun _ _ _ _ _ _ _ => .stuck 20 c'
    | false => match fd.scope.isCoroutine with
      | true => fun _ _ _ _ _ _ _ => .stuck 20 c'
      | false => ih (.mark :: κ) c' (userCall a fd args)
  | _ => fun _ _ _ _ _ _ _ => .stuck 21 c'

noncomputable def goto (R : RV) (ih : RunTy) (c' : Code) (κ : List Fra) : Rest := match c' with
  | .call f args => match f with
    | .ref a => fun T m i orc pr obs obf => match orc with
      | [] => .stuck 9 c'
      | x :: orc => match Nat.beq x 0 with
        | true => ih κ c' (D c') T m i orc pr obs obf
        | false => match Nat.beq x 1 with
          | true => match R.K a with
            | some o => userGo ih o a args c' κ T m i orc pr obs obf
            | none => .stuck 10 c'
          | false => match T.get (x - 2) with
            | some o => userGo ih o a args c' κ T m i orc pr ((a, R.addr (x - 2)) :: obs) obf
            | none => .stuck 11 c'
    | _ => ih κ c' (D c')
  | .builtin id args => match twoRefs args with
    | none => ih κ c' (D c')
    | some p => match isListInit id with
      | false => ih κ c' (D c')
      | true => fun T m i orc pr obs obf => match orc with
        | x :: y :: orc => match Nat.beq x y with
          | false => ih κ c' (initNe p.1 p.2).1 T m i orc pr ((p.1, R.addr x) :: (p.2, R.addr y) :: obs) obf
          | true => .stuck 14 c'
        | _ => .stuck 15 c'
  | _ => ih κ c' (D c')

noncomputable def doneGo (R : RV) (r : PySem.Result) : Rest := fun T m i _ pr obs obf => match pr with
  | .nil nsel us zs vs => .done r R T m i nsel us zs vs obs obf
  | _ => .stuck 39 default
noncomputable def retGo (R : RV) (ih : RunTy) (r : PySem.Result) : List Fra → Rest
  | [] => doneGo R r
  | .mark :: _ => fun _ _ _ _ _ _ _ => .stuck 30 default
  | .ret c k :: κ => ih κ c (k r)
noncomputable def memB (a : Nat) : List Nat → Bool
  | [] => false
  | b :: l => match Nat.beq a b with
    | true => true
    | false => memB a l
noncomputable def nodupB : List Nat → Bool
  | [] => true
  | a :: l => match memB a l with
    | true => false
    | false => nodupB l
noncomputable def updL : List Nat → List Obj → BT → Option BT
  | [], [], T => some T
  | j :: js, o :: os, T => match T.get j with
    | some _ => updL js os (T.set j fun _ => o)
    | none => none
  | _, _, _ => none
noncomputable def insL : List Obj → Nat → BT → Option BT
  | [], _, T => some T
  | o :: os, n, T => match (T.ins n o).get n with
    | some _ => insL os (n + 1) (T.ins n o)
    | none => none
noncomputable def RV.after (R : RV) (m : Nat) (p : Prom) (b t : Nat) (x : X) : RV :=
  { R with ad := fun j => (match Nat.blt j (R.m₀ + m) with
      | true => R.addr j
      | false => x.a (j - (R.m₀ + m))), m₀ := R.m₀ + m + p.n, b := b, t₀ := t }
noncomputable def promGo (R : RV) (cont : RV → PySem.Result → Rest) (okd : Prom → Bool) (c' : Code) : Rest := fun T m i orc pr obs obf => match pr with
  | .nil .. => .stuck 40 c'
  | .rw .. => .stuck 47 c'
  | .cons p next => match okd p with
    | false => .stuck 41 c'
    | true => match nodupB p.sel with
      | false => .stuck 42 c'
      | true => .prom c' R T m i p obs obf fun b t x => match updL p.sel (p.outs x) T with
        | none => .stuck 43 c'
        | some T₁ => match insL (p.news x) (R.m₀ + m) T₁ with
          | none => .stuck 44 c'
          | some T₂ => match Nat.beq (p.news x).length p.n with
            | false => .stuck 45 c'
            | true => cont (R.after m p b t x) (p.r x) T₂ 0 0 orc (next b t x) [] []
noncomputable def natStep {α : Type} (m : Nat) (f : Nat → α) : α := match m + 1 with
  | 0 => f 0
  | k + 1 => f (k + 1)
theorem natStep_eq {α : Type} (m : Nat) (f : Nat → α) : natStep m f = f (m + 1) := rfl
noncomputable def step (R : RV) (ih : RunTy) (jh : RV → RunTy) (κ : List Fra) (c : Code) (t : Sem Fin) : Rest := match t with
  | .pure fin => match κ with
    | .mark :: κ' => match depthOK R 6 κ' c with
      | true => ih κ' c (.pure fin)
      | false => fun _ _ _ _ _ _ _ => .stuck 31 c
    | [] => match fin with
      | .done f => doneGo R (.ok f)
      | .again c' => match R.stop c' with
        | true => match c'.quiet with
          | true => promGo R doneGo (fun p => Nat.ble R.d₀ p.d) c'
          | false => fun _ _ _ _ _ _ _ => .stuck 33 c
        | false => match c'.quiet with
          | true => goto R ih c' []
          | false => fun _ _ _ _ _ _ _ => .stuck 33 c
    | .ret c₁ k :: κ₁ => match fin with
      | .done f => retGo R ih (.ok f) κ
      | .again c' => match c'.quiet with
        | true => match R.stop c' with
          | true => promGo R (fun R' r => jh R' κ₁ c₁ (k r)) (fun p => depthOK R (1004 - p.d) κ₁ c₁) c'
          | false => goto R ih c' κ
        | false => fun _ _ _ _ _ _ _ => .stuck 32 c
  | .raise e => retGo R ih (.error e) κ
  | .rule _ k => ih κ c (k ())
  | .at _ k => ih κ c (k ())
  | .point _ k => ih κ c (k ())
  | .ask k => fun T m i orc pr obs obf => ih κ c (k R.S) T m i orc pr obs ((fun _ _ => k R.S2, fun _ _ => k R.S) :: obf)
  | .load a _ k => fun T m i orc pr obs obf => match orc with
    | [] => .stuck 1 c
    | x :: orc => match Nat.beq x 0 with
      | true => match R.K a with
        | some o => ih κ c (k o) T m i orc pr obs obf
        | none => .stuck 2 c
      | false => match T.get (x - 1) with
        | some o => ih κ c (k o) T m i orc pr ((a, R.addr (x - 1)) :: obs) obf
        | none => .stuck 3 c
  | .loadIfAlive a k => fun T m i orc pr obs obf => match orc with
    | [] => .stuck 1 c
    | x :: orc => match Nat.beq x 0 with
      | true => match R.K a with
        | some o => ih κ c (k (some o)) T m i orc pr obs obf
        | none => .stuck 2 c
      | false => match T.get (x - 1) with
        | some o => ih κ c (k (some o)) T m i orc pr ((a, R.addr (x - 1)) :: obs) obf
        | none => .stuck 3 c
  | .alloc o k => fun T m i orc pr obs obf => match o.isFreed with
    | true => .stuck 4 c
    | false => match (T.ins (R.m₀ + m) o).get (R.m₀ + m) with
      | some _ => natStep m fun m' => ih κ c (k (R.b + m)) (T.ins (R.m₀ + m) o) m' i orc pr obs obf
      | none => .stuck 5 c
  | .update a _ f k => fun T m i orc pr obs obf => match orc with
    | [] => .stuck 1 c
    | x :: orc => match Nat.beq x 0 with
      | true => .stuck 6 c
      | false => match Nat.ble 1000000 x with
        | false => match T.get (x - 1) with
          | some o => match (f o).isFreed with
            | true => .stuck 4 c
            | false => ih κ c (k ()) (T.set (x - 1) f) m i orc pr ((a, R.addr (x - 1)) :: obs) obf
          | none => .stuck 7 c
        | true => match T.get (x - 1000001) with
          | some o => match (f o).isFreed with
            | true => .stuck 4 c
            | false => match pr with
              | .rw _ _ o₁ o₂ next => .rw ((T.set (x - 1000001) f).get (x - 1000001)) o₁ (ih κ c (k ()) (T.set (x - 1000001) fun _ => o₂) m i orc next ((a, R.addr (x - 1000001)) :: obs) obf)
              | _ => .stuck 48 c
          | none => .stuck 7 c
  | .fresh k => fun T m i orc pr obs obf => natStep i fun i' => ih κ c (k (R.t₀ + i + 1)) T m i' orc pr obs obf
  | .handled own k => match own with
    | false => ih κ c (k none)
    | true => fun _ _ _ _ _ _ _ => .stuck 8 c
  | .stack k => fun T m i orc pr obs obf => ih κ c (k [(c, default)]) T m i orc pr obs ((fun p l => k ((c, p) :: l), fun _ _ => k [(c, default)]) :: obf)
  | .call c' hd _ _ k => match hd with
    | some _ => fun _ _ _ _ _ _ _ => .stuck 12 c
    | none => match R.stop c' with
      | true => promGo R (fun R' r => jh R' κ c (k r)) (fun p => depthOK R (1004 - p.d) κ c) c'
      | false => goto R ih c' (.ret c k :: κ)
  | .choose _ n k => match Nat.beq n 1 with
    | true => ih κ c (k 0)
    | false => fun _ _ _ _ _ _ _ => .stuck 16 c
  | .unsupported w => fun _ _ _ _ _ _ _ => .unsup w
  | _ => fun _ _ _ _ _ _ _ => .stuck 13 c
noncomputable def run : Nat → RV → RunTy
  | 0 => fun _ _ _ _ _ _ _ _ _ _ _ => .fuel
  | n + 1 => fun R => step R (run n R) (run n)


/-! the same run, written for the kernel: each arm a word of its own -/
noncomputable def fSt (n : Nat) (c : Code) : Rest := fun _ _ _ _ _ _ _ => .stuck n c
noncomputable def gCall (R : RV) (ih : RunTy) (c' : Code) (κ : List Fra) (a : Nat) (args : Args) : Rest := fun T m i orc pr obs obf => match orc with
  | [] => .stuck 9 c'
  | x :: orc => match Nat.beq x 0 with
    | true => ih κ c' (D c') T m i orc pr obs obf
    | false => match Nat.beq x 1 with
      | true => match R.K a with
        | some o => userGo ih o a args c' κ T m i orc pr obs obf
        | none => .stuck 10 c'
      | false => match T.get (x - 2) with
        | some o => userGo ih o a args c' κ T m i orc pr ((a, R.addr (x - 2)) :: obs) obf
        | none => .stuck 11 c'
noncomputable def gInit (R : RV) (ih : RunTy) (c' : Code) (κ : List Fra) (p : Addr × Addr) : Rest := fun T m i orc pr obs obf => match orc with
  | x :: y :: orc => match Nat.beq x y with
    | false => ih κ c' (initNe p.1 p.2).1 T m i orc pr ((p.1, R.addr x) :: (p.2, R.addr y) :: obs) obf
    | true => .stuck 14 c'
  | _ => .stuck 15 c'
noncomputable def gBuiltin (R : RV) (ih : RunTy) (c' : Code) (κ : List Fra) (id : String) (args : Args) : Rest := match twoRefs args with
  | none => ih κ c' (D c')
  | some p => match isListInit id with
    | false => ih κ c' (D c')
    | true => gInit R ih c' κ p
noncomputable def gotoF (R : RV) (ih : RunTy) (c' : Code) (κ : List Fra) : Rest := match c' with
  | .call f args => match f with
    | .ref a => gCall R ih c' κ a args
    | _ => ih κ c' (D c')
  | .builtin id args => gBuiltin R ih c' κ id args
  | _ => ih κ c' (D c')
theorem gotoF_eq (R : RV) (ih : RunTy) (c' : Code) (κ : List Fra) : gotoF R ih c' κ = goto R ih c' κ := by
  unfold gotoF goto
  cases c' with
  | call f args => cases f <;> rfl
  | builtin id args =>
    simp only [gBuiltin]
    cases twoRefs args with
    | none => rfl
    | some p => cases isListInit id <;> rfl
  | _ => rfl
noncomputable def fAgain0 (R : RV) (ih : RunTy) (c c' : Code) : Rest := match c'.quiet with
  | true => match R.stop c' with
    | true => promGo R doneGo (fun p => Nat.ble R.d₀ p.d) c'
    | false => gotoF R ih c' []
  | false => fSt 33 c
noncomputable def fAgain1 (R : RV) (ih : RunTy) (jh : RV → RunTy) (c c' : Code) (c₁ : Code) (k : PySem.Result → Sem Fin) (κ₁ : List Fra) : Rest := match c'.quiet with
  | true => match R.stop c' with
    | true => promGo R (fun R' r => jh R' κ₁ c₁ (k r)) (fun p => depthOK R (1004 - p.d) κ₁ c₁) c'
    | false => gotoF R ih c' (.ret c₁ k :: κ₁)
  | false => fSt 32 c
noncomputable def fMark (R : RV) (ih : RunTy) (κ' : List Fra) (c : Code) (fin : Fin) : Rest := match depthOK R 6 κ' c with
  | true => ih κ' c (.pure fin)
  | false => fSt 31 c
noncomputable def fPure (R : RV) (ih : RunTy) (jh : RV → RunTy) (κ : List Fra) (c : Code) (fin : Fin) : Rest := match κ with
  | .mark :: κ' => fMark R ih κ' c fin
  | [] => match fin with
    | .done f => doneGo R (.ok f)
    | .again c' => fAgain0 R ih c c'
  | .ret c₁ k :: κ₁ => match fin with
    | .done f => ih κ₁ c₁ (k (.ok f))
    | .again c' => fAgain1 R ih jh c c' c₁ k κ₁
noncomputable def fRaise (R : RV) (ih : RunTy) (κ : List Fra) (e : Value) : Rest := match κ with
  | [] => doneGo R (.error e)
  | .mark :: _ => fSt 30 default
  | .ret c k :: κ => ih κ c (k (.error e))
noncomputable def fLoad (R : RV) (ih : RunTy) (κ : List Fra) (c : Code) (a : Nat) (k : Obj → Sem Fin) : Rest := fun T m i orc pr obs obf => match orc with
  | [] => .stuck 1 c
  | x :: orc => match Nat.beq x 0 with
    | true => match R.K a with
      | some o => ih κ c (k o) T m i orc pr obs obf
      | none => .stuck 2 c
    | false => match T.get (x - 1) with
      | some o => ih κ c (k o) T m i orc pr ((a, R.addr (x - 1)) :: obs) obf
      | none => .stuck 3 c
noncomputable def fAlloc (R : RV) (ih : RunTy) (κ : List Fra) (c : Code) (o : Obj) (k : Nat → Sem Fin) : Rest := fun T m i orc pr obs obf => match o.isFreed with
  | true => .stuck 4 c
  | false => match (T.ins (R.m₀ + m) o).get (R.m₀ + m) with
    | some _ => natStep m fun m' => ih κ c (k (R.b + m)) (T.ins (R.m₀ + m) o) m' i orc pr obs obf
    | none => .stuck 5 c
noncomputable def fUpd1 (R : RV) (ih : RunTy) (κ : List Fra) (c : Code) (a : Nat) (f : Obj → Obj) (t : Sem Fin) (x : Nat) : Rest := fun T m i orc pr obs obf => match T.get (x - 1) with
  | some o => match (f o).isFreed with
    | true => .stuck 4 c
    | false => ih κ c t (T.set (x - 1) f) m i orc pr ((a, R.addr (x - 1)) :: obs) obf
  | none => .stuck 7 c
noncomputable def fUpd2 (R : RV) (ih : RunTy) (κ : List Fra) (c : Code) (a : Nat) (f : Obj → Obj) (t : Sem Fin) (x : Nat) : Rest := fun T m i orc pr obs obf => match T.get (x - 1000001) with
  | some o => match (f o).isFreed with
    | true => .stuck 4 c
    | false => match pr with
      | .rw _ _ o₁ o₂ next => .rw ((T.set (x - 1000001) f).get (x - 1000001)) o₁ (ih κ c t (T.set (x - 1000001) fun _ => o₂) m i orc next ((a, R.addr (x - 1000001)) :: obs) obf)
      | _ => .stuck 48 c
  | none => .stuck 7 c
noncomputable def fUpd (R : RV) (ih : RunTy) (κ : List Fra) (c : Code) (a : Nat) (f : Obj → Obj) (t : Sem Fin) : Rest := fun T m i orc pr obs obf => match orc with
  | [] => .stuck 1 c
  | x :: orc => match Nat.beq x 0 with
    | true => .stuck 6 c
    | false => match Nat.ble 1000000 x with
      | false => fUpd1 R ih κ c a f t x T m i orc pr obs obf
      | true => fUpd2 R ih κ c a f t x T m i orc pr obs obf
noncomputable def fAsk (R : RV) (ih : RunTy) (κ : List Fra) (c : Code) (k : Setting → Sem Fin) : Rest := fun T m i orc pr obs obf => ih κ c (k R.S) T m i orc pr obs ((fun _ _ => k R.S2, fun _ _ => k R.S) :: obf)
noncomputable def fFresh (R : RV) (ih : RunTy) (κ : List Fra) (c : Code) (k : Nat → Sem Fin) : Rest := fun T m i orc pr obs obf => natStep i fun i' => ih κ c (k (R.t₀ + i + 1)) T m i' orc pr obs obf
noncomputable def fHand (ih : RunTy) (κ : List Fra) (c : Code) (own : Bool) (k : Option Value → Sem Fin) : Rest := match own with
  | false => ih κ c (k none)
  | true => fSt 8 c
noncomputable def fStack (ih : RunTy) (κ : List Fra) (c : Code) (k : List (Code × Pos) → Sem Fin) : Rest := fun T m i orc pr obs obf => ih κ c (k [(c, default)]) T m i orc pr obs ((fun p l => k ((c, p) :: l), fun _ _ => k [(c, default)]) :: obf)
noncomputable def fCall (R : RV) (ih : RunTy) (jh : RV → RunTy) (κ : List Fra) (c c' : Code) (hd : Option Value) (k : PySem.Result → Sem Fin) : Rest := match hd with
  | some _ => fSt 12 c
  | none => match R.stop c' with
    | true => promGo R (fun R' r => jh R' κ c (k r)) (fun p => depthOK R (1004 - p.d) κ c) c'
    | false => gotoF R ih c' (.ret c k :: κ)
noncomputable def fChoose (ih : RunTy) (κ : List Fra) (c : Code) (n : Nat) (k : Nat → Sem Fin) : Rest := match Nat.beq n 1 with
  | true => ih κ c (k 0)
  | false => fSt 16 c
noncomputable def stepF (R : RV) (ih : RunTy) (jh : RV → RunTy) (κ : List Fra) (c : Code) (t : Sem Fin) : Rest :=
  @Sem.rec Fin (fun _ => Rest) (fun fin => fPure R ih jh κ c fin) (fun e => fRaise R ih κ e) (fun s _ _ _ _ _ _ _ => .unsup s) (fun _ => fSt 13 c)
    (fun _ k _ => ih κ c (k ())) (fun _ k _ => ih κ c (k ())) (fun a _ k _ => fLoad R ih κ c a k) (fun a _ f k _ => fUpd R ih κ c a f (k ()))
    (fun o k _ => fAlloc R ih κ c o k) (fun a k _ => fLoad R ih κ c a fun o => k (some o)) (fun _ k _ => ih κ c (k ())) (fun _ _ _ => fSt 13 c)
    (fun k _ => fFresh R ih κ c k) (fun k _ => fAsk R ih κ c k) (fun _ n k _ => fChoose ih κ c n k) (fun _ _ _ _ => fSt 13 c)
    (fun c' hd _ _ k _ => fCall R ih jh κ c c' hd k) (fun own k _ => fHand ih κ c own k) (fun _ _ _ => fSt 13 c) (fun _ _ _ => fSt 13 c) (fun _ _ _ _ _ => fSt 13 c)
    (fun _ _ _ _ _ => fSt 13 c) (fun k _ => fStack ih κ c k) (fun _ _ _ => fSt 13 c) (fun _ _ => fSt 13 c) (fun _ _ _ _ _ _ => fSt 13 c) t
theorem stepF_eq (R : RV) (ih : RunTy) (jh : RV → RunTy) (κ : List Fra) (c : Code) (t : Sem Fin) : stepF R ih jh κ c t = step R ih jh κ c t := by
  cases t with
  | pure fin =>
    show fPure R ih jh κ c fin = _
    unfold fPure step
    cases κ with
    | nil =>
      cases fin with
      | done f => rfl
      | again c' =>
        simp only [fAgain0, gotoF_eq]
        cases c'.quiet <;> cases R.stop c' <;> rfl
    | cons f κ =>
      cases f with
      | mark => simp only [fMark]; rfl
      | ret c₁ k =>
        cases fin with
        | done f => rfl
        | again c' =>
          simp only [fAgain1, gotoF_eq]
          cases c'.quiet <;> cases R.stop c' <;> rfl
  | raise e =>
    show fRaise R ih κ e = _
    unfold fRaise step
    cases κ with
    | nil => rfl
    | cons f κ => cases f <;> rfl
  | call c' hd g l k =>
    show fCall R ih jh κ c c' hd k = _
    unfold fCall step
    cases hd with
    | some v => rfl
    | none =>
      simp only [gotoF_eq]
  | handled own k =>
    show fHand ih κ c own k = _
    unfold fHand step
    cases own <;> rfl
  | choose src n k =>
    show fChoose ih κ c n k = _
    unfold fChoose
    unfold step
    dsimp only
    cases Nat.beq n 1 <;> rfl
  | _ => rfl
noncomputable def runF (n : Nat) : RV → RunTy := @Nat.rec (fun _ => RV → RunTy) (fun _ _ _ _ _ _ _ _ _ _ _ => .fuel) (fun _ ih R => stepF R (ih R) ih) n
theorem runF_eq : ∀ n, runF n = run n
  | 0 => rfl
  | n + 1 => by
    have h := runF_eq n
    funext R κ c t
    show stepF R (runF n R) (runF n) κ c t = step R (run n R) (run n) κ c t
    rw [stepF_eq, h]
noncomputable def Good (KK : Nat → Option Obj) (h : Heap) : Prop := ∀ a o, KK a = some o → h.get? a = some o
structure At (KK : Nat → Option Obj) (h : Heap) (ins : List (Nat × Obj)) : Prop where
  good : Good KK h
  inj : ∀ j k, j < ins.length → k < ins.length → nth (ins.map (·.1)) j = nth (ins.map (·.1)) k → j = k
  get : ∀ (j : Nat) (p : Nat × Obj), ins[j]? = some p → h.get? p.1 = some p.2
  nk : ∀ a o, KK a = some o → ∀ p ∈ ins, p.1 ≠ a
structure After (KK : Nat → Option Obj) (h : Heap) (ins : List (Nat × Obj)) (x : X) (n : Nat) (outs news : List Obj) (h' : Heap) : Prop where
  good : Good KK h'
  size : h.objs.size ≤ h'.objs.size
  frame : ∀ a, a < h.objs.size → (∀ p ∈ ins, p.1 ≠ a) → h'.get? a = h.get? a
  len : outs.length = ins.length
  upd : ∀ (j : Nat) (a : Nat) o, (ins.map (·.1))[j]? = some a → outs[j]? = some o → h'.get? a = some o
  nlen : news.length = n
  new : ∀ (j : Nat) o, news[j]? = some o → h'.get? (x.a j) = some o
  fresh : ∀ j, j < n → h.objs.size ≤ x.a j
  ninj : ∀ j k, j < n → k < n → x.a j = x.a k → j = k
structure KOk (KK : Nat → Option Obj) : Prop where
  nolim : ∀ h, Good KK h → h.NoLimit
  stat : ∃ o, KK cStatics = some o
noncomputable abbrev MO (w : World) : Model := model PySem.Challenge.pw_sh0045_01 w
/-- the room that a context leaves -/
noncomputable def Lo (B : Around) (d : Nat) : Prop := B.depth ≤ d ∧ B.units ≤ 2 * d + 12
/-- what a code does: from the objects of «ins», for any other heap -/
noncomputable def CSpec (w : World) (KK : Nat → Option Obj) (os : OsState) (d : Nat) (c : Code) (ins : List (Nat × Obj)) (n : Nat) (r : X → PySem.Result) (outs news : X → List Obj) : Prop :=
  ∀ (B : Around) (Q : PySem.Result → Shared → Prop) (h : Heap) (dr : Drawn) (tk : Nat), Lo B d → B.handled = none → At KK h ins →
    (∀ x h' dr' tk', After KK h ins x n (outs x) (news x) h' → Q (r x) ⟨h', #[], dr', tk' + 1, os⟩) → codeAny (MO w) B c Q ⟨h, #[], dr, tk + 1, os⟩
/-- the same of a tree that a code has come to -/
noncomputable def TSpec (w : World) (KK : Nat → Option Obj) (os : OsState) (d : Nat) (c : Code) (t : Sem Fin) (ins : List (Nat × Obj)) (n : Nat) (r : X → PySem.Result) (outs news : X → List Obj) : Prop :=
  ∀ (B : Around) (Q : PySem.Result → Shared → Prop) (h : Heap) (dr : Drawn) (tk : Nat), Lo B d → B.handled = none → At KK h ins →
    (∀ x h' dr' tk', After KK h ins x n (outs x) (news x) h' → Q (r x) ⟨h', #[], dr', tk' + 1, os⟩) →
    wpOwn (MO w) B c t (postC PySem.Challenge.pw_sh0045_01 w B Q) (postE Q) ⟨h, #[], dr, tk + 1, os⟩
noncomputable def Pr.Hyp (w : World) (KK : Nat → Option Obj) (os : OsState) : Pr → Prop
  | .nil .. => True
  | .rw _ _ o₁ o₂ next => o₁ = o₂ ∧ next.Hyp w KK os
  | .cons p next => CSpec w KK os p.d p.c p.ins p.n p.r p.outs p.news ∧ ∀ b t x, (next b t x).Hyp w KK os
noncomputable def getL (T : BT) : Nat → Nat → List (Option Obj)
  | _, 0 => []
  | j, n + 1 => T.get j :: getL T (j + 1) n
noncomputable def allGe (m : Nat) : List Nat → Bool
  | [] => true
  | a :: l => match Nat.ble m a with
    | true => allGe m l
    | false => false
structure Goal where
  M : Nat
  n : Nat
  r : X → PySem.Result
  outs : X → List Obj
  news : X → List Obj
noncomputable def RV.at (R : RV) (ns : List Nat) (us : Nat → Nat) (zs : Nat → Obj) (vs : Nat → Value) : X := ⟨fun j => match Nat.blt j ns.length with
  | true => R.addr (nth ns j)
  | false => us (j - ns.length), zs, vs⟩
theorem RV.at_lt {R : RV} {ns : List Nat} {us : Nat → Nat} {zs : Nat → Obj} {vs : Nat → Value} {j : Nat} (h : j < ns.length) : (R.at ns us zs vs).a j = R.addr (nth ns j) := by
  unfold RV.at
  have h1 : Nat.blt j ns.length = true := Nat.ble_eq_true_of_le h
  simp only [h1]
noncomputable def AllEq {α : Type} (l : List (α × α)) : Prop := ∀ p ∈ l, p.1 = p.2
theorem AllEq.of_maps {α : Type} {l : List (α × α)} (h : l.map (·.1) = l.map (·.2)) : AllEq l := by
  induction l with
  | nil => intro p hp; cases hp
  | cons x l ih =>
    simp only [List.map_cons, List.cons.injEq] at h
    intro p hp
    rcases List.mem_cons.mp hp with rfl | hp
    · exact h.1
    · exact ih h.2 p hp
theorem AllEq.tail {α : Type} {x : α × α} {l : List (α × α)} (h : AllEq (x :: l)) : AllEq l := fun p hp => h p (.tail _ hp)
theorem AllEq.head {α : Type} {x : α × α} {l : List (α × α)} (h : AllEq (x :: l)) : x.1 = x.2 := h x (.head _)
noncomputable def OkO (G : Goal) : Out → Prop
  | .done r R T _ _ ns us zs vs obs obf => r = G.r (R.at ns us zs vs) ∧ getL T 0 G.M = (G.outs (R.at ns us zs vs)).map some ∧ ns.map T.get = (G.news (R.at ns us zs vs)).map some ∧ nodupB ns = true ∧ allGe G.M ns = true ∧ ns.length = G.n ∧ AllEq obs ∧ AllEq obf
  | .prom c' R T _ _ p obs obf next => c' = p.c ∧ p.sel.map (fun j => (R.addr j, T.get j)) = p.ins.map (fun q => (q.1, some q.2)) ∧ AllEq obs ∧ AllEq obf ∧ ∀ b t x, OkO G (next b t x)
  | .rw g o₁ out => g = some o₁ ∧ OkO G out
  | _ => False
set_option genInjectivity true in
inductive Sm where
  | fin (r : PySem.Result) (os ns : List (Option Obj)) (b1 b2 : Bool) (n : Nat) (obs : List Nat) (obf : List FO)
  | prom (c : Code) (os : List (Nat × Option Obj)) (obs : List Nat) (obf : List FO) (f : Nat → Nat → X → Sm)
  | rw (g : Option Obj) (s : Sm)
  | bad (n : Nat)
noncomputable def lhs (G : Goal) : Out → Sm
  | .done r _ T _ _ ns _ _ _ obs obf => .fin r (getL T 0 G.M) (ns.map T.get) (nodupB ns) (allGe G.M ns) ns.length (obs.map (·.1)) (obf.map (·.1))
  | .prom c' R T _ _ p obs obf next => .prom c' (p.sel.map fun j => (R.addr j, T.get j)) (obs.map (·.1)) (obf.map (·.1)) (fun b t x => lhs G (next b t x))
  | .rw g _ out => .rw g (lhs G out)
  | _ => .bad 0
noncomputable def rhs (G : Goal) : Out → Sm
  | .done _ R _ _ _ ns us zs vs obs obf => .fin (G.r (R.at ns us zs vs)) ((G.outs (R.at ns us zs vs)).map some) ((G.news (R.at ns us zs vs)).map some) true true G.n (obs.map (·.2)) (obf.map (·.2))
  | .prom _ _ _ _ _ p obs obf next => .prom p.c (p.ins.map fun q => (q.1, some q.2)) (obs.map (·.2)) (obf.map (·.2)) (fun b t x => rhs G (next b t x))
  | .rw _ o₁ out => .rw (some o₁) (rhs G out)
  | _ => .bad 1
theorem OkO.of {G : Goal} : ∀ {o : Out}, lhs G o = rhs G o → OkO G o
  | .done .., h => by
    simp only [lhs, rhs, Sm.fin.injEq] at h
    obtain ⟨h1, h2, h3, h4, h5, h6, h7, h8⟩ := h
    exact ⟨h1, h2, h3, h4, h5, h6, .of_maps h7, .of_maps h8⟩
  | .prom _ _ _ _ _ _ _ _ next, h => by
    simp only [lhs, rhs, Sm.prom.injEq] at h
    obtain ⟨h1, h2, h3, h4, h5⟩ := h
    exact ⟨h1, h2, .of_maps h3, .of_maps h4, fun b t x => OkO.of (congrFun (congrFun (congrFun h5 b) t) x)⟩
  | .rw g o₁ out, h => by
    simp only [lhs, rhs, Sm.rw.injEq] at h
    exact ⟨h.1, OkO.of h.2⟩
  | .stuck .., h | .unsup .., h | .fuel, h => by simp [lhs, rhs] at h

structure RV.Ok (R : RV) (w : World) (KK : Nat → Option Obj) (h₀ : Heap) : Prop where
  kok : KOk KK
  kk : R.K = KK
  set : (⟨PySem.Challenge.pw_sh0045_01, w.params⟩ : Setting) = R.S ∨ (⟨PySem.Challenge.pw_sh0045_01, w.params⟩ : Setting) = R.S2
  old : ∀ j, j < R.m₀ → R.addr j < R.b
  inj : ∀ j k, j < R.m₀ → k < R.m₀ → R.addr j = R.addr k → j = k
  good : Good KK h₀
  nk : ∀ a o, KK a = some o → ∀ j, j < R.m₀ → R.addr j ≠ a
  size : h₀.objs.size = R.b
structure Rep (R : RV) (h₀ : Heap) (h : Heap) (T : BT) (m : Nat) : Prop where
  size : h.objs.size = R.b + m
  get : ∀ j o, T.get j = some o → j < R.m₀ + m ∧ h.get? (R.addr j) = some o
  keep : ∀ a, a < R.b → (∀ j, j < R.m₀ → R.addr j ≠ a) → h.get? a = h₀.get? a
theorem RV.addr_new (R : RV) (j : Nat) (h : R.m₀ ≤ j) : R.addr j = R.b + (j - R.m₀) := by
  unfold RV.addr
  have : Nat.blt j R.m₀ = false := by
    cases q : Nat.blt j R.m₀ with
    | false => rfl
    | true => have := Nat.le_of_ble_eq_true q; omega
  rw [this]
section
variable {R : RV} {w : World} {KK : Nat → Option Obj} {h₀ h : Heap} {T : BT} {m : Nat}
theorem Rep.good (O : R.Ok w KK h₀) (D : Rep R h₀ h T m) : Good KK h := fun a o e => by
  have e1 := O.good a o e
  rw [D.keep a (by have := Heap.lt_size e1; rw [O.size] at this; exact this) (O.nk a o e), e1]
theorem Rep.known (O : R.Ok w KK h₀) (D : Rep R h₀ h T m) {a : Nat} {o : Obj} (e : R.K a = some o) : h.get? a = some o := by
  rw [O.kk] at e
  exact D.good O a o e
theorem Rep.nolim (O : R.Ok w KK h₀) (D : Rep R h₀ h T m) : h.NoLimit := O.kok.nolim h (D.good O)
theorem Rep.alloc (O : R.Ok w KK h₀) (D : Rep R h₀ h T m) {o : Obj} (hf : o.isFreed = false) (hg : ((T.ins (R.m₀ + m) o).get (R.m₀ + m)).isSome = true) : Rep R h₀ (h.push o) (T.ins (R.m₀ + m) o) (m + 1) := by
  refine ⟨by rw [Heap.size_push, D.size, Nat.add_assoc], fun j o' e => ?_, fun a ha hn => ?_⟩
  · rw [BT.get_ins o T _ hg] at e
    by_cases hj : j = R.m₀ + m
    · subst hj
      rw [if_pos rfl] at e
      cases e
      refine ⟨by omega, ?_⟩
      rw [R.addr_new _ (by omega), Nat.add_sub_cancel_left, ← D.size]
      exact Heap.get?_push_size _ hf
    · rw [if_neg hj] at e
      obtain ⟨e1, e2⟩ := D.get j o' e
      exact ⟨by omega, Heap.get?_push_of_some _ e2⟩
  · have hs : a ≠ h.objs.size := by rw [D.size]; omega
    have : (h.push o).get? a = h.get? a := by
      cases q : h.get? a with
      | some o' => exact Heap.get?_push_of_some _ q
      | none =>
        cases q' : (h.push o).get? a with
        | none => rfl
        | some o' =>
          exfalso
          have h1 := (Heap.get?_some_iff.mp q')
          have : h.get? a = some o' := Heap.get?_some_iff.mpr ⟨by
            have h2 := h1.1
            cases h
            simp only [Heap.push, Array.getElem?_push] at h2
            rw [if_neg hs] at h2
            exact h2, h1.2⟩
          rw [q] at this; cases this
    rw [this]; exact D.keep a ha hn
theorem addr_inj (O : R.Ok w KK h₀) {j k : Nat} (e : R.addr j = R.addr k) : j = k := by
  by_cases hj : j < R.m₀
  · by_cases hk : k < R.m₀
    · exact O.inj j k hj hk e
    · have := O.old j hj
      rw [e, R.addr_new k (by omega)] at this
      omega
  · by_cases hk : k < R.m₀
    · have := O.old k hk
      rw [← e, R.addr_new j (by omega)] at this
      omega
    · rw [R.addr_new j (by omega), R.addr_new k (by omega)] at e
      omega
theorem Rep.update (O : R.Ok w KK h₀) (D : Rep R h₀ h T m) {j : Nat} {o : Obj} {f : Obj → Obj} (e : T.get j = some o) (hf : (f o).isFreed = false) : Rep R h₀ (h.update (R.addr j) f) (T.set j f) m := by
  obtain ⟨z1, z2⟩ := D.get j o e
  have hs : Heap.SameBut (R.addr j) h (h.update (R.addr j) f) := Heap.SameBut.update ..
  refine ⟨by rw [hs.1, D.size], fun k o' e' => ?_, fun a ha hn => ?_⟩
  · rw [BT.get_set] at e'
    by_cases hk : k = j
    · subst hk
      rw [if_pos rfl, e] at e'
      cases e'
      exact ⟨z1, Heap.get?_update_self f z2 hf⟩
    · rw [if_neg hk] at e'
      obtain ⟨y1, y2⟩ := D.get k o' e'
      exact ⟨y1, (hs.2 _ fun q => hk (addr_inj O q)).trans y2⟩
  · refine (hs.2 a fun q => ?_).trans (D.keep a ha hn)
    by_cases hj : j < R.m₀
    · exact hn j hj q.symm
    · rw [R.addr_new j (by omega)] at q
      have q' : @Eq Nat a (R.b + (j - R.m₀)) := q
      omega
end

section
variable {R : RV} {w : World} {KK : Nat → Option Obj} {h₀ h h' H₀ : Heap} {T T₁ T₂ : BT} {m : Nat}
theorem nth_get {l : List Nat} {j : Nat} (h : j < l.length) : l[j]? = some (nth l j) := by
  induction l generalizing j with
  | nil => simp at h
  | cons a l ih =>
    cases j with
    | zero => rfl
    | succ j =>
      rw [List.getElem?_cons_succ, ih (by simpa using h)]
      rfl
theorem memB_iff {a : Nat} : ∀ {l : List Nat}, memB a l = false → a ∉ l
  | [], _ => by simp
  | b :: l, h => by
    unfold memB at h
    cases e : Nat.beq a b with
    | true => rw [e] at h; cases h
    | false =>
      rw [e] at h
      have := Nat.ne_of_beq_eq_false e
      simp only [List.mem_cons, not_or]
      exact ⟨this, memB_iff h⟩
theorem nodupB_iff : ∀ {l : List Nat}, nodupB l = true → l.Nodup
  | [], _ => List.nodup_nil
  | a :: l, h => by
    unfold nodupB at h
    cases e : memB a l with
    | true => rw [e] at h; cases h
    | false =>
      rw [e] at h
      exact List.nodup_cons.mpr ⟨memB_iff e, nodupB_iff h⟩
theorem nodup_inj {l : List Nat} (hn : l.Nodup) {i j a : Nat} (hi : l[i]? = some a) (hj : l[j]? = some a) : i = j := by
  obtain ⟨h1, e1⟩ := List.getElem?_eq_some_iff.mp hi
  obtain ⟨h2, e2⟩ := List.getElem?_eq_some_iff.mp hj
  exact (List.getElem_inj hn).mp (e1.trans e2.symm)
theorem allGe_iff {m : Nat} : ∀ {l : List Nat}, allGe m l = true → ∀ a ∈ l, m ≤ a
  | [], _, a, ha => by cases ha
  | b :: l, h, a, ha => by
    unfold allGe at h
    cases e : Nat.ble m b with
    | false => rw [e] at h; cases h
    | true =>
      rw [e] at h
      rcases List.mem_cons.mp ha with rfl | ha
      · exact Nat.le_of_ble_eq_true e
      · exact allGe_iff h a ha
theorem updL_get : ∀ {js : List Nat} {os : List Obj} {T T' : BT}, updL js os T = some T' → ∀ {k : Nat} {o : Obj}, T'.get k = some o → (∃ i : Nat, js[i]? = some k ∧ os[i]? = some o) ∨ (k ∉ js ∧ T.get k = some o)
  | [], [], T, T', h, k, o, e => by cases h; exact .inr ⟨by simp, e⟩
  | j :: js, o' :: os, T, T', h, k, o, e => by
    unfold updL at h
    split at h
    · rename_i o₁ e₁
      rcases updL_get h e with ⟨i, h1, h2⟩ | ⟨h1, h2⟩
      · exact .inl ⟨i + 1, h1, h2⟩
      · rw [BT.get_set] at h2
        by_cases hk : k = j
        · subst hk
          rw [if_pos rfl, e₁] at h2
          cases h2
          exact .inl ⟨0, rfl, rfl⟩
        · rw [if_neg hk] at h2
          exact .inr ⟨by simp [hk, h1], h2⟩
    · cases h
  | [], _ :: _, _, _, h, _, _, _ => by cases h
  | _ :: _, [], _, _, h, _, _, _ => by cases h
theorem insL_get : ∀ {os : List Obj} {n : Nat} {T T' : BT}, insL os n T = some T' → ∀ {k : Nat} {o : Obj}, T'.get k = some o → (∃ i : Nat, k = n + i ∧ os[i]? = some o) ∨ T.get k = some o
  | [], n, T, T', h, k, o, e => by cases h; exact .inr e
  | o' :: os, n, T, T', h, k, o, e => by
    unfold insL at h
    split at h
    · rename_i o₁ e₁
      rcases insL_get h e with ⟨i, h1, h2⟩ | h1
      · exact .inl ⟨i + 1, by omega, h2⟩
      · rw [BT.get_ins o' T _ (by rw [e₁]; rfl)] at h1
        by_cases hk : k = n
        · subst hk
          rw [if_pos rfl] at h1
          cases h1
          exact .inl ⟨0, rfl, rfl⟩
        · rw [if_neg hk] at h1
          exact .inr h1
    · cases h
theorem sel_ins {ins : List (Nat × Obj)} {sel : List Nat} (e : sel.map (fun j => (R.addr j, T.get j)) = ins.map (fun q => (q.1, some q.2))) {i : Nat} {q : Nat × Obj} (hq : ins[i]? = some q) :
    ∃ j, sel[i]? = some j ∧ R.addr j = q.1 ∧ T.get j = some q.2 := by
  have h := congrArg (fun l => l[i]?) e
  simp only [List.getElem?_map, hq, Option.map_some] at h
  cases hs : sel[i]? with
  | none => rw [hs] at h; cases h
  | some j =>
    rw [hs] at h
    simp only [Option.map_some, Option.some.injEq, Prod.mk.injEq] at h
    exact ⟨j, rfl, h.1, h.2⟩
theorem sel_ins' {ins : List (Nat × Obj)} {sel : List Nat} (e : sel.map (fun j => (R.addr j, T.get j)) = ins.map (fun q => (q.1, some q.2))) {i j : Nat} (hq : sel[i]? = some j) :
    ∃ q : Nat × Obj, ins[i]? = some q ∧ R.addr j = q.1 ∧ T.get j = some q.2 := by
  have h := congrArg (fun l => l[i]?) e
  simp only [List.getElem?_map, hq, Option.map_some] at h
  cases hs : ins[i]? with
  | none => rw [hs] at h; cases h
  | some q =>
    rw [hs] at h
    simp only [Option.map_some, Option.some.injEq, Prod.mk.injEq] at h
    exact ⟨q, rfl, h.1, h.2⟩
theorem addr_lt (O : R.Ok w KK h₀) (D : Rep R h₀ h T m) {j : Nat} (hj : j < R.m₀ + m) : R.addr j < h.objs.size := by
  rw [D.size]
  by_cases h1 : j < R.m₀
  · have := O.old j h1; omega
  · rw [R.addr_new j (by omega)]; omega
theorem addr_nk (O : R.Ok w KK h₀) {a : Nat} {o : Obj} (e : KK a = some o) (j : Nat) : R.addr j ≠ a := by
  by_cases h1 : j < R.m₀
  · exact O.nk a o e j h1
  · rw [R.addr_new j (by omega)]
    have := Heap.lt_size (O.good a o e)
    rw [O.size] at this
    intro q
    have q' : @Eq Nat (R.b + (j - R.m₀)) a := q
    have this' : @LT.lt Nat _ a R.b := this
    omega
theorem promAt (O : R.Ok w KK h₀) (D : Rep R h₀ h T m) {ins : List (Nat × Obj)} {sel : List Nat} (e : sel.map (fun j => (R.addr j, T.get j)) = ins.map (fun q => (q.1, some q.2))) (hn : nodupB sel = true) : At KK h ins where
  good := D.good O
  inj := by
    intro j k hj hk hjk
    obtain ⟨j', h1, h2, h3⟩ := sel_ins e (List.getElem?_eq_getElem hj)
    obtain ⟨k', h4, h5, h6⟩ := sel_ins e (List.getElem?_eq_getElem hk)
    have q1 := nth_get (l := ins.map (·.1)) (j := j) (by simpa using hj)
    have q2 := nth_get (l := ins.map (·.1)) (j := k) (by simpa using hk)
    rw [List.getElem?_map, List.getElem?_eq_getElem hj] at q1
    rw [List.getElem?_map, List.getElem?_eq_getElem hk] at q2
    simp only [Option.map_some, Option.some.injEq] at q1 q2
    have : j' = k' := addr_inj O (by rw [h2, h5, q1, q2, hjk])
    subst this
    exact nodup_inj (nodupB_iff hn) h1 h4
  get := by
    intro j p hp
    obtain ⟨j', h1, h2, h3⟩ := sel_ins e hp
    rw [← h2]; exact (D.get _ _ h3).2
  nk := by
    intro a o ha p hp
    obtain ⟨i, hi, rfl⟩ := List.getElem_of_mem hp
    obtain ⟨j', h1, h2, h3⟩ := sel_ins e (List.getElem?_eq_getElem hi)
    rw [← h2]; exact addr_nk O ha j'
structure Glob (H₀ : Heap) (M : Nat) (A : Nat → Nat) (R : RV) (h₀ : Heap) : Prop where
  low : H₀.objs.size ≤ R.b
  m : M ≤ R.m₀
  ad : ∀ j, j < M → R.addr j = A j
  new : ∀ j, M ≤ j → j < R.m₀ → H₀.objs.size ≤ R.addr j
  frame : ∀ a, a < H₀.objs.size → (∀ j, j < M → A j ≠ a) → h₀.get? a = H₀.get? a
theorem Glob.new' {M : Nat} {A : Nat → Nat} (Gl : Glob H₀ M A R h₀) (j : Nat) (hj : M ≤ j) : H₀.objs.size ≤ R.addr j := by
  by_cases h1 : j < R.m₀
  · exact Gl.new j hj h1
  · rw [R.addr_new j (by omega)]; have := Gl.low; omega
theorem Glob.ne {M : Nat} {A : Nat → Nat} (Gl : Glob H₀ M A R h₀) {a : Nat} (ha : a < H₀.objs.size) (hA : ∀ j, j < M → A j ≠ a) (j : Nat) : R.addr j ≠ a := by
  by_cases h1 : j < M
  · rw [Gl.ad j h1]; exact hA j h1
  · have := Gl.new' j (by omega); omega
theorem Glob.frame' {M : Nat} {A : Nat → Nat} (Gl : Glob H₀ M A R h₀) (D : Rep R h₀ h T m) {a : Nat} (ha : a < H₀.objs.size) (hA : ∀ j, j < M → A j ≠ a) : h.get? a = H₀.get? a := by
  rw [D.keep a (by have := Gl.low; omega) (fun j _ => Gl.ne ha hA j), Gl.frame a ha hA]
variable {p : Prom} {b t : Nat} {x : X}
theorem after_addr_old {j : Nat} (hj : j < R.m₀ + m) : (R.after m p b t x).addr j = R.addr j := by
  unfold RV.addr
  have h1 : Nat.blt j (R.after m p b t x).m₀ = true := Nat.ble_eq_true_of_le (show j + 1 ≤ R.m₀ + m + p.n by omega)
  rw [h1]
  show (match Nat.blt j (R.m₀ + m) with | true => R.addr j | false => _) = _
  have h2 : Nat.blt j (R.m₀ + m) = true := Nat.ble_eq_true_of_le (by omega)
  rw [h2]; rfl
theorem after_addr_new {i : Nat} (hi : i < p.n) : (R.after m p b t x).addr (R.m₀ + m + i) = x.a i := by
  unfold RV.addr
  have h1 : Nat.blt (R.m₀ + m + i) (R.after m p b t x).m₀ = true := Nat.ble_eq_true_of_le (show R.m₀ + m + i + 1 ≤ R.m₀ + m + p.n by omega)
  rw [h1]
  show (match Nat.blt (R.m₀ + m + i) (R.m₀ + m) with | true => R.addr _ | false => x.a (R.m₀ + m + i - (R.m₀ + m))) = _
  have h2 : Nat.blt (R.m₀ + m + i) (R.m₀ + m) = false := by
    cases q : Nat.blt (R.m₀ + m + i) (R.m₀ + m) with
    | false => rfl
    | true => have := Nat.le_of_ble_eq_true q; omega
  rw [h2, Nat.add_sub_cancel_left]
theorem after_cases {j : Nat} (hj : j < (R.after m p b t x).m₀) : (j < R.m₀ + m ∧ (R.after m p b t x).addr j = R.addr j) ∨ (∃ i, i < p.n ∧ j = R.m₀ + m + i ∧ (R.after m p b t x).addr j = x.a i) := by
  by_cases h1 : j < R.m₀ + m
  · exact .inl ⟨h1, after_addr_old h1⟩
  · have hj' : j < R.m₀ + m + p.n := hj
    refine .inr ⟨j - (R.m₀ + m), by omega, by omega, ?_⟩
    have e : j = R.m₀ + m + (j - (R.m₀ + m)) := by omega
    have h2 := after_addr_new (R := R) (m := m) (p := p) (b := b) (t := t) (x := x) (i := j - (R.m₀ + m)) (by omega)
    rw [← e] at h2; exact h2
section
variable (O : R.Ok w KK h₀) (D : Rep R h₀ h T m) (hA : After KK h p.ins x p.n (p.outs x) (p.news x) h')
  (hs : p.sel.map (fun j => (R.addr j, T.get j)) = p.ins.map (fun q => (q.1, some q.2)))
include O D hA
theorem x_lt {i : Nat} (hi : i < p.n) : x.a i < h'.objs.size := by
  have : i < (p.news x).length := by rw [hA.nlen]; exact hi
  exact Heap.lt_size (hA.new i _ (List.getElem?_eq_getElem this))
theorem promOk : (R.after m p h'.objs.size t x).Ok w KK h' where
  kok := O.kok
  kk := O.kk
  set := O.set
  old := by
    intro j hj
    rcases after_cases hj with ⟨h1, h2⟩ | ⟨i, h1, h2, h3⟩
    · rw [h2]
      have := addr_lt O D h1
      exact Nat.lt_of_lt_of_le this hA.size
    · rw [h3]; exact x_lt O D hA h1
  inj := by
    intro j k hj hk e
    rcases after_cases hj with ⟨h1, h2⟩ | ⟨i, h1, h2, h3⟩ <;> rcases after_cases hk with ⟨h4, h5⟩ | ⟨i', h4, h5, h6⟩
    · rw [h2, h5] at e; exact addr_inj O e
    · rw [h2, h6] at e
      have := addr_lt O D h1
      have := hA.fresh i' h4
      omega
    · rw [h3, h5] at e
      have := addr_lt O D h4
      have := hA.fresh i h1
      omega
    · rw [h3, h6] at e
      have := hA.ninj i i' h1 h4 e
      omega
  good := hA.good
  nk := by
    intro a o ha j hj
    rcases after_cases hj with ⟨h1, h2⟩ | ⟨i, h1, h2, h3⟩
    · rw [h2]; exact addr_nk O ha j
    · rw [h3]
      have h4 := hA.fresh i h1
      have h5 : @LT.lt Nat _ a h.objs.size := Heap.lt_size (D.good O a o ha)
      omega
  size := rfl
include hs in
theorem promGlob {M : Nat} {A : Nat → Nat} (Gl : Glob H₀ M A R h₀) : Glob H₀ M A (R.after m p h'.objs.size t x) h' where
  low := by
    have h1 := Gl.low
    have h2 := hA.size
    have h3 := D.size
    show H₀.objs.size ≤ h'.objs.size
    omega
  m := by have := Gl.m; show M ≤ R.m₀ + m + p.n; omega
  ad := by
    intro j hj
    rw [after_addr_old (by have := Gl.m; omega)]
    exact Gl.ad j hj
  new := by
    intro j h1 hj
    rcases after_cases hj with ⟨h1, h2⟩ | ⟨i, h1, h2, h3⟩
    · rw [h2]; exact Gl.new' j (by omega)
    · rw [h3]
      have := hA.fresh i h1
      have := Gl.low
      have := D.size
      omega
  frame := by
    intro a ha hn
    rw [hA.frame a (by have := Gl.low; have := D.size; omega) ?_, Gl.frame' D ha hn]
    intro q hq
    obtain ⟨i, hi, rfl⟩ := List.getElem_of_mem hq
    obtain ⟨j, h1, h2, h3⟩ := sel_ins hs (List.getElem?_eq_getElem hi)
    rw [← h2]; exact Gl.ne ha hn j
include hs in
theorem promRep (hu : updL p.sel (p.outs x) T = some T₁) (hi : insL (p.news x) (R.m₀ + m) T₁ = some T₂) : Rep (R.after m p h'.objs.size t x) h' h' T₂ 0 where
  size := rfl
  keep := fun _ _ _ => rfl
  get := by
    intro j o e
    rcases insL_get hi e with ⟨i, h1, h2⟩ | e
    · subst h1
      have hlt : i < p.n := by
        obtain ⟨h3, _⟩ := List.getElem?_eq_some_iff.mp h2
        rw [hA.nlen] at h3; exact h3
      refine ⟨show R.m₀ + m + i < R.m₀ + m + p.n + 0 by omega, ?_⟩
      rw [after_addr_new hlt]; exact hA.new i o h2
    · rcases updL_get hu e with ⟨i, h1, h2⟩ | ⟨h1, h2⟩
      · obtain ⟨q, h3, h4, h5⟩ := sel_ins' hs h1
        have h6 := (D.get _ _ h5).1
        refine ⟨show j < R.m₀ + m + p.n + 0 by omega, ?_⟩
        rw [after_addr_old h6, h4]
        refine hA.upd i _ o ?_ h2
        rw [List.getElem?_map, h3]; rfl
      · obtain ⟨h3, h4⟩ := D.get _ _ h2
        refine ⟨show j < R.m₀ + m + p.n + 0 by omega, ?_⟩
        rw [after_addr_old h3, hA.frame _ (addr_lt O D h3) ?_, h4]
        intro q hq
        obtain ⟨i, hi, rfl⟩ := List.getElem_of_mem hq
        obtain ⟨j', h5, h6, h7⟩ := sel_ins hs (List.getElem?_eq_getElem hi)
        rw [← h6]
        intro q
        exact h1 (addr_inj O q ▸ List.mem_of_getElem? h5)
end
theorem getL_get {T : BT} : ∀ {n j : Nat} {os : List Obj}, getL T j n = os.map some → os.length = n ∧ ∀ (i : Nat) o, os[i]? = some o → T.get (j + i) = some o
  | 0, j, os, h => by
    cases os with
    | nil => exact ⟨rfl, by simp⟩
    | cons => simp [getL] at h
  | n + 1, j, os, h => by
    cases os with
    | nil => simp [getL] at h
    | cons o os =>
      simp only [getL, List.map_cons, List.cons.injEq] at h
      obtain ⟨h1, h2⟩ := getL_get h.2
      refine ⟨by rw [List.length_cons, h1], fun i o' e => ?_⟩
      cases i with
      | zero => cases e; exact h.1
      | succ i =>
        have := h2 i o' e
        rw [show j + (i + 1) = j + 1 + i by omega]; exact this
theorem doneAfter {G : Goal} {ins : List (Nat × Obj)} {r : PySem.Result} {i : Nat} {ns : List Nat} {us : Nat → Nat} {zs : Nat → Obj} {vs : Nat → Value} {obs : List (Nat × Nat)} {obf : List (FO × FO)} (O : R.Ok w KK h₀) (D : Rep R h₀ h T m)
    (Gl : Glob H₀ G.M (nth (ins.map (·.1))) R h₀) (hM : ins.length = G.M) (hok : OkO G (.done r R T m i ns us zs vs obs obf)) : After KK H₀ ins (R.at ns us zs vs) G.n (G.outs (R.at ns us zs vs)) (G.news (R.at ns us zs vs)) h := by
  obtain ⟨_, h2, h3, h4, h5, h6, _, _⟩ := hok
  obtain ⟨g1, g2⟩ := getL_get h2
  have hns : ∀ j, j < G.n → ∃ k, ns[j]? = some k ∧ nth ns j = k ∧ G.M ≤ k ∧ ∃ o, T.get k = some o ∧ (G.news (R.at ns us zs vs))[j]? = some o := by
    intro j hj
    have hl : j < ns.length := by omega
    have e := nth_get hl
    refine ⟨_, e, rfl, allGe_iff h5 _ (List.mem_of_getElem? e), ?_⟩
    have q := congrArg (fun l => l[j]?) h3
    simp only [List.getElem?_map, e, Option.map_some] at q
    cases hq : (G.news (R.at ns us zs vs))[j]? with
    | none => rw [hq] at q; cases q
    | some o => rw [hq] at q; simp only [Option.map_some, Option.some.injEq] at q; exact ⟨o, q, rfl⟩
  have hnl : (G.news (R.at ns us zs vs)).length = G.n := by
    have q := congrArg List.length h3
    simp only [List.length_map] at q
    omega
  refine ⟨D.good O, ?_, ?_, by omega, ?_, hnl, ?_, ?_, ?_⟩
  · rw [D.size]; have := Gl.low; omega
  · intro a ha hn
    refine Gl.frame' D ha fun j hj => ?_
    have q := nth_get (l := ins.map (·.1)) (j := j) (by simp; omega)
    rw [List.getElem?_map, List.getElem?_eq_getElem (by omega)] at q
    simp only [Option.map_some, Option.some.injEq] at q
    rw [← q]; exact hn _ (List.getElem_mem _)
  · intro j a o ha ho
    have h7 := g2 j o ho
    rw [Nat.zero_add] at h7
    have h8 := (D.get _ _ h7).2
    have hj : j < ins.length := by
      obtain ⟨q, _⟩ := List.getElem?_eq_some_iff.mp ha
      simpa using q
    rw [Gl.ad j (by omega)] at h8
    have q := nth_get (l := ins.map (·.1)) (j := j) (by simpa using hj)
    rw [ha] at q
    cases q
    exact h8
  · intro j o ho
    have hj : j < G.n := by
      obtain ⟨q, _⟩ := List.getElem?_eq_some_iff.mp ho
      omega
    obtain ⟨k, k1, k2, k3, o', k4, k5⟩ := hns j hj
    rw [ho] at k5; cases k5
    rw [RV.at_lt (by omega), k2]; exact (D.get _ _ k4).2
  · intro j hj
    obtain ⟨k, k1, k2, k3, o', k4, k5⟩ := hns j hj
    rw [RV.at_lt (by omega), k2]; exact Gl.new' k k3
  · intro j k hj hk e
    obtain ⟨j', k1, k2, _⟩ := hns j hj
    obtain ⟨k', k3, k4, _⟩ := hns k hk
    have e' := e
    rw [RV.at_lt (by omega), RV.at_lt (by omega), k2, k4] at e'
    have := addr_inj O e'
    subst this
    exact nodup_inj (nodupB_iff h4) k1 k3
end
section
variable (w : World) (B₀ : Around) (Q : Fin → Shared → Prop) (E : Value → Shared → Prop)
noncomputable def ar : List Fra → Around
  | [] => B₀
  | .mark :: κ => ar κ
  | .ret c _ :: κ => ((ar κ).under c).mark none
noncomputable def QE : List Fra → Code → (Fin → Shared → Prop) × (Value → Shared → Prop)
  | [], _ => (Q, E)
  | .mark :: κ, c => (fun fin s' => wpOwn (MO w) (ar B₀ κ) c (enterFrame.bind fun _ => .pure fin) (QE κ c).1 (QE κ c).2 s', (QE κ c).2)
  | .ret c₁ k :: κ, _ => (postC PySem.Challenge.pw_sh0045_01 w (((ar B₀ κ).under c₁).mark none) (fun r s' => wpOwn (MO w) (ar B₀ κ) c₁ (k r) (QE κ c₁).1 (QE κ c₁).2 s'),
      postE (fun r s' => wpOwn (MO w) (ar B₀ κ) c₁ (k r) (QE κ c₁).1 (QE κ c₁).2 s'))
noncomputable def MM (κ : List Fra) (c : Code) (t : Sem Fin) (s : Shared) : Prop := wpOwn (MO w) (ar B₀ κ) c t (QE w B₀ Q E κ c).1 (QE w B₀ Q E κ c).2 s
end
theorem frames_le (c : Code) : c.frames ≤ 3 := by
  unfold Code.frames
  split <;> first | decide | (split <;> decide)
theorem depth_weight {c : Code} (h : notCaller c = true) : c.weight ≤ 5 := by
  have h1 : c.isCaller = false := by
    unfold notCaller at h
    cases hc : c.isCaller with
    | false => rfl
    | true =>
      exfalso
      unfold Code.isCaller at hc
      split at hc
      · simp at h
      · cases hc
  have h2 := frames_le c
  unfold Code.weight
  rw [h1]
  simp only [Bool.false_eq_true, if_false]
  repeat' split
  all_goals omega
theorem depth_caller' : ∀ {κ : List Fra} {n : Nat} {c : Code}, depthOK R n κ c = true → notCaller c = true
  | [], n, c, h => by
    unfold depthOK at h
    cases q : notCaller c with
    | true => rfl
    | false => rw [q] at h; cases h
  | .mark :: κ, n, c, h => depth_caller' (κ := κ) (n := n) h
  | .ret c₁ k :: κ, n, c, h => by
    unfold depthOK at h
    cases q : notCaller c with
    | true => rfl
    | false => rw [q] at h; cases h
theorem depth_sum {R : RV} {B₀ : Around} (hd : Lo B₀ R.d₀) : ∀ {κ : List Fra} {n : Nat} {c : Code}, depthOK R n κ c = true → (ar B₀ κ).depth + n < 1000
  | [], n, c, h => by
    have hc := depth_caller' h
    unfold depthOK at h
    rw [hc] at h
    have : R.d₀ + n < 1000 := Nat.le_of_ble_eq_true h
    show B₀.depth + n < 1000
    have := hd.1
    omega
  | .mark :: κ, n, c, h => depth_sum hd (κ := κ) (n := n) (c := c) h
  | .ret c₁ k :: κ, n, c, h => by
    have hc := depth_caller' h
    unfold depthOK at h
    rw [hc] at h
    have h1 := depth_sum hd h
    have h2 := depth_weight (depth_caller' h)
    show (ar B₀ κ).depth + c₁.weight + n < 1000
    omega
theorem units_weight {c : Code} (h : notCaller c = true) : c.cUnits ≤ 10 := by
  have h2 := frames_le c
  unfold Code.cUnits
  split <;> omega
theorem units_sum {R : RV} {B₀ : Around} (hd : Lo B₀ R.d₀) : ∀ {κ : List Fra} {n : Nat} {c : Code}, depthOK R n κ c = true → (ar B₀ κ).units + 2 * n ≤ 2010
  | [], n, c, h => by
    have hc := depth_caller' h
    unfold depthOK at h
    rw [hc] at h
    have : R.d₀ + n < 1000 := Nat.le_of_ble_eq_true h
    show B₀.units + 2 * n ≤ 2010
    have := hd.2
    omega
  | .mark :: κ, n, c, h => units_sum hd (κ := κ) (n := n) (c := c) h
  | .ret c₁ k :: κ, n, c, h => by
    have hc := depth_caller' h
    unfold depthOK at h
    rw [hc] at h
    have h1 := units_sum hd h
    have h2 := units_weight (depth_caller' h)
    show (ar B₀ κ).units + c₁.cUnits + 2 * n ≤ 2010
    omega
theorem lo_ret {R : RV} {B₀ : Around} (hd : Lo B₀ R.d₀) {κ : List Fra} {c : Code} {e : Nat} (hp : depthOK R (1004 - e) κ c = true) : Lo (((ar B₀ κ).under c).mark none) e := by
  have h1 := depth_sum (B₀ := B₀) hd hp
  have h2 := depth_weight (depth_caller' hp)
  have h3 := units_sum (B₀ := B₀) hd hp
  have h4 := units_weight (depth_caller' hp)
  refine ⟨?_, ?_⟩
  · show (ar B₀ κ).depth + c.weight ≤ e
    omega
  · show (ar B₀ κ).units + c.cUnits ≤ 2 * e + 12
    omega
theorem ar_handled {B₀ : Around} (hh : B₀.handled = none) : ∀ κ : List Fra, (ar B₀ κ).handled = none
  | [] => hh
  | .mark :: κ => ar_handled hh κ
  | .ret c _ :: κ => by
    show ((none : Option Value).or (ar B₀ κ).handled) = none
    rw [ar_handled hh κ]; rfl
section
variable (w : World) (KK : Nat → Option Obj) (os : OsState) (B₀ : Around) (Qr : PySem.Result → Shared → Prop) (G : Goal) (H₀ : Heap) (ins : List (Nat × Obj))
noncomputable abbrev M3 (κ : List Fra) (c : Code) (t : Sem Fin) (s : Shared) : Prop := MM w B₀ (postC PySem.Challenge.pw_sh0045_01 w B₀ Qr) (postE Qr) κ c t s
/-- what is shown of a run, by its fuel -/
noncomputable def Snd1 (ih : RunTy) (R : RV) : Prop := ∀ κ c t T m i orc pr obs obf h₀, R.Ok w KK h₀ → Glob H₀ G.M (nth (ins.map (·.1))) R h₀ → Lo B₀ R.d₀ → pr.Hyp w KK os → OkO G (ih κ c t T m i orc pr obs obf) → AllEq obs ∧ AllEq obf ∧
  ∀ h dr, Rep R h₀ h T m → M3 w B₀ Qr κ c t ⟨h, #[], dr, R.t₀ + i + 1, os⟩
variable {w KK os B₀ Qr G H₀ ins} (hh : B₀.handled = none) (hM : ins.length = G.M)
  (hQ : ∀ x h' dr' tk', After KK H₀ ins x G.n (G.outs x) (G.news x) h' → Qr (G.r x) ⟨h', #[], dr', tk' + 1, os⟩)
theorem okUser {κ : List Fra} {c' : Code} {o : Obj} {a : Nat} {args : Args} {ih : RunTy} {T : BT} {m i : Nat} {orc : List Nat} {pr : Pr} {obs : List (Nat × Nat)} {obf : List (FO × FO)}
    (hok : OkO G (userGo ih o a args c' κ T m i orc pr obs obf)) : ∃ fd, o.data = .func fd ∧ fd.scope.isGenerator = false ∧ fd.scope.isCoroutine = false ∧ userGo ih o a args c' κ T m i orc pr obs obf = ih (.mark :: κ) c' (userCall a fd args) T m i orc pr obs obf := by
  unfold userGo at hok ⊢
  cases hod : o.data with
  | func fd =>
    simp only [hod] at hok ⊢
    cases h1 : fd.scope.isGenerator with
    | true => simp only [h1] at hok; cases hok
    | false =>
      cases h2 : fd.scope.isCoroutine with
      | true => simp only [h1, h2] at hok; cases hok
      | false => exact ⟨fd, rfl, h1, h2, by simp only [h1, h2]⟩
  | _ => simp only [hod] at hok; cases hok
theorem goto_sound {R : RV} {ih : RunTy} (IH : Snd1 w KK os B₀ Qr G H₀ ins ih R) {κ : List Fra} {c' : Code} {T : BT} {m i : Nat} {orc : List Nat} {pr : Pr} {obs : List (Nat × Nat)} {obf : List (FO × FO)} {h₀ : Heap}
    (O : R.Ok w KK h₀) (Gl : Glob H₀ G.M (nth (ins.map (·.1))) R h₀) (hd : Lo B₀ R.d₀) (hy : pr.Hyp w KK os)
    (hok : OkO G (goto R ih c' κ T m i orc pr obs obf)) : AllEq obs ∧ AllEq obf ∧
      ∀ h dr, Rep R h₀ h T m → M3 w B₀ Qr κ c' (denote table c') ⟨h, #[], dr, R.t₀ + i + 1, os⟩ := by
  have gen : ∀ {orc}, OkO G (ih κ c' (D c') T m i orc pr obs obf) → AllEq obs ∧ AllEq obf ∧ (∀ h dr, Rep R h₀ h T m → M3 w B₀ Qr κ c' (denote table c') ⟨h, #[], dr, R.t₀ + i + 1, os⟩) := by
    intro orc hok
    obtain ⟨a1, a2, a3⟩ := IH κ c' (D c') T m i orc pr obs obf h₀ O Gl hd hy hok
    exact ⟨a1, a2, fun h dr hr => by rw [D_eq]; exact a3 h dr hr⟩
  unfold goto at hok
  split at hok
  · rename_i f args
    split at hok
    · rename_i a
      split at hok
      · cases hok
      · rename_i x orc
        cases hx : Nat.beq x 0 with
        | true =>
          simp only [hx] at hok
          exact gen hok
        | false =>
          simp only [hx] at hok
          have user : ∀ {o : Obj} {obs' : List (Nat × Nat)}, (∀ h, AllEq obs' → Rep R h₀ h T m → h.get? a = some o) → OkO G (userGo ih o a args (.call (.ref a) args) κ T m i orc pr obs' obf) → AllEq obs' ∧ AllEq obf ∧
              (∀ h dr, Rep R h₀ h T m → M3 w B₀ Qr κ (.call (.ref a) args) (denote table (.call (.ref a) args)) ⟨h, #[], dr, R.t₀ + i + 1, os⟩) := by
            intro o obs' hget hok
            obtain ⟨fd, e1, e2, e3, e4⟩ := okUser hok
            rw [e4] at hok
            obtain ⟨a1, a2, a3⟩ := IH _ _ _ T m i orc pr obs' obf h₀ O Gl hd hy hok
            refine ⟨a1, a2, fun h dr hr => ?_⟩
            have z := a3 h dr hr
            have ho := hget h a1 hr
            show wpOwn (MO w) (ar B₀ κ) _ (callAny (.ref a) args) _ _ _
            unfold callAny
            refine wpOwn_bind (m := PySem.load a) (wpOwn_of_wpAny (wpAny_load ho ?_))
            simp only [e1]
            rw [userCall_eq _ _ _ e2 e3]
            exact wpOwn_bind (m := userCall a fd args) z
          cases hx1 : Nat.beq x 1 with
          | true =>
            simp only [hx1] at hok
            split at hok
            · rename_i o e
              exact user (fun h _ hr => hr.known O e) hok
            · cases hok
          | false =>
            simp only [hx1] at hok
            split at hok
            · rename_i o e
              have q := user (o := o) (fun h hq hr => by have hq' : a = R.addr (x - 2) := hq.head; rw [hq']; exact (hr.get _ _ e).2) hok
              exact ⟨q.1.tail, q.2⟩
            · cases hok
    · exact gen hok
  · rename_i id args
    cases e : twoRefs args with
    | none => simp only [e] at hok; exact gen hok
    | some p =>
      simp only [e] at hok
      cases hl : isListInit id with
      | false => simp only [hl] at hok; exact gen hok
      | true =>
        simp only [hl] at hok
        match orc, hok with
        | [], hok => cases hok
        | [x], hok => cases hok
        | x :: y :: orc, hok =>
          cases hxy : Nat.beq x y with
          | true => simp only [hxy] at hok; cases hok
          | false =>
            simp only [hxy] at hok
            obtain ⟨a1, a2, a3⟩ := IH _ _ _ _ _ _ _ _ _ _ h₀ O Gl hd hy hok
            refine ⟨a1.tail.tail, a2, fun h dr hr => ?_⟩
            have z := a3 h dr hr
            have e1 : p.1 = R.addr x := a1.head
            have e2 : p.2 = R.addr y := a1.tail.head
            have hne : p.1 ≠ p.2 := fun q => Nat.ne_of_beq_eq_false hxy (addr_inj O (by rw [← e1, ← e2, q]))
            rw [isListInit_eq hl, twoRefs_eq e, initNe_eq hne]
            rw [isListInit_eq hl, twoRefs_eq e] at z
            exact z
  · exact gen hok
include hQ hM in
theorem done_sound {R : RV} {T : BT} {m i : Nat} {orc : List Nat} {pr : Pr} {obs : List (Nat × Nat)} {obf : List (FO × FO)} {h₀ : Heap} {r : PySem.Result}
    (O : R.Ok w KK h₀) (Gl : Glob H₀ G.M (nth (ins.map (·.1))) R h₀) (hok : OkO G (doneGo R r T m i orc pr obs obf)) : AllEq obs ∧ AllEq obf ∧
      ∀ h dr tk, Rep R h₀ h T m → Qr r ⟨h, #[], dr, tk + 1, os⟩ := by
  unfold doneGo at hok
  cases pr with
  | cons p n => cases hok
  | rw => cases hok
  | nil ns us zs vs =>
    refine ⟨hok.2.2.2.2.2.2.1, hok.2.2.2.2.2.2.2, fun h dr tk hr => ?_⟩
    have hok' : OkO G (.done r R T m i ns us zs vs obs obf) := hok
    have e : r = G.r (R.at ns us zs vs) := hok'.1
    rw [e]
    exact hQ _ _ _ _ (doneAfter O hr Gl hM hok')
include hQ hM in
theorem ret_sound {R : RV} {ih : RunTy} (IH : Snd1 w KK os B₀ Qr G H₀ ins ih R) {κ : List Fra} {r : PySem.Result} {c : Code} {t : Sem Fin} (ht : t = leafOf r) {T : BT} {m i : Nat} {orc : List Nat} {pr : Pr} {obs : List (Nat × Nat)} {obf : List (FO × FO)} {h₀ : Heap}
    (O : R.Ok w KK h₀) (Gl : Glob H₀ G.M (nth (ins.map (·.1))) R h₀) (hd : Lo B₀ R.d₀) (hy : pr.Hyp w KK os)
    (hok : OkO G (retGo R ih r κ T m i orc pr obs obf)) : AllEq obs ∧ AllEq obf ∧
      ∀ h dr, Rep R h₀ h T m → M3 w B₀ Qr κ c t ⟨h, #[], dr, R.t₀ + i + 1, os⟩ := by
  cases κ with
  | nil =>
    obtain ⟨a1, a2, a3⟩ := done_sound (orc := orc) hM hQ O Gl hok
    refine ⟨a1, a2, fun h dr hr => ?_⟩
    have z := a3 h dr (R.t₀ + i) hr
    cases r with
    | ok f => subst ht; exact y_pure _ _ _ _ _ _ _ _ _ z
    | error e => subst ht; exact y_raise _ _ _ _ _ _ _ _ _ z
  | cons f κ =>
    cases f with
    | mark => cases hok
    | ret c₁ k =>
      obtain ⟨a1, a2, a3⟩ := IH κ c₁ (k r) T m i orc pr obs obf h₀ O Gl hd hy hok
      refine ⟨a1, a2, fun h dr hr => ?_⟩
      have z := a3 h dr hr
      cases r with
      | ok f => subst ht; exact y_pure _ _ _ _ _ _ _ _ _ z
      | error e => subst ht; exact y_raise _ _ _ _ _ _ _ _ _ z
/-- a promised call: what comes behind it holds, so the call does -/
theorem prom_sound {R : RV} {cont : RV → PySem.Result → Rest} {okd : Prom → Bool} {c' : Code} {T : BT} {m i : Nat} {orc : List Nat} {pr : Pr} {obs : List (Nat × Nat)} {obf : List (FO × FO)} {h₀ : Heap} {B : Around} {Q : PySem.Result → Shared → Prop}
    (O : R.Ok w KK h₀) (Gl : Glob H₀ G.M (nth (ins.map (·.1))) R h₀) (hd : Lo B₀ R.d₀) (hy : pr.Hyp w KK os)
    (hok : OkO G (promGo R cont okd c' T m i orc pr obs obf)) (hB : ∀ p, okd p = true → Lo B p.d) (hBh : B.handled = none)
    (hc : ∀ (R' : RV) r T' orc' pr' h', R'.Ok w KK h' → Glob H₀ G.M (nth (ins.map (·.1))) R' h' → Lo B₀ R'.d₀ → pr'.Hyp w KK os → OkO G (cont R' r T' 0 0 orc' pr' [] []) → ∀ h dr, Rep R' h' h T' 0 → Q r ⟨h, #[], dr, R'.t₀ + 0 + 1, os⟩) :
    AllEq obs ∧ AllEq obf ∧ ∀ h dr tk, Rep R h₀ h T m → codeAny (MO w) B c' Q ⟨h, #[], dr, tk + 1, os⟩ := by
  unfold promGo at hok
  cases pr with
  | nil ns us zs vs => cases hok
  | rw => cases hok
  | cons p next =>
    simp only at hok
    cases h1 : okd p with
    | false => rw [h1] at hok; cases hok
    | true =>
      cases h2 : nodupB p.sel with
      | false => rw [h1, h2] at hok; cases hok
      | true =>
        rw [h1, h2] at hok
        obtain ⟨e1, e2, e3, e4, e5⟩ := hok
        refine ⟨e3, e4, fun h dr tk hr => ?_⟩
        obtain ⟨y1, y2⟩ := hy
        rw [e1]
        refine y1 B Q h dr tk (hB p h1) hBh (promAt O hr e2 h2) fun x h' dr' tk' hA => ?_
        have q := e5 h'.objs.size tk' x
        simp only at q
        split at q
        · cases q
        · rename_i T₁ hu
          split at q
          · cases q
          · rename_i T₂ hi
            split at q
            · cases q
            · exact hc _ _ _ _ _ h' (promOk O hr hA) (promGlob O hr hA e2 Gl) hd (y2 _ _ _) q h' dr' (promRep O hr hA e2 hu hi)

include hh hM hQ in
theorem step_sound {R : RV} {ih : RunTy} {jh : RV → RunTy} (IH : Snd1 w KK os B₀ Qr G H₀ ins ih R) (JH : ∀ R, Snd1 w KK os B₀ Qr G H₀ ins (jh R) R) : Snd1 w KK os B₀ Qr G H₀ ins (step R ih jh) R := by
  intro κ c t T m i orc pr obs obf h₀ O Gl hd hy hok
  have skim1 : ∀ {t t' : Sem Fin}, (∀ s, M3 w B₀ Qr κ c t' s → M3 w B₀ Qr κ c t s) → OkO G (ih κ c t' T m i orc pr obs obf) → AllEq obs ∧ AllEq obf ∧
      (∀ h dr, Rep R h₀ h T m → M3 w B₀ Qr κ c t ⟨h, #[], dr, R.t₀ + i + 1, os⟩) := by
    intro t t' hs hok
    obtain ⟨a1, a2, a3⟩ := IH _ _ _ _ _ _ _ _ _ _ h₀ O Gl hd hy hok
    exact ⟨a1, a2, fun h dr hr => hs _ (a3 h dr hr)⟩
  cases t with
  | pure fin =>
    cases κ with
    | nil =>
      cases fin with
      | done f =>
        obtain ⟨a1, a2, a3⟩ := done_sound (orc := orc) hM hQ O Gl (r := .ok f) hok
        exact ⟨a1, a2, fun h dr hr => y_pure _ _ _ _ _ _ _ _ _ (a3 h dr _ hr)⟩
      | again c' =>
        unfold step at hok; (try dsimp only at hok)
        cases hs : R.stop c' with
        | true =>
          cases hq : c'.quiet with
          | false => simp only [hs, hq] at hok; cases hok
          | true =>
            simp only [hs, hq] at hok
            obtain ⟨a1, a2, a3⟩ := prom_sound (B := B₀) (Q := Qr) O Gl hd hy hok (fun p hp => ⟨Nat.le_trans hd.1 (Nat.le_of_ble_eq_true hp), by have := hd.2; have := Nat.le_of_ble_eq_true hp; omega⟩) hh (fun R' r T' orc' pr' h' O' Gl' hd' hy' hok' h dr hr => (done_sound (orc := orc') hM hQ O' Gl' hok').2.2 h dr _ hr)
            exact ⟨a1, a2, fun h dr hr => y_pure _ _ _ _ _ _ _ _ _ (y_again _ _ _ _ _ _ hq (a3 h dr _ hr))⟩
        | false =>
          cases hq : c'.quiet with
          | false => simp only [hs, hq] at hok; cases hok
          | true =>
            simp only [hs, hq] at hok
            obtain ⟨a1, a2, a3⟩ := goto_sound IH O Gl hd hy hok
            exact ⟨a1, a2, fun h dr hr => y_pure _ _ _ _ _ _ _ _ _ (y_again _ _ _ _ _ _ hq (y_code _ _ _ _ _ _ (a3 h dr hr)))⟩
    | cons f κ =>
      cases f with
      | mark =>
        unfold step at hok; (try dsimp only at hok)
        cases hdp : depthOK R 6 κ c with
        | false => simp only [hdp] at hok; cases hok
        | true =>
          simp only [hdp] at hok
          obtain ⟨a1, a2, a3⟩ := IH _ _ _ _ _ _ _ _ _ _ h₀ O Gl hd hy hok
          refine ⟨a1, a2, fun h dr hr => ?_⟩
          have z := a3 h dr hr
          refine y_pure _ _ _ _ _ _ _ _ _ ?_
          refine wpOwn_bind (m := enterFrame) (wpOwn_of_wpAny (wpAny_enterFrame (hr.nolim O) ?_ z))
          have h1 := depth_sum (B₀ := B₀) hd hdp
          have h2 := depth_weight (depth_caller' hdp)
          show (ar B₀ κ).depth + c.weight < 1000
          omega
      | ret c₁ k =>
        cases fin with
        | done f => exact ret_sound hM hQ IH (r := .ok f) (κ := .ret c₁ k :: κ) (t := .pure (.done f)) rfl O Gl hd hy hok
        | again c' =>
          unfold step at hok; (try dsimp only at hok)
          cases hq : c'.quiet with
          | false => simp only [hq] at hok; cases hok
          | true =>
            cases hs : R.stop c' with
            | false =>
              simp only [hq, hs] at hok
              obtain ⟨a1, a2, a3⟩ := goto_sound IH O Gl hd hy hok
              refine ⟨a1, a2, fun h dr hr => ?_⟩
              have z := a3 h dr hr
              exact y_pure _ _ _ _ _ _ _ _ _ (y_again _ _ _ _ _ _ hq (y_code _ _ _ _ _ _ z))
            | true =>
              simp only [hq, hs] at hok
              have hB : ∀ p : Prom, depthOK R (1004 - p.d) κ c₁ = true → Lo (((ar B₀ κ).under c₁).mark none) p.d := fun p hp => lo_ret hd hp
              obtain ⟨a1, a2, a3⟩ := prom_sound (B := ((ar B₀ κ).under c₁).mark none) (Q := fun r s' => M3 w B₀ Qr κ c₁ (k r) s') O Gl hd hy hok hB (ar_handled hh (.ret c₁ k :: κ)) (fun R' r T' orc' pr' h' O' Gl' hd' hy' hok' h dr hr => (JH R' _ _ _ _ _ _ _ _ _ _ h' O' Gl' hd' hy' hok').2.2 h dr hr)
              refine ⟨a1, a2, fun h dr hr => ?_⟩
              exact y_pure _ _ _ _ _ _ _ _ _ (y_again _ _ _ _ _ _ hq (a3 h dr _ hr))
  | raise e => exact ret_sound hM hQ IH (r := .error e) (t := .raise e) rfl O Gl hd hy hok
  | rule tag k => exact skim1 (fun s z => y_skim _ _ _ _ _ _ _ _ _ 1 z) hok
  | «at» q k => exact skim1 (fun s z => y_skim _ _ _ _ _ _ _ _ _ 1 z) hok
  | point l k => exact skim1 (fun s z => y_skim _ _ _ _ _ _ _ _ _ 1 z) hok
  | ask k =>
    unfold step at hok; (try dsimp only at hok)
    obtain ⟨a1, a2, a3⟩ := IH _ _ _ _ _ _ _ _ _ _ h₀ O Gl hd hy hok
    refine ⟨a1, a2.tail, fun h dr hr => y_skim _ _ _ _ _ _ _ _ _ 1 ?_⟩
    have z := a3 h dr hr
    have hq : (fun (_ : Pos) (_ : List (Code × Pos)) => k R.S2) = fun _ _ => k R.S := a2.head
    have hq' : k R.S2 = k R.S := congrFun (congrFun hq default) []
    show wpOwn (MO w) (ar B₀ κ) c (k ⟨PySem.Challenge.pw_sh0045_01, w.params⟩) _ _ _
    rcases O.set with e | e
    · rw [e]; exact z
    · rw [e, hq']; exact z
  | load a q k =>
    cases orc with
    | nil => cases hok
    | cons x orc =>
      unfold step at hok; (try dsimp only at hok)
      cases hx : Nat.beq x 0 with
      | true =>
        simp only [hx] at hok
        cases e : R.K a with
        | none => simp only [e] at hok; cases hok
        | some o =>
          simp only [e] at hok
          obtain ⟨a1, a2, a3⟩ := IH _ _ _ _ _ _ _ _ _ _ h₀ O Gl hd hy hok
          exact ⟨a1, a2, fun h dr hr => y_load _ _ _ _ _ _ _ _ _ _ _ _ _ _ _ _ (hr.known O e) (a3 h dr hr)⟩
      | false =>
        simp only [hx] at hok
        cases e : T.get (x - 1) with
        | none => simp only [e] at hok; cases hok
        | some o =>
          simp only [e] at hok
          obtain ⟨a1, a2, a3⟩ := IH _ _ _ _ _ _ _ _ _ _ h₀ O Gl hd hy hok
          refine ⟨a1.tail, a2, fun h dr hr => y_load _ _ _ _ _ _ _ _ _ _ _ _ _ _ _ _ ?_ (a3 h dr hr)⟩
          have hq : a = R.addr (x - 1) := a1.head
          rw [hq]; exact (hr.get _ _ e).2
  | loadIfAlive a k =>
    cases orc with
    | nil => cases hok
    | cons x orc =>
      unfold step at hok; (try dsimp only at hok)
      cases hx : Nat.beq x 0 with
      | true =>
        simp only [hx] at hok
        cases e : R.K a with
        | none => simp only [e] at hok; cases hok
        | some o =>
          simp only [e] at hok
          obtain ⟨a1, a2, a3⟩ := IH _ _ _ _ _ _ _ _ _ _ h₀ O Gl hd hy hok
          exact ⟨a1, a2, fun h dr hr => y_alive _ _ _ _ _ _ _ _ _ _ _ _ _ _ _ (hr.known O e) (a3 h dr hr)⟩
      | false =>
        simp only [hx] at hok
        cases e : T.get (x - 1) with
        | none => simp only [e] at hok; cases hok
        | some o =>
          simp only [e] at hok
          obtain ⟨a1, a2, a3⟩ := IH _ _ _ _ _ _ _ _ _ _ h₀ O Gl hd hy hok
          refine ⟨a1.tail, a2, fun h dr hr => y_alive _ _ _ _ _ _ _ _ _ _ _ _ _ _ _ ?_ (a3 h dr hr)⟩
          have hq : a = R.addr (x - 1) := a1.head
          rw [hq]; exact (hr.get _ _ e).2
  | alloc o k =>
    unfold step at hok; (try dsimp only at hok)
    cases hf : o.isFreed with
    | true => simp only [hf] at hok; cases hok
    | false =>
      simp only [hf] at hok
      cases e : (T.ins (R.m₀ + m) o).get (R.m₀ + m) with
      | none => simp only [e] at hok; cases hok
      | some o' =>
        simp only [e, natStep_eq] at hok
        obtain ⟨a1, a2, a3⟩ := IH _ _ _ _ _ _ _ _ _ _ h₀ O Gl hd hy hok
        refine ⟨a1, a2, fun h dr hr => ?_⟩
        have z := a3 (h.push o) dr (hr.alloc O hf (by rw [e]; rfl))
        refine wpOwn_bind (m := PySem.alloc o) (f := k) (wpOwn_of_wpAny (wpAny_alloc ?_))
        rw [hr.size]; exact z
  | update a q f k =>
    cases orc with
    | nil => cases hok
    | cons x orc =>
      unfold step at hok; (try dsimp only at hok)
      cases hx : Nat.beq x 0 with
      | true => simp only [hx] at hok; cases hok
      | false =>
        simp only [hx] at hok
        cases hx2 : Nat.ble 1000000 x with
        | false =>
          simp only [hx2] at hok
          cases e : T.get (x - 1) with
          | none => simp only [e] at hok; cases hok
          | some o =>
            simp only [e] at hok
            cases hf : (f o).isFreed with
            | true => simp only [hf] at hok; cases hok
            | false =>
              simp only [hf] at hok
              obtain ⟨a1, a2, a3⟩ := IH _ _ _ _ _ _ _ _ _ _ h₀ O Gl hd hy hok
              refine ⟨a1.tail, a2, fun h dr hr => ?_⟩
              have hq : a = R.addr (x - 1) := a1.head
              subst hq
              have z := a3 (h.update (R.addr (x - 1)) f) dr (hr.update O e hf)
              exact wpOwn_bind (m := updatePart (R.addr (x - 1)) q f) (f := k) (wpOwn_of_wpAny (wpAny_updatePart (hr.get _ _ e).2 z))
        | true =>
          simp only [hx2] at hok
          generalize x - 1000001 = x' at hok
          cases e : T.get x' with
          | none => simp only [e] at hok; cases hok
          | some o =>
            simp only [e] at hok
            cases hf : (f o).isFreed with
            | true => simp only [hf] at hok; cases hok
            | false =>
              simp only [hf] at hok
              cases pr with
              | nil => cases hok
              | cons => cases hok
              | rw j' n' o₁ o₂ next =>
                obtain ⟨b1, b2⟩ := hok
                obtain ⟨y1, y2⟩ := hy
                obtain ⟨a1, a2, a3⟩ := IH _ _ _ _ _ _ _ _ _ _ h₀ O Gl hd y2 b2
                refine ⟨a1.tail, a2, fun h dr hr => ?_⟩
                have hq : a = R.addr x' := a1.head
                subst hq
                have hr' := hr.update O e hf
                have hr2 : Rep R h₀ (h.update (R.addr x') f) (T.set x' fun _ => o₂) m := by
                  refine ⟨hr'.size, fun k' o' e' => ?_, hr'.keep⟩
                  rw [BT.get_set] at e'
                  by_cases hk : k' = x'
                  · subst hk
                    rw [if_pos rfl, e] at e'
                    cases e'
                    exact hr'.get _ _ (by rw [b1, y1])
                  · rw [if_neg hk] at e'
                    exact hr'.get _ _ (by rw [BT.get_set, if_neg hk]; exact e')
                have z := a3 (h.update (R.addr x') f) dr hr2
                exact wpOwn_bind (m := updatePart (R.addr x') q f) (f := k) (wpOwn_of_wpAny (wpAny_updatePart (hr.get _ _ e).2 z))
  | fresh k =>
    unfold step at hok; (try dsimp only at hok); simp only [natStep_eq] at hok
    obtain ⟨a1, a2, a3⟩ := IH _ _ _ _ _ _ _ _ _ _ h₀ O Gl hd hy hok
    exact ⟨a1, a2, fun h dr hr => y_fresh _ _ _ _ _ _ _ _ _ _ _ _ _ (a3 h dr hr)⟩
  | handled own k =>
    cases own with
    | true => cases hok
    | false =>
      unfold step at hok; (try dsimp only at hok)
      obtain ⟨a1, a2, a3⟩ := IH _ _ _ _ _ _ _ _ _ _ h₀ O Gl hd hy hok
      refine ⟨a1, a2, fun h dr hr => y_handled _ _ _ _ _ _ _ _ _ ?_⟩
      rw [ar_handled hh κ]; exact a3 h dr hr
  | stack k =>
    unfold step at hok; (try dsimp only at hok)
    obtain ⟨a1, a2, a3⟩ := IH _ _ _ _ _ _ _ _ _ _ h₀ O Gl hd hy hok
    refine ⟨a1, a2.tail, fun h dr hr => y_stack _ _ _ _ _ _ _ _ _ fun p below _ => ?_⟩
    have hq : (fun p l => k ((c, p) :: l)) = fun _ _ => k [(c, default)] := a2.head
    have hq' : k ((c, p) :: below) = k [(c, default)] := congrFun (congrFun hq p) below
    rw [hq']; exact a3 h dr hr
  | call c' hd' g l k =>
    cases hd' with
    | some v => cases hok
    | none =>
      unfold step at hok; (try dsimp only at hok)
      cases hs : R.stop c' with
      | true =>
        simp only [hs] at hok
        have hB : ∀ p : Prom, depthOK R (1004 - p.d) κ c = true → Lo (((ar B₀ κ).under c).mark none) p.d := fun p hp => lo_ret hd hp
        obtain ⟨a1, a2, a3⟩ := prom_sound (B := ((ar B₀ κ).under c).mark none) (Q := fun r s' => M3 w B₀ Qr κ c (k r) s') O Gl hd hy hok hB (ar_handled hh (.ret c k :: κ)) (fun R' r T' orc' pr' h' O' Gl' hd' hy' hok' h dr hr => (JH R' _ _ _ _ _ _ _ _ _ _ h' O' Gl' hd' hy' hok').2.2 h dr hr)
        refine ⟨a1, a2, fun h dr hr => ?_⟩
        exact y_call _ _ _ _ _ _ _ _ _ _ _ _ _ (by intro e; cases e) (a3 h dr _ hr)
      | false =>
        simp only [hs] at hok
        obtain ⟨a1, a2, a3⟩ := goto_sound IH O Gl hd hy hok
        refine ⟨a1, a2, fun h dr hr => ?_⟩
        have z := a3 h dr hr
        exact y_call _ _ _ _ _ _ _ _ _ _ _ _ _ (by intro e; cases e) (y_code _ _ _ _ _ _ z)
  | unsupported => cases hok
  | finish => cases hok
  | register => cases hok
  | choose src n k =>
    unfold step at hok; (try dsimp only at hok)
    cases hn : Nat.beq n 1 with
    | false => simp only [hn] at hok; cases hok
    | true =>
      simp only [hn] at hok
      have hn' := Nat.eq_of_beq_eq_true hn
      subst hn'
      obtain ⟨a1, a2, a3⟩ := IH _ _ _ _ _ _ _ _ _ _ h₀ O Gl hd hy hok
      refine ⟨a1, a2, fun h dr hr => ?_⟩
      have z := a3 h (dr.bump src) hr
      intro Γ p hc hΓ
      refine ⟨by decide, ?_⟩
      rw [Nat.mod_one]
      exact z Γ p hc hΓ
  | os => cases hok
  | newGen => cases hok
  | genState => cases hok
  | resume => cases hok
  | yield => cases hok
  | fork => cases hok
  | thread => cases hok
  | await => cases hok
include hh hM hQ in
theorem run_sound : ∀ n R, Snd1 w KK os B₀ Qr G H₀ ins (run n R) R
  | 0, R => fun _ _ _ _ _ _ _ _ _ _ _ _ _ _ _ hok => by cases hok
  | n + 1, R => step_sound hh hM hQ (run_sound n R) (fun R => run_sound n R)
end
noncomputable def rowEq (s : String) : Bool := Nat.beq (PySem.code s) (PySem.code "special-get-raises")
noncomputable def rowEq2 (s : String) : Bool := Nat.beq (PySem.code s) (PySem.code "comprehension-iter-twice")
noncomputable def rowEq3 (s : String) : Bool := Nat.beq (PySem.code s) (PySem.code "set-order")
noncomputable def Pb (w : World) (b b2 b3 : Bool) : Params := { w.params with followText := fun s => bif rowEq s then b else bif rowEq2 s then b2 else bif rowEq3 s then b3 else w.params.followText s }
theorem rowEq_eq {s t : String} (h : Nat.beq (PySem.code s) (PySem.code t) = true) : s = t := PySem.code_inj _ _ (Nat.eq_of_beq_eq_true h)
theorem Pb_eq (w : World) : w.params = Pb w (w.params.followText "special-get-raises") (w.params.followText "comprehension-iter-twice") (w.params.followText "set-order") := by
  unfold Pb
  have : (fun s => bif rowEq s then w.params.followText "special-get-raises" else bif rowEq2 s then w.params.followText "comprehension-iter-twice" else bif rowEq3 s then w.params.followText "set-order" else w.params.followText s) = w.params.followText := by
    funext s
    cases h1 : rowEq s with
    | true => rw [rowEq_eq h1]; rfl
    | false =>
      cases h2 : rowEq2 s with
      | true => rw [rowEq_eq h2]; rfl
      | false =>
        cases h3 : rowEq3 s with
        | true => rw [rowEq_eq h3]; rfl
        | false => rfl
  rw [this]
noncomputable def RI (w : World) (KK : Nat → Option Obj) (b2 b3 : Bool) (ins : List (Nat × Obj)) (stop : Code → Bool) (d b t : Nat) : RV :=
  { S := ⟨PySem.Challenge.pw_sh0045_01, Pb w false b2 b3⟩, S2 := ⟨PySem.Challenge.pw_sh0045_01, Pb w true b2 b3⟩, K := KK, ad := nth (ins.map (·.1)), m₀ := ins.length, b := b, t₀ := t, d₀ := d, stop := stop }
noncomputable def start (R : RV) (fuel : Nat) (ins : List (Nat × Obj)) (c : Code) (orc : List Nat) (pr : Pr) : Out := match insL (ins.map (·.2)) 0 .nil with
  | some T => gotoF R (runF fuel R) c [] T 0 0 orc pr [] []
  | none => .stuck 50 c
noncomputable def startT (R : RV) (fuel : Nat) (ins : List (Nat × Obj)) (c : Code) (t : Sem Fin) (orc : List Nat) (pr : Pr) : Out := match insL (ins.map (·.2)) 0 .nil with
  | some T => runF fuel R [] c t T 0 0 orc pr [] []
  | none => .stuck 50 c
section
variable {w : World} {KK : Nat → Option Obj} {os : OsState} {d : Nat} {c : Code} {ins : List (Nat × Obj)} {n : Nat} {r : X → PySem.Result} {outs news : X → List Obj}
  {b2 b3 : Bool} {stop : Code → Bool}
theorem RI_addr {b t : Nat} {j : Nat} (hj : j < ins.length) : (RI w KK b2 b3 ins stop d b t).addr j = nth (ins.map (·.1)) j := by
  unfold RV.addr
  have h1 : Nat.blt j (RI w KK b2 b3 ins stop d b t).m₀ = true := Nat.ble_eq_true_of_le hj
  rw [h1]; rfl
theorem nth_ins {j : Nat} (hj : j < ins.length) : nth (ins.map (·.1)) j = (ins[j]).1 := by
  have q := nth_get (l := ins.map (·.1)) (j := j) (by simpa using hj)
  rw [List.getElem?_map, List.getElem?_eq_getElem hj] at q
  simpa using q.symm
theorem RI_ok (kok : KOk KK) (hb2 : w.params.followText "comprehension-iter-twice" = b2) (hb3 : w.params.followText "set-order" = b3) {h : Heap} (hA : At KK h ins) (t : Nat) :
    (RI w KK b2 b3 ins stop d h.objs.size t).Ok w KK h where
  kok := kok
  kk := rfl
  set := by
    subst hb2 hb3
    cases h1 : w.params.followText "special-get-raises" with
    | false => exact .inl (congrArg (Setting.mk PySem.Challenge.pw_sh0045_01) (by have := Pb_eq w; rw [h1] at this; exact this))
    | true => exact .inr (congrArg (Setting.mk PySem.Challenge.pw_sh0045_01) (by have := Pb_eq w; rw [h1] at this; exact this))
  old := by
    intro j hj
    rw [RI_addr hj, nth_ins hj]
    exact Heap.lt_size (hA.get j _ (List.getElem?_eq_getElem hj))
  inj := by
    intro j k hj hk e
    rw [RI_addr hj, RI_addr hk] at e
    exact hA.inj j k hj hk e
  good := hA.good
  nk := by
    intro a o ha j hj
    rw [RI_addr hj, nth_ins hj]
    exact hA.nk a o ha _ (List.getElem_mem _)
  size := rfl
theorem RI_rep {h : Heap} (hA : At KK h ins) {t : Nat} {T : BT} (hT : insL (ins.map (·.2)) 0 .nil = some T) : Rep (RI w KK b2 b3 ins stop d h.objs.size t) h h T 0 where
  size := rfl
  keep := fun _ _ _ => rfl
  get := by
    intro j o e
    rcases insL_get hT e with ⟨i, h1, h2⟩ | e
    · have hi : i < ins.length := by
        obtain ⟨q, _⟩ := List.getElem?_eq_some_iff.mp h2
        simpa using q
      have : j = i := by omega
      subst this
      refine ⟨hi, ?_⟩
      rw [RI_addr hi, nth_ins hi]
      have q := hA.get j _ (List.getElem?_eq_getElem hi)
      rw [List.getElem?_map, List.getElem?_eq_getElem hi] at h2
      simp only [Option.map_some, Option.some.injEq] at h2
      rw [← h2]; exact q
    · cases e
theorem RI_glob {h : Heap} {t : Nat} : Glob h ins.length (nth (ins.map (·.1))) (RI w KK b2 b3 ins stop d h.objs.size t) h where
  low := Nat.le_refl _
  m := Nat.le_refl _
  ad := fun j hj => RI_addr hj
  new := by intro j h1 h2; exact absurd h2 (Nat.not_lt.mpr h1)
  frame := fun _ _ _ => rfl
theorem CSpec.of_run (kok : KOk KK) (hb2 : w.params.followText "comprehension-iter-twice" = b2) (hb3 : w.params.followText "set-order" = b3) (fuel : Nat) (orc : List Nat) (pr : Nat → Nat → Pr)
    (he : ∀ b t, lhs ⟨ins.length, n, r, outs, news⟩ (start (RI w KK b2 b3 ins stop d b t) fuel ins c orc (pr b t)) = rhs ⟨ins.length, n, r, outs, news⟩ (start (RI w KK b2 b3 ins stop d b t) fuel ins c orc (pr b t)))
    (hp : ∀ b t, (pr b t).Hyp w KK os) : CSpec w KK os d c ins n r outs news := by
  intro B Q h dr tk hd hh hA hQ
  have hok := OkO.of (he h.objs.size tk)
  unfold start at hok
  rw [runF_eq] at hok
  split at hok
  · rename_i T hT
    rw [gotoF_eq] at hok
    have z := (goto_sound (run_sound (G := ⟨ins.length, n, r, outs, news⟩) (ins := ins) hh rfl hQ fuel _) (RI_ok kok hb2 hb3 hA tk) RI_glob hd (hp _ _) hok).2.2 h dr (RI_rep hA hT)
    exact y_code _ _ _ _ _ _ z
  · cases hok
theorem TSpec.of_run {t₁ : Sem Fin} (kok : KOk KK) (hb2 : w.params.followText "comprehension-iter-twice" = b2) (hb3 : w.params.followText "set-order" = b3) (fuel : Nat) (orc : List Nat) (pr : Nat → Nat → Pr)
    (he : ∀ b t, lhs ⟨ins.length, n, r, outs, news⟩ (startT (RI w KK b2 b3 ins stop d b t) fuel ins c t₁ orc (pr b t)) = rhs ⟨ins.length, n, r, outs, news⟩ (startT (RI w KK b2 b3 ins stop d b t) fuel ins c t₁ orc (pr b t)))
    (hp : ∀ b t, (pr b t).Hyp w KK os) : TSpec w KK os d c t₁ ins n r outs news := by
  intro B Q h dr tk hd hh hA hQ
  have hok := OkO.of (he h.objs.size tk)
  unfold startT at hok
  rw [runF_eq] at hok
  split at hok
  · rename_i T hT
    exact (run_sound (G := ⟨ins.length, n, r, outs, news⟩) (ins := ins) hh rfl hQ fuel _ _ _ _ _ _ _ _ _ _ _ h (RI_ok kok hb2 hb3 hA tk) RI_glob hd (hp _ _) hok).2.2 h dr (RI_rep hA hT)
  · cases hok
end
noncomputable def PrH (w : World) (KK : Nat → Option Obj) (os : OsState) := {p : Pr // p.Hyp w KK os}
section
variable {w : World} {KK : Nat → Option Obj} {os : OsState} {d : Nat} {c : Code} {ins : List (Nat × Obj)} {n : Nat} {r : X → PySem.Result} {outs news : X → List Obj}
  {b2 b3 : Bool}
noncomputable def fin (ns us : List Nat) : PrH w KK os := ⟨.nil ns (nth us) (fun _ => default) fun _ => .none, trivial⟩
noncomputable def finz (ns : List Nat) (us : Nat → Nat) (zs : Nat → Obj) (vs : Nat → Value) : PrH w KK os := ⟨.nil ns us zs vs, trivial⟩
noncomputable def via (C : CSpec w KK os d c ins n r outs news) (sel : List Nat) (next : Nat → Nat → X → PrH w KK os) : PrH w KK os :=
  ⟨.cons ⟨d, sel, c, ins, n, r, outs, news⟩ fun b t x => (next b t x).1, ⟨C, fun b t x => (next b t x).2⟩⟩
noncomputable def rwv (j n : Nat) (o₁ o₂ : Obj) (h : o₁ = o₂) (next : PrH w KK os) : PrH w KK os := ⟨.rw j n o₁ o₂ next.1, ⟨h, next.2⟩⟩
theorem CSpec.by (kok : KOk KK) (hb2 : w.params.followText "comprehension-iter-twice" = b2) (hb3 : w.params.followText "set-order" = b3) (stop : Code → Bool) (fuel : Nat) (orc : List Nat) (pr : Nat → Nat → PrH w KK os)
    (he : ∀ b t, lhs ⟨ins.length, n, r, outs, news⟩ (start (RI w KK b2 b3 ins stop d b t) fuel ins c orc (pr b t).1) = rhs ⟨ins.length, n, r, outs, news⟩ (start (RI w KK b2 b3 ins stop d b t) fuel ins c orc (pr b t).1)) :
    CSpec w KK os d c ins n r outs news := CSpec.of_run kok hb2 hb3 fuel orc (fun b t => (pr b t).1) he (fun b t => (pr b t).2)
theorem TSpec.by {t₁ : Sem Fin} (kok : KOk KK) (hb2 : w.params.followText "comprehension-iter-twice" = b2) (hb3 : w.params.followText "set-order" = b3) (stop : Code → Bool) (fuel : Nat) (orc : List Nat) (pr : Nat → Nat → PrH w KK os)
    (he : ∀ b t, lhs ⟨ins.length, n, r, outs, news⟩ (startT (RI w KK b2 b3 ins stop d b t) fuel ins c t₁ orc (pr b t).1) = rhs ⟨ins.length, n, r, outs, news⟩ (startT (RI w KK b2 b3 ins stop d b t) fuel ins c t₁ orc (pr b t).1)) :
    TSpec w KK os d c t₁ ins n r outs news := TSpec.of_run kok hb2 hb3 fuel orc (fun b t => (pr b t).1) he (fun b t => (pr b t).2)
end
end Mine
end
section
open PySem PySem.Spec PySem.Calls PyProof.Rows PySem.W PySem.W.X
set_option maxRecDepth 100000
namespace Mine
noncomputable def KKw (w : World) : Nat → Option Obj := fun a => match memB a [24, 38, 108] with
  | true => none
  | false => KT.get (hd.ktop_362 w.params) a
theorem KKw_2 (w : World) : KKw w cStatics = some ⟨.none, none, .dict #[], #[]⟩ := by kernel_rfl
theorem kok (w : World) : KOk (KKw w) where
  nolim := fun h hg => ⟨fun n => nsFind #[] n, ⟨_, _, _, hg _ _ (KKw_2 w), rfl, by intro e he; simp at he, fun _ => rfl⟩, rfl⟩
  stat := ⟨_, KKw_2 w⟩
noncomputable abbrev CS (w : World) (os : OsState) (d : Nat) (c : Code) (ins : List (Nat × Obj)) (n : Nat) (r : X → PySem.Result) (outs news : X → List Obj) : Prop := CSpec w (KKw w) os d c ins n r outs news
noncomputable abbrev TS (w : World) (os : OsState) (d : Nat) (c : Code) (t : Sem Fin) (ins : List (Nat × Obj)) (n : Nat) (r : X → PySem.Result) (outs news : X → List Obj) : Prop := TSpec w (KKw w) os d c t ins n r outs news
noncomputable abbrev Ph (w : World) (os : OsState) := PrH w (KKw w) os
noncomputable def noStop : Code → Bool := fun _ => false
noncomputable def isFor : Code → Bool
  | .forLoop .. => true
  | .whileLoop .. => true
  | .compLoop .. => true
  | _ => false
noncomputable def isCallTo (l : List Nat) : Code → Bool
  | .call (.ref a) _ => memB a l
  | _ => false
noncomputable def isB (l : List String) : Code → Bool
  | .builtin id _ => l.any fun s => Nat.beq (PySem.code id) (PySem.code s)
  | _ => false
noncomputable def orS (f g : Code → Bool) : Code → Bool := fun c => f c || g c
/-- small words for values and objects -/
noncomputable abbrev sv (s : List Nat) (t : Nat) : Value := .str ⟨s.toArray⟩ t
noncomputable abbrev rOk (v : Value) : PySem.Result := .ok (.ret v)
noncomputable abbrev lst (vs : List Value) (n : Nat) : Obj := ⟨.type "list", none, .seq vs.toArray n, #[]⟩
end Mine
end
section
open PySem PySem.Spec PySem.Calls PyProof.Rows PySem.W PySem.W.X
set_option maxRecDepth 1000000
namespace Mine
noncomputable def wordL : List (List Nat) := [[97,98,99],[65,98,99],[97,66,99],[65,66,99],[97,98,67],[65,98,67],[97,66,67],[65,66,67]]
noncomputable def viewL : List (Nat × List Nat) := [(0,[46,46,46,98,99]),(0,[46,46,46,66,99]),(0,[46,46,46,98,67]),(0,[46,46,46,66,67]),
  (1,[97,46,46,46,99]),(1,[65,46,46,46,99]),(1,[97,46,46,46,67]),(1,[65,46,46,46,67]),
  (2,[97,98,46,46,46]),(2,[65,98,46,46,46]),(2,[97,66,46,46,46]),(2,[65,66,46,46,46])]
noncomputable def mapI {α β : Type} (f : Nat → α → β) : Nat → List α → List β
  | _, [] => []
  | i, a :: l => f i a :: mapI f (i + 1) l
noncomputable abbrev wordsO (τ : Nat → Nat) : Obj := lst (mapI (fun i s => sv s (τ i)) 0 wordL) 8
noncomputable abbrev tupO (vs : List Value) : Obj := ⟨.type "tuple", none, .seq vs.toArray 0, #[]⟩
noncomputable abbrev SubC (w : World) (os : OsState) (x y r : Nat) : Prop := ∀ u v, CS w os 800 (.call (.ref 99) ⟨[sv [x] u, sv [y] v], []⟩) [] 0 (fun x => rOk (.int r (x.a 0))) (fun _ => []) (fun _ => [])
noncomputable abbrev LevC (w : World) (os : OsState) (s t : List Nat) (r : Int) : Prop := ∀ u v z, CS w os 700 (.call (.ref 106) ⟨[sv s u, sv t v, .int 1 z], []⟩) [] 0 (fun x => rOk (.int r (x.a 0))) (fun _ => []) (fun _ => [])
end Mine
end
section
open PySem PySem.Spec PySem.Calls PyProof.Rows PySem.W PySem.W.X
set_option maxRecDepth 100000
namespace Mine
noncomputable abbrev lsO (xs : List Value) (n : Nat) : Obj := ⟨.type "list", none, .seq ⟨xs⟩ n, #[]⟩
noncomputable abbrev itO (l : Nat) (i : Nat) : Obj := ⟨.type "list_iterator", none, .fields #[.ref l, .int i 0], #[]⟩
noncomputable abbrev itE (i : Nat) : Obj := ⟨.type "list_iterator", none, .fields #[.none, .int i 0], #[]⟩
noncomputable abbrev stopO (t : Nat) : Obj := ⟨.type "StopIteration", none, .fields #[.ref t, .none, .none, .none, .bool false, .none], #[]⟩
section
variable {w : World} {os : OsState} {KK : Nat → Option Obj} {d : Nat}
theorem At.get1 {h : Heap} {a : Nat} {o : Obj} {l : List (Nat × Obj)} (hA : At KK h ((a, o) :: l)) : h.get? a = some o := hA.get 0 _ rfl
theorem At.get2 {h : Heap} {p : Nat × Obj} {a : Nat} {o : Obj} {l : List (Nat × Obj)} (hA : At KK h (p :: (a, o) :: l)) : h.get? a = some o := hA.get 1 _ rfl
theorem At.ne12 {h : Heap} {p q : Nat × Obj} {l : List (Nat × Obj)} (hA : At KK h (p :: q :: l)) : p.1 ≠ q.1 := fun e => by
  have := hA.inj 0 1 (by simp) (by simp) e
  omega
/-- one object changed -/
theorem After.upd1 {h : Heap} {a : Nat} {o o' : Obj} {f : Obj → Obj} {x : X} (hA : At KK h [(a, o)]) (e : f o = o') (hf : o'.isFreed = false) : After KK h [(a, o)] x 0 [o'] [] (h.update a f) := by
  have hs : Heap.SameBut a h (h.update a f) := Heap.SameBut.update ..
  refine ⟨fun b ob hb => ?_, by rw [hs.1]; exact Nat.le_refl _, fun b _ hn => hs.2 b fun q => hn _ (.head _) q.symm, rfl, ?_, rfl, ?_, ?_, ?_⟩
  · rw [hs.2 b fun q => hA.nk b ob hb _ (.head _) q.symm]; exact hA.good b ob hb
  · intro j b ob hb hob
    match j with
    | 0 =>
      simp only [List.map_cons, List.map_nil, List.getElem?_cons_zero, Option.some.injEq] at hb hob
      subst hb hob
      have := Heap.get?_update_self f (hA.get1) (by rw [e]; exact hf)
      rw [this, e]
    | j + 1 => simp at hb
  · intro j ob hob; simp at hob
  · intro j hj; omega
  · intro j k hj; omega
/-- the first of two objects changed -/
theorem After.upd2 {h : Heap} {a : Nat} {o o' : Obj} {q : Nat × Obj} {f : Obj → Obj} {x : X} (hA : At KK h [(a, o), q]) (e : f o = o') (hf : o'.isFreed = false) : After KK h [(a, o), q] x 0 [o', q.2] [] (h.update a f) := by
  have hs : Heap.SameBut a h (h.update a f) := Heap.SameBut.update ..
  refine ⟨fun b ob hb => ?_, by rw [hs.1]; exact Nat.le_refl _, fun b _ hn => hs.2 b fun q => hn _ (.head _) q.symm, rfl, ?_, rfl, ?_, ?_, ?_⟩
  · rw [hs.2 b fun q => hA.nk b ob hb _ (.head _) q.symm]; exact hA.good b ob hb
  · intro j b ob hb hob
    match j with
    | 0 =>
      simp only [List.map_cons, List.map_nil, List.getElem?_cons_zero, Option.some.injEq] at hb hob
      subst hb hob
      have := Heap.get?_update_self f (hA.get1) (by rw [e]; exact hf)
      rw [this, e]
    | 1 =>
      simp only [List.map_cons, List.map_nil, List.getElem?_cons_zero, List.getElem?_cons_succ, Option.some.injEq] at hb hob
      subst hb hob
      rw [hs.2 _ fun e => hA.ne12 e.symm]; exact hA.get2
    | j + 2 => simp at hb
  · intro j ob hob; simp at hob
  · intro j hj; omega
  · intro j k hj; omega
/-- two new objects behind -/
theorem After.push2 {h h' : Heap} {ins : List (Nat × Obj)} {x : X} {outs : List Obj} {o₁ o₂ : Obj} (hA : After KK h ins x 0 outs [] h') (h₁ : o₁.isFreed = false) (h₂ : o₂.isFreed = false) :
    After KK h ins ⟨fun j => h'.objs.size + j, fun _ => default, fun _ => .none⟩ 2 outs [o₁, o₂] ((h'.push o₁).push o₂) := by
  have g : ∀ {b o}, h'.get? b = some o → ((h'.push o₁).push o₂).get? b = some o := fun e => Heap.get?_push_of_some _ (Heap.get?_push_of_some _ e)
  refine ⟨fun b ob hb => g (hA.good b ob hb), by rw [Heap.size_push, Heap.size_push]; have := hA.size; omega, fun b hb hn => ?_, hA.len, fun j b ob hb hob => g (hA.upd j b ob hb hob), rfl, ?_, ?_, ?_⟩
  · have e := hA.frame b hb hn
    have hb' : b < h'.objs.size := Nat.lt_of_lt_of_le hb hA.size
    rw [← e]
    have p : ∀ {k : Heap} {ob : Obj}, b < k.objs.size → (k.push ob).get? b = k.get? b := by
      intro k ob hk
      cases q : k.get? b with
      | some o' => exact Heap.get?_push_of_some _ q
      | none =>
        cases q' : (k.push ob).get? b with
        | none => rfl
        | some o' =>
          exfalso
          have h1 := (Heap.get?_some_iff.mp q')
          have : k.get? b = some o' := Heap.get?_some_iff.mpr ⟨by
            have h2 := h1.1
            cases k
            simp only [Heap.push, Array.getElem?_push] at h2
            have hs : b ≠ _ := Nat.ne_of_lt hk
            rw [if_neg hs] at h2
            exact h2, h1.2⟩
          rw [q] at this; cases this
    rw [p (by rw [Heap.size_push]; omega), p hb']
  · intro j ob hob
    match j with
    | 0 =>
      simp only [List.getElem?_cons_zero, Option.some.injEq] at hob
      subst hob
      exact Heap.get?_push_of_some _ (Heap.get?_push_size _ h₁)
    | 1 =>
      simp only [List.getElem?_cons_zero, List.getElem?_cons_succ, Option.some.injEq] at hob
      subst hob
      have := Heap.get?_push_size (h'.push o₁) h₂
      rw [Heap.size_push] at this
      exact this
    | j + 2 => simp at hob
  · intro j hj; have := hA.size; show _ ≤ h'.objs.size + j; omega
  · intro j k _ _ e
    have e' : h'.objs.size + j = h'.objs.size + k := e
    omega
theorem CSpec.meets {id : String} {args : Args} {b : Builtin} {S : Around → (PySem.Result → Shared → Prop) → Shared → Prop} {ins : List (Nat × Obj)} {n : Nat} {r : X → PySem.Result} {outs news : X → List Obj}
    (he : entryFor table id = some b) (hp : plainId id = true) (hm : Meets (b args) S)
    (hS : ∀ (A : Around) (Q : PySem.Result → Shared → Prop) (h : Heap) (dr : Drawn) (tk : Nat), At KK h ins → (∀ x h' dr' tk', After KK h ins x n (outs x) (news x) h' → Q (r x) ⟨h', #[], dr', tk' + 1, os⟩) → S A Q ⟨h, #[], dr, tk + 1, os⟩) :
    CSpec w KK os d (.builtin id args) ins n r outs news := by
  intro B Q h dr tk hd hh hA hQ
  refine codeAny_builtin he ?_
  rw [Around.under_plainId hp]
  exact hm _ _ _ _ _ (hS _ _ _ _ _ hA hQ)
theorem After.same {h : Heap} {x : X} (hA : At KK h []) : After KK h [] x 0 [] [] h :=
  ⟨hA.good, Nat.le_refl _, fun _ _ _ => rfl, rfl, fun j a o e => by simp at e, rfl, fun j o e => by simp at e, fun j e => by omega, fun j k e => by omega⟩
theorem CSpec.gval {id : String} {args : Args} {b : Builtin} {v : Value} (he : entryFor table id = some b) (hp : plainId id = true) (g : Gives (b args) (.val v)) :
    CSpec w KK os d (.builtin id args) [] 0 (fun _ => rOk v) (fun _ => []) (fun _ => []) :=
  CSpec.meets he hp g.meets fun A Q h dr tk hA hQ => hQ ⟨fun _ => 0, fun _ => default, fun _ => .none⟩ _ _ _ (After.same hA)
theorem CSpec.gint {id : String} {args : Args} {b : Builtin} {n : Int} (he : entryFor table id = some b) (hp : plainId id = true) (g : Gives (b args) (.int n)) :
    CSpec w KK os d (.builtin id args) [] 0 (fun x => rOk (.int n (x.a 0))) (fun _ => []) (fun _ => []) :=
  CSpec.meets he hp g.meets fun A Q h dr tk hA hQ => hQ ⟨fun _ => tk + 1, fun _ => default, fun _ => .none⟩ _ _ _ (After.same hA)
theorem CSpec.gstr {id : String} {args : Args} {b : Builtin} {t : Str} (he : entryFor table id = some b) (hp : plainId id = true) (g : Gives (b args) (.str t)) (hs : t.length ≤ sizeLine) :
    CSpec w KK os d (.builtin id args) [] 0 (fun x => rOk (.str t (x.a 0))) (fun _ => []) (fun _ => []) :=
  CSpec.meets he hp g.meets fun A Q h dr tk hA hQ => ⟨hs, hQ ⟨fun _ => tk + 1, fun _ => default, fun _ => .none⟩ _ _ _ (After.same hA)⟩
theorem eqS {s t : Str} {u v : Nat} {b : Bool} (h : (s.cps.toList == t.cps.toList) = b) : CSpec w KK os d (.builtin "str.__eq__" ⟨[.str s u, .str t v], []⟩) [] 0 (fun _ => rOk (.bool b)) (fun _ => []) (fun _ => []) := by
  subst h
  exact CSpec.gval F.entry_str_eq (by decide +kernel) (gives_str_eq s t u v)
theorem neS {s t : Str} {u v : Nat} {b : Bool} (h : (s.cps.toList != t.cps.toList) = b) : CSpec w KK os d (.builtin "str.__ne__" ⟨[.str s u, .str t v], []⟩) [] 0 (fun _ => rOk (.bool b)) (fun _ => []) (fun _ => []) := by
  subst h
  exact CSpec.gval F.entry_str_ne (by decide +kernel) (gives_str_ne s t u v)
theorem eqI {m n : Int} {u v : Nat} {b : Bool} (h : (m == n) = b) : CSpec w KK os d (.builtin "int.__eq__" ⟨[.int m u, .int n v], []⟩) [] 0 (fun _ => rOk (.bool b)) (fun _ => []) (fun _ => []) := by
  subst h
  exact CSpec.gval F.entry_int_eq (by decide +kernel) (gives_int_eq m n u v)
theorem gtI {m n : Int} {u v : Nat} {b : Bool} (h : decide (m > n) = b) : CSpec w KK os d (.builtin "int.__gt__" ⟨[.int m u, .int n v], []⟩) [] 0 (fun _ => rOk (.bool b)) (fun _ => []) (fun _ => []) := by
  subst h
  exact CSpec.gval F.entry_int_gt (by decide +kernel) (gives_int_gt m n u v)
theorem leI {m n : Int} {u v : Nat} {b : Bool} (h : decide (m ≤ n) = b) : CSpec w KK os d (.builtin "int.__le__" ⟨[.int m u, .int n v], []⟩) [] 0 (fun _ => rOk (.bool b)) (fun _ => []) (fun _ => []) := by
  subst h
  exact CSpec.gval F.entry_int_le (by decide +kernel) (gives_int_le m n u v)
theorem After.same1 {h : Heap} {a : Nat} {o : Obj} {x : X} (hA : At KK h [(a, o)]) : After KK h [(a, o)] x 0 [o] [] h :=
  ⟨hA.good, Nat.le_refl _, fun _ _ _ => rfl, rfl, fun j b ob hb hob => by
    match j with
    | 0 =>
      simp only [List.map_cons, List.map_nil, List.getElem?_cons_zero, Option.some.injEq] at hb hob
      subst hb hob; exact hA.get1
    | j + 1 => simp at hb, rfl, fun j o e => by simp at e, fun j e => by omega, fun j k e => by omega⟩
theorem lenL {l : Nat} {xs : List Value} {n : Nat} {k : Nat} (hk : xs.length = k) (hx : k ≤ 1000) :
    CSpec w KK os d (.builtin "len" ⟨[.ref l], []⟩) [(l, lsO xs n)] 0 (fun x => rOk (.int (Int.ofNat k) (x.a 0))) (fun _ => [lsO xs n]) (fun _ => []) := by
  subst hk
  intro B Q h dr tk hd hh hA hQ
  refine codeAny_builtin entry_len ?_
  rw [Around.under_plainId plain_len _]
  refine wpAny_mono (wpAny_len_body_list (items := ⟨xs⟩) (Q := fun v s' => Q (.ok (.ret v)) s') ⟨_, hA.get1, rfl, _, rfl⟩ (by show ((xs.length : Nat) : Int) < 2 ^ 63; omega) ?_) (fun fin s' h' => by obtain ⟨r, rfl, hq⟩ := h'; exact hq) fun _ _ e => e
  exact hQ ⟨fun _ => tk + 1 + 1, fun _ => default, fun _ => .none⟩ _ _ _ (After.same1 hA)
theorem append_s {l : Nat} {xs : List Value} {n : Nat} {v : Value} (hsz : xs.length ≤ 100) :
    CSpec w KK os d (.builtin "list.append" ⟨[.ref l, v], []⟩) [(l, lsO xs n)] 0 (fun _ => rOk .none) (fun _ => [lsO (xs ++ [v]) (n + 1)]) (fun _ => []) :=
  CSpec.meets entry_list_append (by decide +kernel) (PySem.AutoListH.list_append_list_val_0 l ⟨xs⟩ n v (by show xs.length ≤ sizeLine; rw [sizeLine_eq]; omega)) fun A Q h dr tk hA hQ =>
    ⟨hA.get1, hQ ⟨fun _ => 0, fun _ => default, fun _ => .none⟩ _ dr tk (After.upd1 hA (by simp [Obj.mapSeq]) rfl)⟩
theorem pop_s {l : Nat} {xs : List Value} {n : Nat} {v : Value} {u : Nat} (hsz : xs.length ≤ 100) :
    CSpec w KK os d (.builtin "list.pop" ⟨[.ref l, .int 0 u], []⟩) [(l, lsO (v :: xs) n)] 0 (fun _ => rOk v) (fun _ => [lsO xs (n + 1)]) (fun _ => []) :=
  CSpec.meets F.entry_list_pop (by decide +kernel) (PySem.MeetsSeq.list_pop_at l ⟨v :: xs⟩ n 0 u 0 v (by decide +kernel) (by simp [seqIndex?]) rfl (by show xs.length + 1 ≤ sizeLine; rw [sizeLine_eq]; omega)) fun A Q h dr tk hA hQ =>
    ⟨hA.get1, hQ ⟨fun _ => 0, fun _ => default, fun _ => .none⟩ _ dr tk (After.upd1 hA (by simp [Obj.mapSeq, Array.eraseIdxIfInBounds]) rfl)⟩
theorem next_s {it l i : Nat} {xs : List Value} {n : Nat} {v : Value} (hv : xs[i]? = some v) :
    CSpec w KK os d (.builtin "list_iterator.__next__" ⟨[.ref it], []⟩) [(it, itO l i), (l, lsO xs n)] 0 (fun _ => rOk v) (fun _ => [itO l (i + 1), lsO xs n]) (fun _ => []) := by
  intro B Q h dr tk hd hh hA hQ
  refine codeAny_builtin entry_listiter_next ?_
  show wpAny _ _ (field (.ref it) 0 >>= _) _ _ _
  refine wpAny_bind (wpAny_field hA.get1 rfl (x := .ref l) rfl ?_)
  show wpAny _ _ (if (Value.ref l == Value.none) = true then _ else _) _ _ _
  rw [if_neg (show ¬ ((Value.ref l == Value.none) = true) from Bool.false_ne_true)]
  show wpAny _ _ (field (.ref it) 1 >>= _) _ _ _
  refine wpAny_bind (wpAny_field hA.get1 rfl (x := .int i 0) rfl ?_)
  show wpAny _ _ (seqItems? (.ref l) >>= _) _ _ _
  refine wpAny_bind (wpAny_seqItems hA.get2 rfl ?_)
  have hv' : (⟨xs⟩ : Array Value)[i]? = some v := by simpa using hv
  simp only [Int.toNat_natCast, hv']
  refine wpAny_bind (wpAny_setField hA.get1 rfl (by simp) (wpAny_pure ?_))
  exact hQ ⟨fun _ => 0, fun _ => default, fun _ => .none⟩ _ dr tk (After.upd2 hA rfl rfl)
theorem nextE_s {it l i : Nat} {xs : List Value} {n : Nat} (hv : xs[i]? = none) :
    CSpec w KK os d (.builtin "list_iterator.__next__" ⟨[.ref it], []⟩) [(it, itO l i), (l, lsO xs n)] 2 (fun x => .error (.ref (x.a 1))) (fun _ => [itE i, lsO xs n]) (fun x => [⟨.type "tuple", none, .seq #[] 0, #[]⟩, stopO (x.a 0)]) := by
  intro B Q h dr tk hd hh hA hQ
  refine codeAny_builtin entry_listiter_next ?_
  show wpAny _ _ (field (.ref it) 0 >>= _) _ _ _
  refine wpAny_bind (wpAny_field hA.get1 rfl (x := .ref l) rfl ?_)
  show wpAny _ _ (if (Value.ref l == Value.none) = true then _ else _) _ _ _
  rw [if_neg (show ¬ ((Value.ref l == Value.none) = true) from Bool.false_ne_true)]
  show wpAny _ _ (field (.ref it) 1 >>= _) _ _ _
  refine wpAny_bind (wpAny_field hA.get1 rfl (x := .int i 0) rfl ?_)
  show wpAny _ _ (seqItems? (.ref l) >>= _) _ _ _
  refine wpAny_bind (wpAny_seqItems hA.get2 rfl ?_)
  have hv' : (⟨xs⟩ : Array Value)[i]? = none := by simpa using hv
  simp only [Int.toNat_natCast, hv']
  refine wpAny_bind (wpAny_rule (wpAny_bind (wpAny_setField hA.get1 rfl (by simp) ?_)))
  show wpAny _ _ (newExc (.type "StopIteration") [] >>= _) _ _ _
  refine wpAny_bind ?_
  simp only [newExc, newTuple]
  refine wpAny_bind (wpAny_newObj_type ?_ (by size_fits))
  refine wpAny_bind (m := firstArgMember _ _) (wpAny_of_eq (a := Value.none) (by first | rfl | (simp only [firstArgMember]; rfl)) ?_)
  refine wpAny_newObj_type ?_ (by size_fits)
  simp only [raiseNew]
  refine wpAny_bind (wpAny_handled ?_)
  rw [show (B.under _).handled = none from hh]
  refine wpAny_bind (wpAny_pure (wpAny_throw ?_))
  have hx := After.push2 (o₁ := ⟨.type "tuple", none, .seq #[] 0, #[]⟩) (o₂ := stopO ((h.update it fun o => o.mapFields fun fs => fs.set! 0 .none).objs.size + 0)) (After.upd2 (x := ⟨fun _ => 0, fun _ => default, fun _ => .none⟩) (o' := itE i) (f := fun o => o.mapFields fun fs => fs.set! 0 .none) hA rfl rfl) rfl rfl
  have hz := hQ ⟨fun j => (h.update it fun o => o.mapFields fun fs => fs.set! 0 .none).objs.size + j, fun _ => default, fun _ => .none⟩ _ dr tk hx
  rw [Heap.size_push]
  exact hz
end
end Mine
end
section
open PySem PySem.Spec PySem.Calls PyProof.Rows PySem.W PySem.W.X
set_option maxRecDepth 100000
namespace Mine
noncomputable def isForAt (ls : List Nat) : Code → Bool
  | .forLoop t _ _ _ _ => memB t.pos.line ls
  | .whileLoop t _ _ _ => memB t.pos.line ls
  | .compLoop e _ _ _ _ => memB e.pos.line ls
  | _ => false
noncomputable def ent (w : World) (n : List Nat) (t : Nat) (v : Value) : DictEntry := ⟨PyData.keyHash w.params ⟨n.toArray⟩, .str ⟨n.toArray⟩ t, v⟩
noncomputable def machD (w : World) (ln : Value) (stream pb : Nat) (ν : Nat → Nat) : Obj :=
  ⟨.type "dict", none, .dict #[ent w [108,105,110,101,110,111] (ν 0) ln, ent w [105,110,115,116,114,101,97,109] (ν 1) (.ref stream), ent w [119,104,105,116,101,115,112,97,99,101] (ν 2) (.str ⟨#[10,9,13,32]⟩ (ν 3)), ent w [112,117,115,104,98,97,99,107] (ν 4) (.ref pb)] 4, #[]⟩
noncomputable def machI (dct : Nat) : Obj := ⟨.ref 88, some dct, .plain, #[]⟩
noncomputable abbrev machIns (w : World) (mi md pb st : Nat) (ln : Value) (ν : Nat → Nat) (xs : List Value) (n : Nat) : List (Nat × Obj) := [(mi, machI md), (md, machD w ln st pb ν), (pb, lsO xs n)]
noncomputable abbrev machOut (w : World) (md pb st : Nat) (ln : Value) (ν : Nat → Nat) (xs : List Value) (n : Nat) : List Obj := [machI md, machD w ln st pb ν, lsO xs n]
end Mine
end
section
open PySem PySem.Spec PySem.Calls PyProof.Rows PySem.W PySem.W.X
set_option maxRecDepth 100000
namespace Mine
section
variable {w : World} {os : OsState} {KK : Nat → Option Obj} {d : Nat}
theorem bits_of {a n : Nat} (h : a < 2 ^ n) (hn : 0 < n) : Builtin.Int.intBits (Int.ofNat a) ≤ n := by
  unfold Builtin.Int.intBits
  split
  · omega
  · show a.log2 + 1 ≤ n
    have := (Nat.log2_lt (n := a) (k := n) (by rintro rfl; simp_all)).mpr h
    omega
theorem notPylong {a b : Nat} (hb : b < 2 ^ 60) : ¬ (Builtin.divisionGoesByPylong (Int.ofNat a) (Int.ofNat b)) = true := by
  unfold Builtin.divisionGoesByPylong
  have h1 : (if (Int.ofNat b == 0) = true then 0 else (Int.ofNat b).natAbs.log2 / 30 + 1) ≤ 300 := by
    split
    · omega
    · rename_i hz
      show b.log2 / 30 + 1 ≤ 300
      have := (Nat.log2_lt (n := b) (k := 60) (by rintro rfl; simp_all)).mpr hb
      omega
  simp only [Bool.and_eq_true, decide_eq_true_eq, not_and]
  intro h
  omega
theorem fdN {a b u v : Nat} (h0 : 0 < b) (hb : b < 2 ^ 60) :
    CSpec w KK os d (.builtin "int.__floordiv__" ⟨[.int (Int.ofNat a) u, .int (Int.ofNat b) v], []⟩) [] 0 (fun x => rOk (.int (Int.ofNat (a / b)) (x.a 0))) (fun _ => []) (fun _ => []) := by
  have e : (Int.ofNat a).fdiv (Int.ofNat b) = Int.ofNat (a / b) := by
    cases a with
    | zero => simp [Int.fdiv]
    | succ a => rfl
  rw [← e]
  exact CSpec.gint F.entry_int_floordiv (by decide +kernel) (AutoIntG4.int___floordiv___int_int_1 _ _ _ _ (by simp; omega) (notPylong hb))
theorem gives_mod (a : Int) (t : Tok) (b : Int) (u : Tok) (hb : ¬(b == 0) = true) : Gives (Builtin.«int.__mod__» ⟨[.int a t, .int b u], []⟩) (.int (a.fmod b)) :=
  .of_wp fun M A E s Q h => by obtain ⟨hp, g, d, tk, os⟩ := s; wp_walk; exact ⟨_, rfl, h⟩
theorem mdN {a b u v : Nat} (h0 : 0 < b) :
    CSpec w KK os d (.builtin "int.__mod__" ⟨[.int (Int.ofNat a) u, .int (Int.ofNat b) v], []⟩) [] 0 (fun x => rOk (.int (Int.ofNat (a % b)) (x.a 0))) (fun _ => []) (fun _ => []) := by
  have e : (Int.ofNat a).fmod (Int.ofNat b) = Int.ofNat (a % b) := by
    cases a with
    | zero => simp [Int.fmod]
    | succ a => rfl
  rw [← e]
  exact CSpec.gint F.entry_int_mod (by decide +kernel) (gives_mod _ _ _ _ (by simp; omega))
theorem mulN {a b u v : Nat} (hb : b < 2 ^ 60) :
    CSpec w KK os d (.builtin "int.__mul__" ⟨[.int (Int.ofNat a) u, .int (Int.ofNat b) v], []⟩) [] 0 (fun x => rOk (.int (Int.ofNat (a * b)) (x.a 0))) (fun _ => []) (fun _ => []) :=
  CSpec.gint F.entry_int_mul (by decide +kernel) (gives_int_mul _ _ _ _ (IntMulOk.of_right (Nat.le_trans (bits_of hb (by decide)) (by decide))))
theorem powN {b : Nat} {e u v : Nat} (hb : 2 ≤ b) (hb' : b < 2 ^ 60) (he : e < 2 ^ 10) :
    CSpec w KK os d (.builtin "int.__pow__" ⟨[.int (Int.ofNat b) u, .int (Int.ofNat e) v], []⟩) [] 0 (fun x => rOk (.int (Int.ofNat (b ^ e)) (x.a 0))) (fun _ => []) (fun _ => []) := by
  cases e with
  | zero => exact CSpec.gint F.entry_int_pow (by decide +kernel) (AutoIntG9.int___pow___int_int_0 _ _ _ _ (by simp) (by simp))
  | succ e =>
    have h : Int.ofNat (b ^ (e + 1)) = (Int.ofNat b) ^ (Int.ofNat (e + 1)).toNat := by simp
    rw [h]
    refine CSpec.gint F.entry_int_pow (by decide +kernel) (AutoIntG2.int___pow___int_int_4 _ _ _ _ (by simp; omega) (by simp; omega) (by simp; omega) (by simp) ?_)
    unfold Builtin.Int.intTooBig
    have h1 := bits_of hb' (by decide)
    have h2 : ((Builtin.Int.intBits (Int.ofNat b) : Nat) : Int) * Int.ofNat (e + 1) ≤ 60 * 1024 := by
      have h3 : ((Builtin.Int.intBits (Int.ofNat b) : Nat) : Int) ≤ 60 := by omega
      have h4 : Int.ofNat (e + 1) ≤ 1024 := by simp; omega
      exact Int.mul_le_mul h3 h4 (by simp; omega) (by omega)
    simp only [decide_eq_true_eq]
    have : bitsLine ≥ 100000 := by unfold bitsLine; decide
    omega
theorem fdE {a b c u v : Nat} (h : a / b = c) (h0 : 0 < b) (hb : b < 2 ^ 60) :
    CSpec w KK os d (.builtin "int.__floordiv__" ⟨[.int (Int.ofNat a) u, .int (Int.ofNat b) v], []⟩) [] 0 (fun x => rOk (.int (Int.ofNat c) (x.a 0))) (fun _ => []) (fun _ => []) := h ▸ fdN h0 hb
theorem mdE {a b c u v : Nat} (h : a % b = c) (h0 : 0 < b) :
    CSpec w KK os d (.builtin "int.__mod__" ⟨[.int (Int.ofNat a) u, .int (Int.ofNat b) v], []⟩) [] 0 (fun x => rOk (.int (Int.ofNat c) (x.a 0))) (fun _ => []) (fun _ => []) := h ▸ mdN h0
theorem mulE {a b c u v : Nat} (h : a * b = c) (hb : b < 2 ^ 60) :
    CSpec w KK os d (.builtin "int.__mul__" ⟨[.int (Int.ofNat a) u, .int (Int.ofNat b) v], []⟩) [] 0 (fun x => rOk (.int (Int.ofNat c) (x.a 0))) (fun _ => []) (fun _ => []) := h ▸ mulN hb
theorem powE {b e c u v : Nat} (h : b ^ e = c) (hb : 2 ≤ b) (hb' : b < 2 ^ 60) (he : e < 2 ^ 10) :
    CSpec w KK os d (.builtin "int.__pow__" ⟨[.int (Int.ofNat b) u, .int (Int.ofNat e) v], []⟩) [] 0 (fun x => rOk (.int (Int.ofNat c) (x.a 0))) (fun _ => []) (fun _ => []) := h ▸ powN hb hb' he
end
end Mine
end
section
open PySem PySem.Spec PySem.Calls PyProof.Rows PySem.W PySem.W.X
set_option maxRecDepth 100000
namespace Mine
noncomputable def stAt : List Stmt → List Nat → Option Stmt
  | _, [] => none
  | l, [i] => l[i]?
  | l, i :: p => match l[i % 100]? with
    | some (.For _ _ b _ _) => stAt b p
    | some (.While _ b _ _) => stAt b p
    | some (.If _ b o _) => match Nat.ble 100 i with
      | true => stAt o p
      | false => stAt b p
    | _ => none
noncomputable def withFd {α : Type} (w : World) (f : Nat) (d : α) (k : FuncData → α) : α := match KT.get (hd.ktop_362 w.params) f with
  | some o => (match o.data with
    | .func fd => k fd
    | _ => d)
  | none => d
noncomputable def envF (fd : FuncData) (f fr : Nat) : Env := ⟨fd.scope, fr, fd.globals, fd.closure, fd.qualname ++ ".<locals>.", some f, fd.code, some fr, fd.builtins⟩
noncomputable def forC (w : World) (f : Nat) (p : List Nat) (it fr : Nat) : Code := withFd w f default fun fd => match fd.body with
  | .stmts b => match stAt b p with
    | some (.For t _ b o _) => .forLoop t (.ref it) b o (envF fd f fr)
    | some (.While t b o _) => .whileLoop t b o (envF fd f fr)
    | _ => default
  | _ => default
noncomputable abbrev cL240 (w : World) (it fr : Nat) : Code := forC w 149 [1] it fr
noncomputable abbrev cL244 (w : World) (it fr : Nat) : Code := forC w 149 [1, 3] it fr
noncomputable abbrev cL253 (w : World) (fr : Nat) : Code := forC w 149 [3] 0 fr
noncomputable def envC (fd : FuncData) (f fr : Nat) (cells : List (Str × Nat)) : Env := { envF fd f fr with cells := cells }
noncomputable def forCC (w : World) (f : Nat) (p : List Nat) (it fr : Nat) (cells : List (Str × Nat)) : Code := withFd w f default fun fd => match fd.body with
  | .stmts b => match stAt b p with
    | some (.For t _ b o _) => .forLoop t (.ref it) b o (envC fd f fr cells)
    | some (.While t b o _) => .whileLoop t b o (envC fd f fr cells)
    | _ => default
  | _ => default
noncomputable def fcomp : Nat → Expr → Option Expr
  | 0, _ => none
  | n + 1, e => match e with
    | .ListComp _ _ _ _ => some e
    | .BinOp l _ r _ => match fcomp n l with
      | some x => some x
      | none => fcomp n r
    | .Call _ (a :: _) _ _ => fcomp n a
    | .Compare l _ _ _ => fcomp n l
    | _ => none
noncomputable def stComp : Stmt → Option Expr
  | .Assign _ v _ => fcomp 6 v
  | .Return (some v) _ => fcomp 6 v
  | .If t _ _ _ => fcomp 6 t
  | _ => none
noncomputable def freeCell : NameKind → NameKind
  | .free => .cell
  | k => k
noncomputable def compC (w : World) (f : Nat) (p : List Nat) (it acc loc fr : Nat) (cells : List (Str × Nat)) : Code := withFd w f default fun fd => match fd.body with
  | .stmts b => match stAt b p with
    | some s => match stComp s with
      | some (.ListComp e g sc q) => .compLoop (.ListComp e g sc q) 0 (.ref it) (.ref acc) { scope := { sc with names := sc.names.map fun x => (x.1, freeCell x.2) }, locals := loc, globals := fd.globals, cells := cells, qual := fd.qualname ++ ".<locals>.", func := none, code := fd.code, frame := some fr, builtins := fd.builtins }
      | _ => default
    | none => default
  | _ => default
noncomputable abbrev dcE (w : World) (l : List (List Nat × Nat × Value)) : Obj := ⟨.type "dict", none, .dict ⟨l.map fun p => ent w p.1 p.2.1 p.2.2⟩ l.length, #[]⟩
noncomputable abbrev cellO (v : Value) : Obj := ⟨.type "cell", none, .cell (some v), #[]⟩
noncomputable def rfO (w : World) (ct ca cd tu : Nat) : Obj := withFd w 113 default fun fd => match fd.body with
  | .stmts b => match (b[1]? : Option Stmt) with
    | some (.FunctionDef n a body _ _ _ sc _ _ _) => ⟨.type "function", none, .func { name := n, qualname := fd.qualname ++ ".<locals>." ++ n, params := a, body := .stmts body, scope := sc, globals := 3, closure := [(⟨#[116, 101, 120, 116]⟩, ct), (⟨#[97, 116]⟩, ca)], defaults := .none, kwdefaults := .none, doc := .none, pyModule := fd.pyModule, annotations := none, code := .ref cd, closureTuple := .ref tu, builtins := 0 }, #[]⟩
    | _ => default
  | _ => default
noncomputable def lamO (w : World) (cl sd : Nat) : Obj := withFd w 113 default fun fd => match fd.body with
  | .stmts b => match (b[2]? : Option Stmt) with
    | some (.Assign _ (.Lambda a e sc _) _) => ⟨.type "function", some sd, .func { name := ⟨#[60, 108, 97, 109, 98, 100, 97, 62]⟩, qualname := fd.qualname ++ ".<locals>." ++ (⟨#[60, 108, 97, 109, 98, 100, 97, 62]⟩ : Str), params := a, body := .expr e, scope := sc, globals := 3, closure := [], defaults := .none, kwdefaults := .none, doc := .none, pyModule := fd.pyModule, annotations := none, code := .ref cl, closureTuple := .none, builtins := 0 }, #[]⟩
    | _ => default
  | _ => default
noncomputable abbrev rfQ : Str := ⟨#[95, 108, 97, 119, 95, 109, 97, 99, 104, 105, 110, 101, 46, 60, 108, 111, 99, 97, 108, 115, 62, 46, 95, 108, 97, 119, 95, 114, 101, 97, 100, 95, 111, 110]⟩
noncomputable abbrev cdO (a0 : Value) (q : Nat) (rest : List Value) : Obj := ⟨.type "code", none, .fields ⟨a0 :: .str rfQ q :: rest⟩, #[]⟩
/-- a call with one number -/
noncomputable def isCallI : Code → Bool
  | .call (.ref _) ⟨[.int _ _], _⟩ => true
  | _ => false
/-- a call with one object -/
noncomputable def isCallM : Code → Bool
  | .call (.ref _) ⟨[.ref _], _⟩ => true
  | _ => false
noncomputable abbrev cdG (a0 : Value) (qs : Str) (q : Nat) (rest : List Value) : Obj := ⟨.type "code", none, .fields ⟨a0 :: .str qs q :: rest⟩, #[]⟩
noncomputable abbrev siQ : Str := ⟨#[95, 115, 116, 114, 95, 116, 111, 95, 105, 110, 116, 95, 105, 110, 110, 101, 114, 46, 60, 108, 111, 99, 97, 108, 115, 62, 46, 105, 110, 110, 101, 114]⟩
noncomputable abbrev idQ : Str := ⟨#[95, 105, 110, 116, 50, 100, 105, 103, 105, 116, 115, 46, 60, 108, 111, 99, 97, 108, 115, 62, 46, 105, 110, 110, 101, 114]⟩
/-- a call with three numbers -/
noncomputable def isCall3 : Code → Bool
  | .call (.ref _) ⟨[.int _ _, .int _ _, .int _ _], _⟩ => true
  | _ => false
noncomputable def idO (w : World) (cl : List (Str × Nat)) (cd tu : Nat) : Obj := withFd w 43 default fun fd => match fd.body with
  | .stmts b => match (b[1]? : Option Stmt) with
    | some (.FunctionDef n a body _ _ _ sc _ _ _) => ⟨.type "function", none, .func { name := n, qualname := fd.qualname ++ ".<locals>." ++ n, params := a, body := .stmts body, scope := sc, globals := 3, closure := cl, defaults := .none, kwdefaults := .none, doc := .none, pyModule := .str ⟨#[108, 97, 119, 95, 115, 104, 48, 48, 52, 53, 95, 48, 49]⟩ 350, annotations := none, code := .ref cd, closureTuple := .ref tu, builtins := 0 }, #[]⟩
    | _ => default
  | _ => default
noncomputable abbrev frE (w : World) (l : List (List Nat × Nat × Value)) : Obj := ⟨.type "frame", none, .dict ⟨l.map fun p => ent w p.1 p.2.1 p.2.2⟩ l.length, #[]⟩
noncomputable abbrev rgI (a b : Int) : Obj := ⟨.type "range_iterator", none, .fields #[.int a 0, .int b 0, .int 1 0], #[]⟩
theorem rgI_next (t m : Nat) : (⟨.type "range_iterator", none, .fields #[.int (Int.ofNat t + 1) 0, .int (Int.ofNat (m + 1) - 1) 0, .int 1 0], #[]⟩ : Obj) = rgI (Int.ofNat (t + 1)) (Int.ofNat m) := by
  have h1 : Int.ofNat t + 1 = Int.ofNat (t + 1) := rfl
  have h2 : Int.ofNat (m + 1) - 1 = Int.ofNat m := by simp
  rw [h1, h2]
noncomputable abbrev rgN (t m : Nat) : Obj := ⟨.type "range_iterator", none, .fields #[.int (Int.ofNat t + 1) 0, .int (Int.ofNat (m + 1) - 1) 0, .int 1 0], #[]⟩
end Mine
end
section
open PySem PySem.Spec PySem.Calls PyProof.Rows PySem.W PySem.W.X
set_option maxRecDepth 100000
namespace Mine
theorem modAt {α : Type} {f : α → α} {x : α} {b : List α} (a : List α) : (a ++ x :: b).modify a.length f = a ++ f x :: b := by
  induction a with
  | nil => rfl
  | cons y a ih => simp [List.modify_succ_cons, ih]
section
variable {w : World} {os : OsState} {KK : Nat → Option Obj} {d : Nat}
noncomputable abbrev ES (w : World) (l : List (List Nat × Nat × Value)) : Array DictEntry := ⟨l.map fun p => ent w p.1 p.2.1 p.2.2⟩
theorem keysOf (l : List (List Nat × Nat × Value)) : KeysOf (PySem.strKind PySem.Challenge.pw_sh0045_01 w) (ES w l) := by
  intro e he
  have he' : e ∈ l.map fun p => ent w p.1 p.2.1 p.2.2 := by simpa using he
  obtain ⟨p, _, rfl⟩ := List.mem_map.mp he'
  exact ⟨⟨p.1.toArray⟩, by simp [ent, PySem.strKind, Value.isStrOf], rfl⟩
theorem findKey_none {l : List (List Nat × Nat × Value)} {s : List Nat} (h : ∀ p ∈ l, p.1 ≠ s) : (ES w l).findIdx? (fun e => (PySem.strKind PySem.Challenge.pw_sh0045_01 w).is ⟨s.toArray⟩ e.key) = none := by
  simp only [List.findIdx?_toArray, List.findIdx?_map]
  rw [List.findIdx?_eq_none_iff]
  intro p hp
  have := h p hp
  simp only [Function.comp, ent, PySem.strKind, Value.isStrOf]
  rw [beq_eq_false_iff_ne]
  intro e
  injection e with e
  exact this (by simpa using e)
theorem findKey_some {l1 l2 : List (List Nat × Nat × Value)} {s : List Nat} {t : Nat} {v : Value} (h : ∀ p ∈ l1, p.1 ≠ s) :
    (ES w (l1 ++ (s, t, v) :: l2)).findIdx? (fun e => (PySem.strKind PySem.Challenge.pw_sh0045_01 w).is ⟨s.toArray⟩ e.key) = some l1.length := by
  have h1 : (l1.findIdx? fun p => (PySem.strKind PySem.Challenge.pw_sh0045_01 w).is ⟨s.toArray⟩ (ent w p.1 p.2.1 p.2.2).key) = none := by
    rw [List.findIdx?_eq_none_iff]
    intro p hp
    have := h p hp
    simp only [ent, PySem.strKind, Value.isStrOf]
    rw [beq_eq_false_iff_ne]
    intro e
    injection e with e
    exact this (by simpa using e)
  simp only [List.findIdx?_toArray, List.findIdx?_map]
  show ((l1 ++ (s, t, v) :: l2).findIdx? fun p => (PySem.strKind PySem.Challenge.pw_sh0045_01 w).is ⟨s.toArray⟩ (ent w p.1 p.2.1 p.2.2).key) = some l1.length
  rw [List.findIdx?_append, h1, List.findIdx?_cons]
  simp [ent, PySem.strKind, Value.isStrOf]
theorem dgetE {dd : Nat} {l1 l2 : List (List Nat × Nat × Value)} {s : List Nat} {t z : Nat} {v : Value} (h : ∀ p ∈ l1, p.1 ≠ s) :
    CSpec w KK os d (.builtin "dict.__getitem__" ⟨[.ref dd, sv s z], []⟩) [(dd, dcE w (l1 ++ (s, t, v) :: l2))] 0 (fun _ => rOk v) (fun _ => [dcE w (l1 ++ (s, t, v) :: l2)]) (fun _ => []) := by
  intro B Q hp dr tk hd hh hA hQ
  refine codeAny_builtin F.entry_dict_getitem ?_
  rw [Around.under_plainId (by decide +kernel)]
  show wpAny _ _ (dictGet dd (sv s z) >>= _) _ _ _
  have hk := keysOf (w := w) (l1 ++ (s, t, v) :: l2)
  have hkey : (PySem.strKind PySem.Challenge.pw_sh0045_01 w).is ⟨s.toArray⟩ (sv s z) = true := by simp [PySem.strKind, Value.isStrOf]
  refine wpAny_bind ?_
  unfold dictGet
  try with_reducible refine wpAny_holding ?_
  refine wpAny_bind ((PySem.strKind PySem.Challenge.pw_sh0045_01 w).pyHash hkey ?_)
  refine wpAny_bind (wpAny_dictFind_of hkey hA.get1 rfl hk ?_)
  rw [findKey_some h]
  refine wpAny_bind (wpAny_dictEntries hA.get1 rfl (wpAny_pure ?_))
  have hv : (ES w (l1 ++ (s, t, v) :: l2))[l1.length]? = some (ent w s t v) := by simp
  simp only [hv, Option.map_some]
  exact wpAny_pure (hQ ⟨fun _ => 0, fun _ => default, fun _ => .none⟩ _ _ _ (After.same1 hA))
theorem dsetE {dd : Nat} {l1 l2 : List (List Nat × Nat × Value)} {s : List Nat} {t z : Nat} {v v' : Value} (h : ∀ p ∈ l1, p.1 ≠ s) :
    CSpec w KK os d (.builtin "dict.__setitem__" ⟨[.ref dd, sv s z, v'], []⟩) [(dd, dcE w (l1 ++ (s, t, v) :: l2))] 0 (fun _ => rOk .none) (fun _ => [dcE w (l1 ++ (s, t, v') :: l2)]) (fun _ => []) := by
  intro B Q hp dr tk hd hh hA hQ
  refine codeAny_builtin F.entry_dict_setitem ?_
  rw [Around.under_plainId (by decide +kernel)]
  show wpAny _ _ (Builtin.Dict.notOrdered "__setitem__" ⟨[.ref dd, sv s z, v'], []⟩ >>= _) _ _ _
  have hk := keysOf (w := w) (l1 ++ (s, t, v) :: l2)
  have hkey : (PySem.strKind PySem.Challenge.pw_sh0045_01 w).is ⟨s.toArray⟩ (sv s z) = true := by simp [PySem.strKind, Value.isStrOf]
  have hT : (⟨hp, #[], dr, tk + 1, os⟩ : Shared).TypeIs (.ref dd) "dict" := ⟨_, hA.get1, rfl⟩
  refine wpAny_bind (wpAny_notOrdered_dict hT ?_)
  show wpAny _ _ (dictSet dd (sv s z) v' >>= _) _ _ _
  refine wpAny_bind ?_
  unfold dictSet
  try with_reducible refine wpAny_holding ?_
  refine wpAny_bind ((PySem.strKind PySem.Challenge.pw_sh0045_01 w).pyHash hkey ?_)
  unfold dictSetHashed
  try with_reducible refine wpAny_holding ?_
  refine wpAny_bind (wpAny_dictFind_of hkey hA.get1 rfl hk ?_)
  rw [findKey_some h]
  have hm : (ES w (l1 ++ (s, t, v) :: l2)).modify l1.length (fun e => { e with val := v' }) = ES w (l1 ++ (s, t, v') :: l2) := by
    apply Array.ext'
    simp only [Array.toList_modify, List.map_append, List.map_cons]
    have := modAt (f := fun e : DictEntry => { e with val := v' }) (x := ent w s t v) (b := l2.map fun p => ent w p.1 p.2.1 p.2.2) (l1.map fun p => ent w p.1 p.2.1 p.2.2)
    rw [List.length_map] at this
    exact this
  refine wpAny_bind (wpAny_rule (wpAny_bind (wpAny_updateDict hA.get1 rfl (wpAny_point ?_))))
  refine wpAny_pure (hQ ⟨fun _ => 0, fun _ => default, fun _ => .none⟩ _ _ _ (After.upd1 hA ?_ rfl))
  simp only [Obj.mapDict, hm]
  simp
theorem dnewE {dd : Nat} {l : List (List Nat × Nat × Value)} {s : List Nat} {z : Nat} {v' : Value} (h : ∀ p ∈ l, p.1 ≠ s) (hl : l.length ≤ 100) :
    CSpec w KK os d (.builtin "dict.__setitem__" ⟨[.ref dd, sv s z, v'], []⟩) [(dd, dcE w l)] 0 (fun _ => rOk .none) (fun _ => [dcE w (l ++ [(s, z, v')])]) (fun _ => []) := by
  intro B Q hp dr tk hd hh hA hQ
  refine codeAny_builtin F.entry_dict_setitem ?_
  rw [Around.under_plainId (by decide +kernel)]
  show wpAny _ _ (Builtin.Dict.notOrdered "__setitem__" ⟨[.ref dd, sv s z, v'], []⟩ >>= _) _ _ _
  have hk := keysOf (w := w) l
  have hkey : (PySem.strKind PySem.Challenge.pw_sh0045_01 w).is ⟨s.toArray⟩ (sv s z) = true := by simp [PySem.strKind, Value.isStrOf]
  have hT : (⟨hp, #[], dr, tk + 1, os⟩ : Shared).TypeIs (.ref dd) "dict" := ⟨_, hA.get1, rfl⟩
  refine wpAny_bind (wpAny_notOrdered_dict hT ?_)
  show wpAny _ _ (dictSet dd (sv s z) v' >>= _) _ _ _
  refine wpAny_bind ?_
  unfold dictSet
  try with_reducible refine wpAny_holding ?_
  refine wpAny_bind ((PySem.strKind PySem.Challenge.pw_sh0045_01 w).pyHash hkey ?_)
  unfold dictSetHashed
  try with_reducible refine wpAny_holding ?_
  refine wpAny_bind (wpAny_dictFind_of hkey hA.get1 rfl hk ?_)
  rw [findKey_none h]
  have hm : (ES w l).push ⟨(PySem.strKind PySem.Challenge.pw_sh0045_01 w).hash ⟨s.toArray⟩, sv s z, v'⟩ = ES w (l ++ [(s, z, v')]) := by
    simp
    rfl
  refine wpAny_bind (wpAny_rule (wpAny_updateDictKeys (hz := by simp [sizeLine_eq]; omega) hA.get1 rfl ?_))
  refine wpAny_pure (hQ ⟨fun _ => 0, fun _ => default, fun _ => .none⟩ _ _ _ (After.upd1 hA ?_ rfl))
  simp only [Obj.mapDictKeys, hm]
  simp
end
end Mine
end
section
open PySem PySem.Spec PySem.Calls PyProof.Rows PySem.W PySem.W.X
set_option maxRecDepth 100000
namespace Mine
section
variable {w : World} {os : OsState} {KK : Nat → Option Obj} {d : Nat}
theorem getK {l u : Nat} {k : Int} {xs : List Value} {n : Nat} {v : Value} (h0 : 0 ≤ k) (hfit : k < 2 ^ 63) (hv : (⟨xs⟩ : Array Value)[k.toNat]? = some v) :
    CSpec w KK os d (.builtin "list.__getitem__" ⟨[.ref l, .int k u], []⟩) [(l, lsO xs n)] 0 (fun _ => rOk v) (fun _ => [lsO xs n]) (fun _ => []) := by
  intro B Q h dr tk hd hh hA hQ
  refine codeAny_builtin entry_list_getitem ?_
  rw [Around.under_plainId (by decide +kernel)]
  show wpAny _ _ (Builtin.List.listSubscript? (.int k u) >>= _) _ _ _
  refine wpAny_bind (wpAny_listSubscript_int (fitsIndex_of h0 hfit) ?_)
  clear hfit
  obtain ⟨j, rfl⟩ := Int.eq_ofNat_of_zero_le h0
  have hx' : (⟨xs⟩ : Array Value)[j]? = some v := hv
  show wpAny _ _ ((seqItemAt l j >>= fun r => pure (r.map (j, ·))) >>= _) _ _ _
  refine wpAny_bind (wpAny_bind (wpAny_seqItemAt hA.get1 rfl (wpAny_pure ?_)))
  rw [hx']
  have z := hQ ⟨fun _ => 0, fun _ => default, fun _ => .none⟩ h dr tk (After.same1 hA)
  first
    | exact wpAny_bind (wpAny_pure (wpAny_pure z))
    | exact wpAny_pure z
theorem getS {l i u : Nat} {xs : List Value} {n : Nat} {v : Value} (hv : xs[i]? = some v) (hi : i < 1000) :
    CSpec w KK os d (.builtin "list.__getitem__" ⟨[.ref l, .int (Int.ofNat i) u], []⟩) [(l, lsO xs n)] 0 (fun _ => rOk v) (fun _ => [lsO xs n]) (fun _ => []) :=
  getK (Int.natCast_nonneg i) (Int.ofNat_lt.mpr (show i < 2 ^ 63 from Nat.lt_trans hi (by decide))) (by simpa using hv)
theorem list2 {l b : Nat} {xs ys : List Value} {n m : Nat} {x : X} {h : Heap} (hA : At KK h [(l, lsO xs n), (b, lsO ys m)]) : After KK h [(l, lsO xs n), (b, lsO ys m)] x 0 [lsO xs n, lsO ys m] [] h :=
  ⟨hA.good, Nat.le_refl _, fun _ _ _ => rfl, rfl, fun j a ob ha hob => by
    match j with
    | 0 =>
      simp only [List.map_cons, List.map_nil, List.getElem?_cons_zero, Option.some.injEq] at ha hob
      subst ha hob; exact hA.get1
    | 1 =>
      simp only [List.map_cons, List.map_nil, List.getElem?_cons_zero, List.getElem?_cons_succ, Option.some.injEq] at ha hob
      subst ha hob; exact hA.get2
    | j + 2 => simp at ha, rfl, fun j o e => by simp at e, fun j e => by omega, fun j k e => by omega⟩
theorem isS {l u : Nat} {xs : List Value} {n : Nat} {s : List Nat} {b : Bool} (hx : ∀ y ∈ xs, ∃ t u, y = sv t u) (hb : (xs.any fun y => match y with
      | .str t _ => t.cps.toList == s
      | _ => false) = b) :
    CSpec w KK os d (.builtin "list.__contains__" ⟨[.ref l, sv s u], []⟩) [(l, lsO xs n)] 0 (fun _ => rOk (.bool b)) (fun _ => [lsO xs n]) (fun _ => []) := by
  subst hb
  refine CSpec.meets entry_list_contains (by decide +kernel) (MeetsSeq.list_contains l ⟨xs⟩ n (sv s u) (fun y => match y with
      | .str t _ => t.cps.toList == s
      | _ => false) ?_) fun A Q h dr tk hA hQ => ⟨hA.get1, ?_⟩
  · intro y hy
    obtain ⟨t, v, rfl⟩ := hx y (by simpa using hy)
    have := SeqRoads2.EqGives.str ⟨t.toArray⟩ ⟨s.toArray⟩ v u
    simpa using this
  · have := hQ ⟨fun _ => 0, fun _ => default, fun _ => .none⟩ h dr tk (After.same1 hA)
    simpa using this
theorem eqL {l b : Nat} {xs ys : List Value} {n m : Nat} {r : Bool} (hx : ∀ y ∈ xs, ∃ t u, y = sv t u) (hy : ys = xs) (hr : r = true) :
    CSpec w KK os d (.builtin "list.__eq__" ⟨[.ref l, .ref b], []⟩) [(l, lsO xs n), (b, lsO ys m)] 0 (fun _ => rOk (.bool r)) (fun _ => [lsO xs n, lsO ys m]) (fun _ => []) := by
  subst hy hr
  refine CSpec.meets F.entry_list_eq (by decide +kernel) (MeetsSeq3.list_eq l b ⟨ys⟩ ⟨ys⟩ n m rfl (fun _ => true) ?_) fun A Q h dr tk hA hQ => ⟨hA.get1, hA.get2, ?_⟩
  · intro j h1 h2
    obtain ⟨t, v, e⟩ := hx _ (show ys[j] ∈ ys from List.getElem_mem _)
    have e' : (⟨ys⟩ : Array Value)[j] = sv t v := e
    rw [e']
    have := SeqRoads2.EqGives.str ⟨t.toArray⟩ ⟨t.toArray⟩ v v
    simpa using this
  · have hz := hQ ⟨fun _ => 0, fun _ => default, fun _ => .none⟩ h dr tk (list2 hA)
    have : ((List.range (⟨ys⟩ : Array Value).size).all fun _ => true) = true := by simp
    rw [this]; exact hz
theorem neL {l b : Nat} {xs ys : List Value} {n m : Nat} (hz : xs.length ≠ ys.length) :
    CSpec w KK os d (.builtin "list.__eq__" ⟨[.ref l, .ref b], []⟩) [(l, lsO xs n), (b, lsO ys m)] 0 (fun _ => rOk (.bool false)) (fun _ => [lsO xs n, lsO ys m]) (fun _ => []) :=
  CSpec.meets F.entry_list_eq (by decide +kernel) (AutoSeq1.list___eq___list_list_0 l ⟨xs⟩ n b ⟨ys⟩ m (by simpa using hz)) fun A Q h dr tk hA hQ => ⟨hA.get1, hA.get2, hQ ⟨fun _ => 0, fun _ => default, fun _ => .none⟩ h dr tk (list2 hA)⟩
theorem setK {l u : Nat} {k : Int} {xs : List Value} {n : Nat} {v : Value} (h0 : 0 ≤ k) (hfit : k < 2 ^ 63) (hn : k < (⟨xs⟩ : Array Value).size) :
    CSpec w KK os d (.builtin "list.__setitem__" ⟨[.ref l, .int k u, v], []⟩) [(l, lsO xs n)] 0 (fun _ => rOk .none) (fun _ => [lsO (xs.set k.toNat v) n]) (fun _ => []) := by
  intro B Q h dr tk hd hh hA hQ
  refine codeAny_builtin entry_list_setitem ?_
  rw [Around.under_plainId (by decide +kernel)]
  show wpAny _ _ (Builtin.List.listSubscript? (.int k u) >>= _) _ _ _
  refine wpAny_bind (wpAny_listSubscript_int (fitsIndex_of h0 hfit) ?_)
  clear hfit
  obtain ⟨j, rfl⟩ := Int.eq_ofNat_of_zero_le h0
  have hj : j < (⟨xs⟩ : Array Value).size := by omega
  have hx' : (⟨xs⟩ : Array Value)[j]? = some (⟨xs⟩ : Array Value)[j] := Array.getElem?_eq_getElem hj
  show wpAny _ _ ((seqItemAt l j >>= fun r => pure (r.map (j, ·))) >>= _) _ _ _
  refine wpAny_bind (wpAny_bind (wpAny_seqItemAt hA.get1 rfl (wpAny_pure ?_)))
  rw [hx']
  show wpAny _ _ (setSeqItemAt l j v >>= _) _ _ _
  refine wpAny_bind (wpAny_setSeqItemAt hA.get1 rfl ?_)
  have z := hQ ⟨fun _ => 0, fun _ => default, fun _ => .none⟩ _ dr tk (After.upd1 (f := Obj.mapSeq (·.setIfInBounds j v)) hA (by simp [Obj.mapSeq]) rfl)
  first
    | exact wpAny_bind (wpAny_pure (wpAny_pure z))
    | exact wpAny_pure z
end
end Mine
end
section
open PySem PySem.Spec PySem.Calls PyProof.Rows PySem.W PySem.W.X
set_option maxRecDepth 100000
namespace Mine
noncomputable abbrev slcO (a b : Value) : Obj := ⟨.type "slice", none, .fields #[a, b, .none], #[]⟩
theorem clip_le {p n : Nat} (h : p ≤ n) : max 0 (min (p : Int) (n : Int)) = (p : Int) := by
  rw [Int.min_eq_left (Int.ofNat_le.mpr h), Int.max_eq_right (Int.natCast_nonneg p)]
section
variable {w : World} {os : OsState} {KK : Nat → Option Obj} {d : Nat}
/-- one sign of a text, by a slice -/
theorem slice1 {a p t u v : Nat} {s : Str} {c : Nat} (hc : s.cps[p]? = some c) (h2 : 2 ≤ s.length) (hp : p < 1000000) :
    CSpec w KK os d (.builtin "str.__getitem__" ⟨[.str s t, .ref a], []⟩) [(a, slcO (.int (Int.ofNat p) u) (.int (Int.ofNat (p + 1)) v))] 0 (fun x => rOk (sv [c] (x.a 0))) (fun _ => [slcO (.int (Int.ofNat p) u) (.int (Int.ofNat (p + 1)) v)]) (fun _ => []) := by
  refine CSpec.meets F.entry_str_getitem (by decide +kernel) (meets_str_getitem_slice s t a (some (Int.ofNat p, u)) (some (Int.ofNat (p + 1), v)) none rfl) fun A Q h dr tk hA hQ => ⟨⟨_, hA.get1, rfl, rfl⟩, ?_⟩
  have hlt : p < s.length := by
    have : p < s.cps.size := by
      rcases Nat.lt_or_ge p s.cps.size with h | h
      · exact h
      · rw [Array.getElem?_eq_none h] at hc; cases hc
    exact this
  have hpk : slicePicked s (some (Int.ofNat p, u)) (some (Int.ofNat (p + 1), v)) none = [p] := by
    show Builtin.Str.strSliceIndices (some (Int.ofNat p)) (some (Int.ofNat (p + 1))) 1 s.length = [p]
    unfold Builtin.Str.strSliceIndices
    have e1 : (if (Int.ofNat p : Int) < 0 then (Int.ofNat p : Int) + (s.length : Int) else Int.ofNat p) = (p : Int) := by
      rw [if_neg (by simp)]; rfl
    have e2 : (if (Int.ofNat (p + 1) : Int) < 0 then (Int.ofNat (p + 1) : Int) + (s.length : Int) else Int.ofNat (p + 1)) = ((p + 1 : Nat) : Int) := by
      rw [if_neg (by simp; omega)]; rfl
    have e3 := clip_le (Nat.le_of_lt hlt)
    have e4 := clip_le (Nat.succ_le_of_lt hlt)
    simp only [show ((1 : Int) > 0) = True from by simp, if_true, e1, e2, e3, e4]
    unfold sliceRange
    have e5 : ((if (1 : Int) > 0 then (if (p : Int) < ((p + 1 : Nat) : Int) then (((p + 1 : Nat) : Int) - p + 1 - 1) / 1 else 0) else (if (p : Int) > ((p + 1 : Nat) : Int) then ((p : Int) - ((p + 1 : Nat) : Int) - 1 - 1) / (-1) else 0)) : Int) = 1 := by
      rw [if_pos (by decide), if_pos (by omega)]; omega
    simp only [e5]
    simp [List.range_succ]
  have hm : sliceMade s t (some (Int.ofNat p, u)) (some (Int.ofNat (p + 1), v)) none = .str ⟨#[c]⟩ := by
    unfold sliceMade
    rw [hpk]
    rw [if_neg (by simp; omega)]
    simp [hc]
  rw [hm]
  exact ⟨by show (1 : Nat) ≤ sizeLine; rw [sizeLine_eq]; omega, hQ ⟨fun _ => tk + 1, fun _ => default, fun _ => .none⟩ h dr (tk + 1) (After.same1 hA)⟩
/-- two texts joined -/
theorem addS {s r : List Nat} {t u : Nat} (h : s.length + r.length ≤ 1000) :
    CSpec w KK os d (.builtin "str.__add__" ⟨[sv s t, sv r u], []⟩) [] 0 (fun x => rOk (sv (s ++ r) (x.a 0))) (fun _ => []) (fun _ => []) := by
  refine CSpec.meets F.entry_str_add (by decide +kernel) (gives_str_add ⟨s.toArray⟩ ⟨r.toArray⟩ t u).meets fun A Q h' dr tk hA hQ => ?_
  have ha := fun k dr' tk' => hQ ⟨fun _ => k, fun _ => default, fun _ => .none⟩ h' dr' tk' (After.same hA)
  by_cases h1 : ((⟨s.toArray⟩ : Str).length == 0) = true
  · rw [if_pos h1]
    have : s = [] := by
      have : s.length = 0 := by simpa [Str.length] using h1
      exact List.length_eq_zero_iff.mp this
    subst this
    exact ha u dr tk
  · rw [if_neg h1]
    by_cases h3 : ((⟨r.toArray⟩ : Str).length == 0) = true
    · rw [if_pos h3]
      have : r = [] := by
        have : r.length = 0 := by simpa [Str.length] using h3
        exact List.length_eq_zero_iff.mp this
      subst this
      have z := ha t dr tk
      rw [List.append_nil] at z
      exact z
    · rw [if_neg h3]
      have e : (⟨s.toArray⟩ : Str) ++ (⟨r.toArray⟩ : Str) = ⟨(s ++ r).toArray⟩ := by
        show Str.mk (s.toArray ++ r.toArray) = _
        simp
      rw [e]
      refine ⟨?_, ha (tk + 1) dr (tk + 1)⟩
      show (s ++ r).toArray.size ≤ sizeLine
      rw [sizeLine_eq]
      simp
      omega
end
end Mine
end
section
open PySem PySem.Spec PySem.Calls PyProof.Rows PySem.W PySem.W.X
set_option maxRecDepth 100000
namespace Mine
noncomputable abbrev siO (ds : List Nat) (t i : Nat) : Obj := ⟨.type "str_ascii_iterator", none, .fields #[sv ds t, .int i 0], #[]⟩
noncomputable abbrev siE (i : Nat) : Obj := ⟨.type "str_ascii_iterator", none, .fields #[.none, .int i 0], #[]⟩
section
variable {w : World} {os : OsState} {KK : Nat → Option Obj} {d : Nat}
theorem get_push {k : Heap} {ob : Obj} {b : Nat} (hk : b < k.objs.size) : (k.push ob).get? b = k.get? b := by
  cases q : k.get? b with
  | some o' => exact Heap.get?_push_of_some _ q
  | none =>
    cases q' : (k.push ob).get? b with
    | none => rfl
    | some o' =>
      exfalso
      have h1 := (Heap.get?_some_iff.mp q')
      have : k.get? b = some o' := Heap.get?_some_iff.mpr ⟨by
        have h2 := h1.1
        cases k
        simp only [Heap.push, Array.getElem?_push] at h2
        have hs : b ≠ _ := Nat.ne_of_lt hk
        rw [if_neg hs] at h2
        exact h2, h1.2⟩
      rw [q] at this; cases this
theorem After.push1 {h h' : Heap} {ins : List (Nat × Obj)} {x : X} {outs : List Obj} {o₁ : Obj} (hA : After KK h ins x 0 outs [] h') (h₁ : o₁.isFreed = false) :
    After KK h ins ⟨fun j => h'.objs.size + j, fun _ => default, fun _ => .none⟩ 1 outs [o₁] (h'.push o₁) := by
  have g : ∀ {b o}, h'.get? b = some o → (h'.push o₁).get? b = some o := fun e => Heap.get?_push_of_some _ e
  refine ⟨fun b ob hb => g (hA.good b ob hb), by rw [Heap.size_push]; have := hA.size; omega, fun b hb hn => ?_, hA.len, fun j b ob hb hob => g (hA.upd j b ob hb hob), rfl, ?_, ?_, ?_⟩
  · rw [get_push (Nat.lt_of_lt_of_le hb hA.size)]
    exact hA.frame b hb hn
  · intro j ob hob
    match j with
    | 0 =>
      simp only [List.getElem?_cons_zero, Option.some.injEq] at hob
      subst hob
      exact Heap.get?_push_size _ h₁
    | j + 1 => simp at hob
  · intro j hj; have := hA.size; show _ ≤ h'.objs.size + j; omega
  · intro j k _ _ e
    have e' : h'.objs.size + j = h'.objs.size + k := e
    omega
theorem sIter {ds : List Nat} {t : Nat} (hd' : ∀ c ∈ ds, c < 128) :
    CSpec w KK os d (.builtin "str.__iter__" ⟨[sv ds t], []⟩) [] 1 (fun x => rOk (.ref (x.a 0))) (fun _ => []) (fun _ => [siO ds t 0]) := by
  intro B Q h dr tk hd hh hA hQ
  refine codeAny_builtin F.entry_str_iter ?_
  rw [Around.under_plainId (by decide +kernel)]
  have hall : (⟨ds.toArray⟩ : Str).cps.all (fun c => decide (c < 128)) = true := by
    simp only [List.all_toArray, List.all_eq_true, decide_eq_true_eq]
    exact hd'
  show wpAny _ _ (newFields (if (Builtin.Str.isExactStr (sv ds t) && (⟨ds.toArray⟩ : Str).cps.all (fun c => decide (c < 128))) = true then "str_ascii_iterator" else "str_iterator") [sv ds t, rawInt 0] >>= _) _ _ _
  rw [hall]
  show wpAny _ _ (newFields "str_ascii_iterator" [sv ds t, rawInt 0] >>= _) _ _ _
  refine wpAny_bind ?_
  unfold newFields
  refine wpAny_newObj_type ?_ (by size_fits)
  have z := hQ _ _ dr tk (After.push1 (o₁ := siO ds t 0) (After.same hA (x := ⟨fun _ => 0, fun _ => default, fun _ => .none⟩)) rfl)
  exact wpAny_pure z
theorem sNext {it i t : Nat} {ds : List Nat} {c : Nat} (hv : ds[i]? = some c) :
    CSpec w KK os d (.builtin "str_ascii_iterator.__next__" ⟨[.ref it], []⟩) [(it, siO ds t i)] 0 (fun x => rOk (sv [c] (x.a 0))) (fun _ => [siO ds t (i + 1)]) (fun _ => []) := by
  intro B Q h dr tk hd hh hA hQ
  refine codeAny_builtin F.entry_str_ascii_iterator_next ?_
  rw [Around.under_plainId (by decide +kernel)]
  show wpAny _ _ (field (.ref it) 0 >>= _) _ _ _
  refine wpAny_bind (wpAny_field hA.get1 rfl (x := sv ds t) rfl ?_)
  show wpAny _ _ (if (sv ds t == Value.none) = true then _ else _) _ _ _
  rw [if_neg (show ¬ ((sv ds t == Value.none) = true) from Bool.false_ne_true)]
  show wpAny _ _ (field (.ref it) 1 >>= _) _ _ _
  refine wpAny_bind (wpAny_field hA.get1 rfl (x := .int i 0) rfl ?_)
  have hv' : (⟨ds.toArray⟩ : Str).cps[i]? = some c := by simpa using hv
  simp only [Int.toNat_natCast, hv']
  refine wpAny_bind (wpAny_setField hA.get1 rfl (by simp) ?_)
  refine wpAny_bind (wpAny_mkStr (wpAny_pure ?_) (by show 1 ≤ sizeLine; rw [sizeLine_eq]; omega))
  exact hQ ⟨fun _ => tk + 1, fun _ => default, fun _ => .none⟩ _ dr (tk + 1) (After.upd1 hA rfl rfl)
theorem sNextE {it i t : Nat} {ds : List Nat} (hv : ds[i]? = none) :
    CSpec w KK os d (.builtin "str_ascii_iterator.__next__" ⟨[.ref it], []⟩) [(it, siO ds t i)] 2 (fun x => .error (.ref (x.a 1))) (fun _ => [siE i]) (fun x => [⟨.type "tuple", none, .seq #[] 0, #[]⟩, stopO (x.a 0)]) := by
  intro B Q h dr tk hd hh hA hQ
  refine codeAny_builtin F.entry_str_ascii_iterator_next ?_
  show wpAny _ _ (field (.ref it) 0 >>= _) _ _ _
  refine wpAny_bind (wpAny_field hA.get1 rfl (x := sv ds t) rfl ?_)
  show wpAny _ _ (if (sv ds t == Value.none) = true then _ else _) _ _ _
  rw [if_neg (show ¬ ((sv ds t == Value.none) = true) from Bool.false_ne_true)]
  show wpAny _ _ (field (.ref it) 1 >>= _) _ _ _
  refine wpAny_bind (wpAny_field hA.get1 rfl (x := .int i 0) rfl ?_)
  have hv' : (⟨ds.toArray⟩ : Str).cps[i]? = none := by simpa using hv
  simp only [Int.toNat_natCast, hv']
  refine wpAny_bind (wpAny_rule (wpAny_bind (wpAny_setField hA.get1 rfl (by simp) ?_)))
  show wpAny _ _ (letGo [sv ds t] >>= _) _ _ _
  refine wpAny_bind (wpAny_letGo ?_)
  show wpAny _ _ (newExc (.type "StopIteration") [] >>= _) _ _ _
  refine wpAny_bind ?_
  simp only [newExc, newTuple]
  refine wpAny_bind (wpAny_newObj_type ?_ (by size_fits))
  refine wpAny_bind (m := firstArgMember _ _) (wpAny_of_eq (a := Value.none) (by first | rfl | (simp only [firstArgMember]; rfl)) ?_)
  refine wpAny_newObj_type ?_ (by size_fits)
  simp only [raiseNew]
  refine wpAny_bind (wpAny_handled ?_)
  rw [show (B.under _).handled = none from hh]
  refine wpAny_bind (wpAny_pure (wpAny_throw ?_))
  have hx := After.push2 (o₁ := ⟨.type "tuple", none, .seq #[] 0, #[]⟩) (o₂ := stopO ((h.update it fun o => o.mapFields fun fs => fs.set! 0 .none).objs.size + 0)) (After.upd1 (x := ⟨fun _ => 0, fun _ => default, fun _ => .none⟩) (o' := siE i) (f := fun o => o.mapFields fun fs => fs.set! 0 .none) hA rfl rfl) rfl rfl
  have hz := hQ ⟨fun j => (h.update it fun o => o.mapFields fun fs => fs.set! 0 .none).objs.size + j, fun _ => default, fun _ => .none⟩ _ dr tk hx
  rw [Heap.size_push]
  exact hz
/-- texts joined -/
theorem joinL {a t n : Nat} {sep : Str} {l : List (Str × Nat)} {r : List Nat} (hl : Builtin.Str.tooLong ((l.map (·.1)).toArray.foldl (· + ·.length + sep.length) 0) = false) (hr : Builtin.Str.glued sep (l.map (·.1)) = ⟨r.toArray⟩) (hn : r.length ≤ 1000) :
    CSpec w KK os d (.builtin "str.join" ⟨[.str sep t, .ref a], []⟩) [(a, lsO (strValues l) n)] 0 (fun x => rOk (sv r (x.a 0))) (fun _ => [lsO (strValues l) n]) (fun _ => []) := by
  intro B Q h dr tk hd hh hA hQ
  refine codeAny_builtin F.entry_str_join ?_
  rw [Around.under_plainId (by decide +kernel)]
  obtain ⟨other, htree⟩ := join_tree sep t a
  rw [htree]
  have hT : (⟨h, #[], dr, tk + 1, os⟩ : Shared).TypeIs (.ref a) "list" := ⟨_, hA.get1, rfl⟩
  refine wpAny_bind (wpAny_typeOf hT ?_)
  show wpAny _ _ (seqItems? (.ref a) >>= _) _ _ _
  refine wpAny_bind (wpAny_seqItems hA.get1 rfl ?_)
  have g := gives_joinTail sep l hl
  have hz := fun k tk' => hQ ⟨fun _ => k, fun _ => default, fun _ => .none⟩ h dr tk' (After.same1 hA)
  refine wpAny_mono (g _ w B (fun r s' => Q r s') _ ?_) (fun fin s' h' => h') fun _ _ e => e
  match l, hr with
  | [], hr =>
    refine ⟨?_, ?_⟩
    · rw [hr]; show r.toArray.size ≤ sizeLine; rw [sizeLine_eq]; simp; omega
    · rw [hr]; exact hz _ _
  | [p], hr =>
    have : p.1 = ⟨r.toArray⟩ := by rw [← hr]; simp [Builtin.Str.glued]
    show Q (.ok (.ret (.str p.1 p.2))) _
    rw [this]; exact hz _ _
  | p :: q :: l', hr =>
    refine ⟨?_, ?_⟩
    · rw [hr]; show r.toArray.size ≤ sizeLine; rw [sizeLine_eq]; simp; omega
    · rw [hr]; exact hz _ _
end
end Mine
end
section
open PySem PySem.Spec PySem.Calls PyProof.Rows PySem.W PySem.W.X
set_option maxRecDepth 100000
namespace Mine
section
variable {w : World} {os : OsState} {KK : Nat → Option Obj} {d : Nat}
theorem intT {s : Str} {t : Nat} {N : Int} (hl : s.length ≤ 640) (hn : PySem.intText? s = some N) :
    CSpec w KK os d (.builtin "int.__new__" ⟨[.type "int", .str s t], []⟩) [] 0 (fun x => rOk (.int N (x.a 0))) (fun _ => []) (fun _ => []) :=
  CSpec.gint F.entry_int_new (by decide +kernel) (PySem.W.KIN.gives_text hl hn)
end
end Mine
end
section
open PySem PySem.Spec PySem.Calls PyProof.Rows PySem.W PySem.W.X
set_option maxRecDepth 100000
namespace Mine
section
variable {w : World} {os : OsState} {KK : Nat → Option Obj} {d : Nat}
theorem rsE {a s c u v : Nat} (h : a / 2 ^ s = c) :
    CSpec w KK os d (.builtin "int.__rshift__" ⟨[.int (Int.ofNat a) u, .int (Int.ofNat s) v], []⟩) [] 0 (fun x => rOk (.int (Int.ofNat c) (x.a 0))) (fun _ => []) (fun _ => []) := by
  by_cases hb : (Int.ofNat s : Int) ≥ ((Builtin.Int.intBits (Int.ofNat a) : Nat) : Int)
  · have e : (if (Int.ofNat a : Int) < 0 then (-1 : Int) else 0) = Int.ofNat c := by
      rw [if_neg (by simp)]
      have hlt : a < 2 ^ s := by
        by_cases ha : a = 0
        · subst ha; exact Nat.pow_pos (by decide)
        · have hb' : Builtin.Int.intBits (Int.ofNat a) ≤ s := by simpa using hb
          have : Builtin.Int.intBits (Int.ofNat a) = a.log2 + 1 := by
            unfold Builtin.Int.intBits
            rw [if_neg (by simpa using ha)]
            rfl
          rw [this] at hb'
          exact Nat.lt_of_lt_of_le (Nat.lt_log2_self) (Nat.pow_le_pow_right (by decide) hb')
      rw [← h, Nat.div_eq_of_lt hlt]; rfl
    rw [← e]
    exact CSpec.gint F.entry_int_rshift (by decide +kernel) (AutoIntG9.int___rshift___int_int_1 _ _ _ _ (by simp) hb)
  · have e : (Int.ofNat a).fdiv (2 ^ (Int.ofNat s).toNat) = Int.ofNat c := by
      have : ((2 : Int) ^ (Int.ofNat s).toNat) = Int.ofNat (2 ^ s) := by simp
      rw [this, ← h]
      cases a with
      | zero => simp [Int.fdiv]
      | succ a => rfl
    rw [← e]
    exact CSpec.gint F.entry_int_rshift (by decide +kernel) (AutoIntG0.int___rshift___int_int_2 _ _ _ _ (by simp) hb)
theorem subE {a b c u v : Nat} (h : b + c = a) :
    CSpec w KK os d (.builtin "int.__sub__" ⟨[.int (Int.ofNat a) u, .int (Int.ofNat b) v], []⟩) [] 0 (fun x => rOk (.int (Int.ofNat c) (x.a 0))) (fun _ => []) (fun _ => []) := by
  have e : Int.ofNat a - Int.ofNat b = Int.ofNat c := by
    simp only [Int.ofNat_eq_natCast]; omega
  rw [← e]
  exact CSpec.gint F.entry_int_sub (by decide +kernel) (gives_int_sub _ _ _ _)
theorem gives_lshift (a : Int) (t : Tok) (b : Int) (u : Tok) (h0 : ¬ b < 0) (h1 : ¬ (a == 0) = true) (h2 : ¬ (((Builtin.Int.intBits a : Nat) : Int) + 29) / 30 + b / 30 + (if (b % 30 == 0) = true then 0 else 1) > Builtin.maxDigits) (h3 : ¬ Builtin.Int.intTooBig (((Builtin.Int.intBits a : Nat) : Int) + b) = true) :
    Gives (Builtin.«int.__lshift__» ⟨[.int a t, .int b u], []⟩) (.int (a * 2 ^ b.toNat)) :=
  .of_wp fun M A E s Q h => by obtain ⟨hp, g, d, tk, os⟩ := s; wp_walk
                               refine (show wpAny M A (if _ then _ else _) _ _ _ from ?_)
                               rw [if_neg h2]
                               refine (show wpAny M A (if _ then _ else _) _ _ _ from ?_)
                               rw [if_neg h3]
                               exact wpAny_bind (wpAny_mkInt (wpAny_pure ⟨_, rfl, h⟩))
theorem lsE {a s c u v : Nat} (h : a * 2 ^ s = c) (ha : a < 2 ^ 60) (hs : s < 60) :
    CSpec w KK os d (.builtin "int.__lshift__" ⟨[.int (Int.ofNat a) u, .int (Int.ofNat s) v], []⟩) [] 0 (fun x => rOk (.int (Int.ofNat c) (x.a 0))) (fun _ => []) (fun _ => []) := by
  by_cases h0 : a = 0
  · subst h0
    have : c = 0 := by omega
    subst this
    exact CSpec.gint F.entry_int_lshift (by decide +kernel) (AutoIntG6.int___lshift___int_int_1 _ _ _ _ (by simp) (by simp))
  · have e : Int.ofNat a * 2 ^ (Int.ofNat s).toNat = Int.ofNat c := by
      rw [← h]; simp
    rw [← e]
    have hb := bits_of ha (by decide)
    refine CSpec.gint F.entry_int_lshift (by decide +kernel) (gives_lshift _ _ _ _ (by simp) (by simpa using h0) ?_ ?_)
    · unfold Builtin.maxDigits
      have h1 : (((Builtin.Int.intBits (Int.ofNat a) : Nat) : Int) + 29) / 30 ≤ 3 := by omega
      have h2 : (Int.ofNat s : Int) / 30 ≤ 2 := by simp only [Int.ofNat_eq_natCast]; omega
      have h3 : (if ((Int.ofNat s : Int) % 30 == 0) = true then (0 : Int) else 1) ≤ 1 := by split <;> omega
      omega
    · unfold Builtin.Int.intTooBig
      have : bitsLine ≥ 100000 := by unfold bitsLine; decide
      simp only [decide_eq_true_eq, Int.ofNat_eq_natCast] at hb ⊢
      omega
theorem xorE {a b c u v : Nat} (h : Builtin.bitXor (Int.ofNat a) (Int.ofNat b) = Int.ofNat c) :
    CSpec w KK os d (.builtin "int.__xor__" ⟨[.int (Int.ofNat a) u, .int (Int.ofNat b) v], []⟩) [] 0 (fun x => rOk (.int (Int.ofNat c) (x.a 0))) (fun _ => []) (fun _ => []) := by
  rw [← h]
  exact CSpec.gint F.entry_int_xor (by decide +kernel) (.of_eq rfl)
theorem blE {a u : Nat} {c : Nat} (h : Builtin.Int.intBits (Int.ofNat a) = c) :
    CSpec w KK os d (.builtin "int.bit_length" ⟨[.int (Int.ofNat a) u], []⟩) [] 0 (fun x => rOk (.int (Int.ofNat c) (x.a 0))) (fun _ => []) (fun _ => []) := by
  rw [← h]
  exact CSpec.gint F.entry_int_bit_length (by decide +kernel) (AutoIntG2.int_bit_length_int_0 _ _)
end
end Mine
end
section
open PySem PySem.Spec PySem.Calls PyProof.Rows PySem.W PySem.W.X
set_option maxRecDepth 100000
namespace Mine
noncomputable def DL (g : List Nat) (tk : Nat → Nat) : List Value := mapI (fun i v => .int (Int.ofNat v) (tk i)) 0 g
noncomputable def updT (tk : Nat → Nat) (i t : Nat) : Nat → Nat := fun j => if j = i then t else tk j
theorem mapI_get {α β : Type} {f : Nat → α → β} : ∀ {l : List α} {i j : Nat}, (mapI f i l)[j]? = (l[j]?).map (f (i + j))
  | [], _, _ => by simp [mapI]
  | a :: l, i, 0 => by simp [mapI]
  | a :: l, i, j + 1 => by
    simp only [mapI, List.getElem?_cons_succ]
    rw [mapI_get, show i + 1 + j = i + (j + 1) by omega]
theorem mapI_length {α β : Type} {f : Nat → α → β} : ∀ {l : List α} {i : Nat}, (mapI f i l).length = l.length
  | [], _ => rfl
  | _ :: l, i => by simp [mapI, mapI_length (l := l)]
theorem DL_set {g : List Nat} {tk : Nat → Nat} {i t v : Nat} : (DL g tk).set i (.int (Int.ofNat v) t) = DL (g.set i v) (updT tk i t) := by
  apply List.ext_getElem?
  intro j
  rw [List.getElem?_set]
  unfold DL
  rw [mapI_get, mapI_get, List.getElem?_set, mapI_length]
  by_cases h : i = j
  · subst h
    simp only [if_true]
    by_cases hl : i < g.length
    · simp [hl, updT]
    · simp [hl]
  · simp only [if_neg h]
    cases g[j]? with
    | none => rfl
    | some a =>
      simp [updT, Ne.symm h]
section
variable {w : World} {os : OsState} {KK : Nat → Option Obj} {d : Nat}
theorem setD {l i u t v : Nat} {g : List Nat} {tk : Nat → Nat} {n : Nat} (hn : i < g.length) (hg : g.length ≤ 100) :
    CSpec w KK os d (.builtin "list.__setitem__" ⟨[.ref l, .int (Int.ofNat i) u, .int (Int.ofNat v) t], []⟩) [(l, lsO (DL g tk) n)] 0 (fun _ => rOk .none) (fun _ => [lsO (DL (g.set i v) (updT tk i t)) n]) (fun _ => []) := by
  rw [← DL_set]
  exact setK (Int.natCast_nonneg i) (Int.ofNat_lt.mpr (show i < 2 ^ 63 by omega)) (by
    show (Int.ofNat i) < (((DL g tk).length : Nat) : Int)
    rw [show (DL g tk).length = g.length from mapI_length]
    exact Int.ofNat_lt.mpr hn)
theorem lenD {l n k : Nat} {g : List Nat} {tk : Nat → Nat} (hk : g.length = k) (hx : k ≤ 1000) :
    CSpec w KK os d (.builtin "len" ⟨[.ref l], []⟩) [(l, lsO (DL g tk) n)] 0 (fun x => rOk (.int (Int.ofNat k) (x.a 0))) (fun _ => [lsO (DL g tk) n]) (fun _ => []) :=
  lenL (show (DL g tk).length = k by rw [show (DL g tk).length = g.length from mapI_length, hk]) hx
end
end Mine
end
section
open PySem PySem.Spec PySem.Calls PyProof.Rows PySem.W PySem.W.X
set_option maxRecDepth 100000
namespace Mine
/-! trees whose comparisons of two objects do not ask the stack -/
noncomputable def unroom {α : Type} (t : Sem α) : Sem α := match t with
  | .stack k => k []
  | t => t
noncomputable def Le {α : Type} (t' t : Sem α) : Prop := ∀ (w : World) (Γ : PySem.Ctx) (Q : α → Pos → Shared → Prop) (E : Value → Pos → Shared → Prop) (p : Pos) (s : Shared), Γ.units < cLine → Sem.wp (MO w) Γ t' Q E p s → Sem.wp (MO w) Γ t Q E p s
theorem Le.refl {α : Type} (t : Sem α) : Le t t := fun _ _ _ _ _ _ _ h => h
theorem wp_mono' {α : Type} {w : World} {Γ : PySem.Ctx} {t : Sem α} {Q Q' : α → Pos → Shared → Prop} {E : Value → Pos → Shared → Prop} {p : Pos} {s : Shared} (h : Sem.wp (MO w) Γ t Q E p s) (hq : ∀ a p' s', Q a p' s' → Q' a p' s') : Sem.wp (MO w) Γ t Q' E p s :=
  Sem.wp_mono _ _ _ hq (fun _ _ _ e => e) _ _ h
theorem Le.bind {α β : Type} {m' m : Sem α} {f' f : α → Sem β} (hm : Le m' m) (hf : ∀ a, Le (f' a) (f a)) : Le (m'.bind f') (m.bind f) := by
  intro w Γ Q E p s hu h
  rw [Sem.wp_bind] at h ⊢
  exact hm w Γ _ _ p s hu (wp_mono' h fun a p' s' h' => hf a w Γ Q E p' s' hu h')
theorem Le.onRaise {α : Type} {m' m : Sem α} {h : Value → Sem Unit} (hm : Le m' m) : Le (m'.onRaise h) (m.onRaise h) := by
  intro w Γ Q E p s hu hh
  rw [Sem.wp_onRaise] at hh ⊢
  exact hm w Γ _ _ p s hu hh
theorem Le.holding {α : Type} {m' m : Sem α} {vs : List Value} (hm : Le m' m) : Le (holding vs m') (holding vs m) := by
  intro w Γ Q E p s hu hh
  rw [Sem.wp_holding] at hh ⊢
  exact hm w Γ _ _ p s hu hh
theorem Le.rich {op : CmpOp} {a b : Addr} : Le (unroom (richCompare op (.ref a) (.ref b))) (richCompare op (.ref a) (.ref b)) := by
  intro w Γ Q E p s hu h
  unfold richCompare at h ⊢
  rw [Sem.wp_holding, Sem.wp_bind', Sem.wp_cRoomFor_onHeap _ rfl]
  refine ⟨hu, ?_⟩
  change Sem.wp _ _ (Sem.keep _ _) _ _ _ _ at h
  rw [Sem.wp_keep] at h
  exact h
/-- == of what two expressions give, where both are objects -/
noncomputable def cmpU (x y : Value) : Sem Value := match x, y with
  | .ref a, .ref b => unroom (richCompare .Eq (.ref a) (.ref b))
  | x, y => compareOp .Eq x y
theorem Le.cmp {x y : Value} : Le (cmpU x y) (compareOp .Eq x y) := by
  unfold cmpU
  split
  · exact Le.rich
  · exact Le.refl _
noncomputable def evU (l r : Expr) (pos : Pos) (env : Env) : Sem Value := do
  let lv ← eval l env
  let rv ← holding [lv] (eval r env)
  standAt pos
  operate [lv, rv] (cmpU lv rv)
theorem Le.operate {vs : List Value} {m' m : Sem Value} (hm : Le m' m) : Le (operate vs m') (operate vs m) :=
  Le.bind (Le.holding hm) fun _ => Le.refl _
theorem marked_eq {r : Expr} {env : Env} (hr : behindInMarks .Eq r = false) : markedEach [.Eq] [r] (evalEach [r] env) = [eval r env] := by
  show [markedBehindIn .Eq r (eval r env)] = _
  unfold markedBehindIn
  rw [hr]
theorem Le.ev {l r : Expr} {pos : Pos} {env : Env} (hr : behindInMarks .Eq r = false) : Le (evU l r pos env) (eval (.Compare l [.Eq] [r] pos) env) := by
  rw [show eval (.Compare l [.Eq] [r] pos) env = (eval l env).bind fun lv => compareChain pos lv [.Eq] (markedEach [.Eq] [r] (evalEach [r] env)) from by with_unfolding_all rfl]
  refine Le.bind (Le.refl _) fun lv => ?_
  rw [marked_eq hr]
  show Le _ (compareChain pos lv [.Eq] [eval r env])
  refine Le.bind (Le.holding (Le.refl _)) fun rv => Le.bind (Le.refl _) fun _ => ?_
  exact Le.operate Le.cmp
noncomputable def isTU (l r : Expr) (pos : Pos) (env : Env) : Sem Bool := do
  let lv ← eval l env
  let rv ← holding [lv] (eval r env)
  standAt pos
  let c ← operate [lv, rv] (cmpU lv rv)
  holding [c] (truthy c)
theorem Le.isT {l r : Expr} {pos : Pos} {env : Env} {m : Sem Value} (hr : behindInMarks .Eq r = false) : Le (isTU l r pos env) (PySem.isTrue (.Compare l [.Eq] [r] pos) env m) := by
  rw [show PySem.isTrue (.Compare l [.Eq] [r] pos) env m = (eval l env).bind fun lv => testChain pos lv [.Eq] (markedEach [.Eq] [r] (evalEach [r] env)) from by with_unfolding_all rfl]
  refine Le.bind (Le.refl _) fun lv => ?_
  rw [marked_eq hr]
  show Le _ (testChain pos lv [.Eq] [eval r env])
  refine Le.bind (Le.holding (Le.refl _)) fun rv => Le.bind (Le.refl _) fun _ => Le.bind (Le.operate Le.cmp) fun c => Le.refl _
/-- the statements, and then a last thing -/
noncomputable def execsL : List Stmt → Env → Sem Flow → Sem Flow
  | [], _, last => last
  | s :: r, env, last => do
    match ← exec s env with
    | .next => execsL r env last
    | f => pure f
theorem Le.execs {pre post : List Stmt} {env : Env} {last : Sem Flow} (h : Le last (execs post env)) : Le (execsL pre env last) (PySem.execs (pre ++ post) env) := by
  induction pre with
  | nil => exact h
  | cons s r ih =>
    rw [show PySem.execs (s :: r ++ post) env = (exec s env).bind fun f => match f with
      | .next => PySem.execs (r ++ post) env
      | f => pure f from by with_unfolding_all rfl]
    refine Le.bind (Le.refl _) fun f => ?_
    cases f <;> first | exact ih | exact Le.refl _
inductive LeL : List (Sem Value) → List (Sem Value) → Prop
  | nil : LeL [] []
  | cons {x' x : Sem Value} {r' r : List (Sem Value)} : Le x' x → LeL r' r → LeL (x' :: r') (x :: r)
theorem Le.boolOp {pos : Pos} {op : BoolOp} : ∀ {ms' ms : List (Sem Value)}, LeL ms' ms → Le (boolOp pos op ms') (boolOp pos op ms)
  | _, _, .nil => Le.refl _
  | _, _, .cons h .nil => h
  | _, _, .cons h (.cons h2 h3) => by
    refine Le.bind h fun v => Le.bind (Le.refl _) fun _ => Le.bind (Le.refl _) fun t => ?_
    have ih := Le.boolOp (pos := pos) (op := op) (.cons h2 h3)
    cases op <;> cases t <;> first | exact ih | exact Le.refl _
/-- a tree put for another -/
theorem CSpec.le {w : World} {KK : Nat → Option Obj} {os : OsState} {d : Nat} {c : Code} {t : Sem Fin} {ins : List (Nat × Obj)} {n : Nat} {r : X → PySem.Result} {outs news : X → List Obj}
    (hd : d ≤ 990) (hc : c.cUnits ≤ 10) (hl : Le t (denote table c)) (h : TSpec w KK os d c t ins n r outs news) : CSpec w KK os d c ins n r outs news := by
  intro B Q hp dr tk hB hh hA hQ
  refine y_code _ _ _ _ _ _ ?_
  intro Γ p hΓ hb
  refine hl w Γ _ _ p _ ?_ (h B Q hp dr tk hB hh hA hQ Γ p hΓ hb)
  have h1 := hb.2.2.2.2
  have h2 := hB.2
  have h3 : cLine = 9900 := rfl
  unfold Ctx.units
  rw [hΓ]
  omega
end Mine
end
section
open PySem PySem.Spec PySem.Calls PyProof.Rows PySem.W PySem.W.X
set_option maxRecDepth 100000
namespace Mine
theorem Le.bindOpt {α β : Type} {m' m : Sem (Option α)} {f : Option α → Sem β} {n' : Sem β} {s' : α → Sem β} (hm : Le m' m) (hn : Le n' (f none)) (hs : ∀ v, Le (s' v) (f (some v))) : Le (m'.bind fun o => match o with
    | none => n'
    | some v => s' v) (m.bind f) :=
  Le.bind hm fun o => by cases o with
    | none => exact hn
    | some v => exact hs v
theorem Le.exIf {test : Expr} {body orelse : List Stmt} {pos : Pos} {env : Env} {T' : Sem Bool} {B' : Sem Flow} (hT : Le T' (PySem.isTrue test env (eval test env))) (hB : Le B' (PySem.execs body env)) :
    Le ((standAt pos).bind fun _ => T'.bind fun b => match b with
      | true => B'
      | false => PySem.execs orelse env) (exec (.If test body orelse pos) env) := by
  rw [show exec (.If test body orelse pos) env = (standAt pos).bind fun _ => (PySem.isTrue test env (eval test env)).bind fun b => if b = true then PySem.execs body env else PySem.execs orelse env from by with_unfolding_all rfl]
  refine Le.bind (Le.refl _) fun _ => Le.bind hT fun b => ?_
  cases b with
  | true => exact hB
  | false => exact Le.refl _
theorem Le.exec1 {s : Stmt} {env : Env} {E' : Sem Flow} (h : Le E' (exec s env)) : Le (E'.bind fun f => match f with
    | .next => PySem.execs [] env
    | f => pure f) (PySem.execs [s] env) := by
  rw [show PySem.execs [s] env = (exec s env).bind fun f => match f with
    | .next => PySem.execs [] env
    | f => pure f from by with_unfolding_all rfl]
  exact Le.bind h fun _ => Le.refl _
/-- a for with another body -/
noncomputable def forU (t : Expr) (it : Value) (body orelse : List Stmt) (env : Env) (B' : Sem Flow) : {T : Sem Fin // Le B' (PySem.execs body env) → Le T (denote table (.forLoop t it body orelse env))} := by
  exact ⟨_, fun h => (Le.onRaise (m := forTurn t it body orelse env) (Le.bind (Le.refl _) fun _ => Le.bindOpt (Le.refl _) (Le.refl _) fun v => Le.bind (Le.refl _) fun _ => Le.bind (Le.refl _) fun _ => Le.bind h fun _ => Le.refl _) : Le _ (Sem.onRaise (forTurn t it body orelse env) _))⟩
end Mine
namespace Mine
noncomputable def nS (w : World) (f : Nat) (p : List Nat) : Stmt := withFd w f default fun fd => match fd.body with
  | .stmts b => (match stAt b p with
    | some s => s
    | none => default)
  | _ => default
noncomputable def nE (w : World) (f fr : Nat) (cells : List (Str × Nat)) : Env := withFd w f default fun fd => envC fd f fr cells
noncomputable def sForT : Stmt → Expr
  | .For t _ _ _ _ => t
  | _ => default
noncomputable def sIfT : Stmt → Expr
  | .If t _ _ _ => t
  | _ => default
noncomputable def sIfB : Stmt → List Stmt
  | .If _ b _ _ => b
  | _ => []
noncomputable def sIfP : Stmt → Pos
  | .If _ _ _ p => p
  | _ => default
noncomputable def eCL : Expr → Expr
  | .Compare l _ _ _ => l
  | e => e
noncomputable def eCR : Expr → Expr
  | .Compare _ _ (r :: _) _ => r
  | e => e
noncomputable def eCP : Expr → Pos
  | .Compare _ _ _ p => p
  | _ => default
noncomputable abbrev farC (w : World) (it fr : Nat) (cells : List (Str × Nat)) : Code :=
  .forLoop (sForT (nS w 154 [1])) (.ref it) [.If (sIfT (nS w 154 [1, 0])) [.If (.Compare (eCL (sIfT (nS w 154 [1, 0, 0]))) [.Eq] [eCR (sIfT (nS w 154 [1, 0, 0]))] (eCP (sIfT (nS w 154 [1, 0, 0])))) (sIfB (nS w 154 [1, 0, 0])) [] (sIfP (nS w 154 [1, 0, 0]))] [] (sIfP (nS w 154 [1, 0]))] [] (nE w 154 fr cells)
theorem far_eq (w : World) (it fr : Nat) (cells : List (Str × Nat)) : forCC w 154 [1] it fr cells = farC w it fr cells := by kernel_rfl
theorem far_hr (w : World) : behindInMarks .Eq (eCR (sIfT (nS w 154 [1, 0, 0]))) = false := by kernel_rfl
noncomputable def farT (w : World) (it fr : Nat) (cells : List (Str × Nat)) : {T : Sem Fin // Le T (denote table (farC w it fr cells))} :=
  ⟨_, (forU _ _ _ _ _ _).2 (Le.exec1 (Le.exIf (Le.refl _) (Le.exec1 (Le.exIf (Le.isT (far_hr w)) (Le.refl _)))))⟩
theorem far_le {w : World} {os : OsState} {d : Nat} {it fr : Nat} {cells : List (Str × Nat)} {ins : List (Nat × Obj)} {n : Nat} {r : X → PySem.Result} {outs news : X → List Obj} (hd : d ≤ 990)
    (h : TS w os d (forCC w 154 [1] it fr cells) (farT w it fr cells).1 ins n r outs news) : CS w os d (forCC w 154 [1] it fr cells) ins n r outs news := by
  rw [far_eq] at h ⊢
  exact CSpec.le hd (by simp [Code.cUnits, Code.frames, Code.isFrame]) (farT w it fr cells).2 h
end Mine
end
section
open PySem PySem.Spec PySem.Calls PyProof.Rows PySem.W PySem.W.X
set_option maxRecDepth 100000
namespace Mine
section
variable {w : World} {os : OsState} {KK : Nat → Option Obj} {d : Nat}
theorem addZ {a b c : Int} {u v : Nat} (h : a + b = c) :
    CSpec w KK os d (.builtin "int.__add__" ⟨[.int a u, .int b v], []⟩) [] 0 (fun x => rOk (.int c (x.a 0))) (fun _ => []) (fun _ => []) := by
  subst h
  exact CSpec.gint F.entry_int_add (by decide +kernel) (gives_int_add _ _ _ _)
theorem mulZ {a b c : Int} {u v : Nat} (h : a * b = c) (hb : Builtin.Int.intBits a ≤ 64) :
    CSpec w KK os d (.builtin "int.__mul__" ⟨[.int a u, .int b v], []⟩) [] 0 (fun x => rOk (.int c (x.a 0))) (fun _ => []) (fun _ => []) := by
  subst h
  exact CSpec.gint F.entry_int_mul (by decide +kernel) (gives_int_mul _ _ _ _ (IntMulOk.of_left hb))
theorem modZ {a b c : Int} {u v : Nat} (h : a.fmod b = c) (hb : ¬(b == 0) = true) :
    CSpec w KK os d (.builtin "int.__mod__" ⟨[.int a u, .int b v], []⟩) [] 0 (fun x => rOk (.int c (x.a 0))) (fun _ => []) (fun _ => []) := by
  subst h
  exact CSpec.gint F.entry_int_mod (by decide +kernel) (gives_mod _ _ _ _ hb)
theorem fdZ {a c : Int} {b u v : Nat} (h : a.fdiv (Int.ofNat b) = c) (h0 : 0 < b) (hb : b < 2 ^ 60) :
    CSpec w KK os d (.builtin "int.__floordiv__" ⟨[.int a u, .int (Int.ofNat b) v], []⟩) [] 0 (fun x => rOk (.int c (x.a 0))) (fun _ => []) (fun _ => []) := by
  subst h
  have hp : ¬ (Builtin.divisionGoesByPylong a (Int.ofNat b)) = true := by
    unfold Builtin.divisionGoesByPylong
    have h1 : (if (Int.ofNat b == 0) = true then 0 else (Int.ofNat b).natAbs.log2 / 30 + 1) ≤ 300 := by
      split
      · omega
      · show b.log2 / 30 + 1 ≤ 300
        have := (Nat.log2_lt (n := b) (k := 60) (by rintro rfl; simp_all)).mpr hb
        omega
    simp only [Bool.and_eq_true, decide_eq_true_eq, not_and]
    intro h
    omega
  exact CSpec.gint F.entry_int_floordiv (by decide +kernel) (AutoIntG4.int___floordiv___int_int_1 _ _ _ _ (by simp; omega) hp)
theorem reprN {a u : Nat} {s : List Nat} (hs : (PySem.Str.ofString (toString (Int.ofNat a))) = ⟨s.toArray⟩) (hl : s.length ≤ 100) (hb : (Int.ofNat a).natAbs.log2 < 1920) :
    CSpec w KK os d (.builtin "int.__repr__" ⟨[.int (Int.ofNat a) u], []⟩) [] 0 (fun x => rOk (sv s (x.a 0))) (fun _ => []) (fun _ => []) := by
  have g := gives_int_repr (Int.ofNat a) u hb
  have g' : Gives (Builtin.«int.__repr__» ⟨[.int (Int.ofNat a) u], []⟩) (.str ⟨s.toArray⟩) := by
    rw [← hs]; exact g
  exact CSpec.gstr F.entry_int_repr (by decide +kernel) g' (by show s.toArray.size ≤ sizeLine; rw [sizeLine_eq]; simp; omega)
end
/-- the law's last row, and its tree -/
noncomputable def twExecs : List Stmt → Env → Sem Flow := PySem.W.Fast.tw12563942051412417395
theorem twExecs_eq : PySem.execs = twExecs := PySem.W.Fast.te12563942051412417395
noncomputable def twEval : Expr → Env → Sem Value := PySem.W.Fast.tw14044960220447912780
theorem twEval_eq : PySem.eval = twEval := PySem.W.Fast.te14044960220447912780
theorem execs_app {pre post : List Stmt} {env : Env} : PySem.execs (pre ++ post) env = (PySem.execs pre env).bind fun f => match f with
    | .next => PySem.execs post env
    | f => pure f := by
  have h0 : ∀ (s : Stmt) (r : List Stmt), PySem.execs (s :: r) env = (exec s env).bind fun f => match f with
    | .next => PySem.execs r env
    | f => pure f := fun s r => by with_unfolding_all rfl
  induction pre with
  | nil => exact rfl
  | cons s r ih =>
    rw [List.cons_append, h0, h0, bind_assoc']
    refine congrArg (Sem.bind (exec s env)) (funext fun f => ?_)
    cases f with
    | next => exact ih
    | _ => rfl
theorem Le.of_eq {α : Type} {t' t : Sem α} (h : t' = t) : Le t' t := h ▸ Le.refl _
noncomputable def funcU (pre post : List Stmt) (env : Env) (L' : Sem Flow) : {T : Sem Fin // Le L' (PySem.execs post env) → Le T (denote table (.func (pre ++ post) env))} :=
  ⟨_, fun h => Le.bind (Le.refl point) fun _ => Le.bind (Le.onRaise (m' := (twExecs pre env).bind fun f => match f with
    | .next => L'
    | f => pure f) (m := PySem.execs (pre ++ post) env) (by
      rw [execs_app, twExecs_eq]
      refine Le.bind (Le.refl _) fun f => ?_
      cases f with
      | next => rw [← twExecs_eq]; exact h
      | _ => exact Le.refl _)) fun _ => Le.refl _⟩
noncomputable def evT (l r : Expr) (pos : Pos) (env : Env) : Sem Value := do
  let lv ← twEval l env
  let rv ← holding [lv] (twEval r env)
  standAt pos
  operate [lv, rv] (cmpU lv rv)
theorem Le.evT {l r : Expr} {pos : Pos} {env : Env} (hr : behindInMarks .Eq r = false) : Le (Mine.evT l r pos env) (eval (.Compare l [.Eq] [r] pos) env) := by
  unfold Mine.evT
  rw [← twEval_eq]
  exact Le.ev hr
theorem Le.ret {v : Expr} {pos : Pos} {env : Env} {V' : Sem Value} (h : Le V' (eval v env)) : Le ((standAt pos).bind fun _ => V'.bind fun x => pure (.ret x)) (exec (.Return (some v) pos) env) := by
  rw [show exec (.Return (some v) pos) env = (standAt pos).bind fun _ => (eval v env).bind fun x => pure (.ret x) from by with_unfolding_all rfl]
  exact Le.bind (Le.refl _) fun _ => Le.bind h fun _ => Le.refl _
noncomputable def sRetV : Stmt → Expr
  | .Return (some v) _ => v
  | _ => default
noncomputable def sRetP : Stmt → Pos
  | .Return _ p => p
  | _ => default
noncomputable def eBo : Expr → Nat → Expr
  | .BoolOp _ l _, i => (match l[i]? with
    | some x => x
    | none => default)
  | e, _ => e
noncomputable def eBoP : Expr → Pos
  | .BoolOp _ _ p => p
  | _ => default
noncomputable def bodyOf (w : World) (f : Nat) : List Stmt := withFd w f [] fun fd => match fd.body with
  | .stmts b => b
  | _ => []
noncomputable abbrev lC (w : World) (i : Nat) : Expr := eBo (sRetV (nS w 166 [16])) i
noncomputable abbrev lCmp (w : World) (i : Nat) : Expr := .Compare (eCL (lC w i)) [.Eq] [eCR (lC w i)] (eCP (lC w i))
noncomputable abbrev lawPost (w : World) : List Stmt := [.Return (some (.BoolOp .And [lCmp w 0, lCmp w 1, lCmp w 2, lCmp w 3] (eBoP (sRetV (nS w 166 [16]))))) (sRetP (nS w 166 [16]))]
theorem law_eq (w : World) : bodyOf w 166 = (bodyOf w 166).take 16 ++ lawPost w := by kernel_rfl
theorem law_hr (w : World) : (behindInMarks .Eq (eCR (lC w 0)), behindInMarks .Eq (eCR (lC w 1)), behindInMarks .Eq (eCR (lC w 2)), behindInMarks .Eq (eCR (lC w 3))) = (false, false, false, false) := by kernel_rfl
noncomputable def lawT (w : World) (env : Env) : {T : Sem Fin // Le T (denote table (.func ((bodyOf w 166).take 16 ++ lawPost w) env))} :=
  ⟨_, (funcU _ _ _ _).2 (Le.exec1 (Le.ret (Le.boolOp (pos := eBoP (sRetV (nS w 166 [16]))) (op := .And)
    (.cons (Le.evT (congrArg (·.1) (law_hr w))) (.cons (Le.evT (congrArg (·.2.1) (law_hr w))) (.cons (Le.evT (congrArg (·.2.2.1) (law_hr w))) (.cons (Le.evT (congrArg (·.2.2.2) (law_hr w))) .nil)))))))⟩
noncomputable abbrev lawFn (w : World) (fr : Nat) (cells : List (Str × Nat)) : Code := .func (bodyOf w 166) (nE w 166 fr cells)
theorem law_le {w : World} {os : OsState} {d : Nat} {fr : Nat} {cells : List (Str × Nat)} {ins : List (Nat × Obj)} {n : Nat} {r : X → PySem.Result} {outs news : X → List Obj} (hd : d ≤ 990)
    (h : TS w os d (lawFn w fr cells) (lawT w (nE w 166 fr cells)).1 ins n r outs news) : CS w os d (lawFn w fr cells) ins n r outs news := by
  have e : lawFn w fr cells = .func ((bodyOf w 166).take 16 ++ lawPost w) (nE w 166 fr cells) := congrArg (fun b => Code.func b (nE w 166 fr cells)) (law_eq w)
  rw [e] at h ⊢
  exact CSpec.le hd (by simp [Code.cUnits, Code.frames, Code.isFrame]) (lawT w (nE w 166 fr cells)).2 h
end Mine
end
section
open PySem PySem.Spec PySem.Calls PyProof.Rows PySem.W PySem.W.X
set_option maxRecDepth 100000
namespace Mine
/-- texts, with tokens -/
noncomputable def stL (l : List (List Nat)) (tk : Nat → Nat) : List Value := mapI (fun i s => sv s (tk i)) 0 l
noncomputable def tabL (l : List (List Nat × Nat × List Nat)) (tk : Nat → Nat) : List (List Nat × Nat × Value) := mapI (fun i p => (p.1, p.2.1, sv p.2.2 (tk i))) 0 l
theorem mapI_app {α β : Type} {f g : Nat → α → β} : ∀ {l : List α} {a : α} {i : Nat}, (∀ j b, j < i + l.length → g j b = f j b) → mapI f i l ++ [g (i + l.length) a] = mapI g i (l ++ [a])
  | [], a, i, _ => by simp [mapI]
  | b :: l, a, i, h => by
    simp only [mapI, List.cons_append]
    rw [h i b (by simp)]
    have := mapI_app (f := f) (g := g) (l := l) (a := a) (i := i + 1) fun j c hj => h j c (by simp at hj ⊢; omega)
    rw [← this]
    simp only [List.length_cons]
    rw [show i + 1 + l.length = i + (l.length + 1) by omega]
theorem stL_app {l : List (List Nat)} {tk : Nat → Nat} {s : List Nat} {t : Nat} : stL l tk ++ [sv s t] = stL (l ++ [s]) (updT tk l.length t) := by
  unfold stL
  rw [← mapI_app (f := fun i s => sv s (tk i)) (g := fun i s => sv s (updT tk l.length t i))]
  · simp [updT]
  · intro j b hj
    have : j ≠ l.length := by omega
    simp [updT, this]
theorem tabL_app {l : List (List Nat × Nat × List Nat)} {tk : Nat → Nat} {V r : List Nat} {tv t : Nat} : tabL l tk ++ [(V, tv, sv r t)] = tabL (l ++ [(V, tv, r)]) (updT tk l.length t) := by
  unfold tabL
  have e := mapI_app (f := fun i (p : List Nat × Nat × List Nat) => (p.1, p.2.1, sv p.2.2 (tk i))) (g := fun i (p : List Nat × Nat × List Nat) => (p.1, p.2.1, sv p.2.2 (updT tk l.length t i))) (l := l) (a := (V, tv, r)) (i := 0) (by
    intro j b hj
    have : j ≠ l.length := by omega
    simp [updT, this])
  rw [← e]
  simp [updT]
theorem stL_length {l : List (List Nat)} {tk : Nat → Nat} : (stL l tk).length = l.length := mapI_length
theorem tabL_length {l : List (List Nat × Nat × List Nat)} {tk : Nat → Nat} : (tabL l tk).length = l.length := mapI_length
theorem tabL_key {l : List (List Nat × Nat × List Nat)} {tk : Nat → Nat} {V : List Nat} (h : ∀ p ∈ l, p.1 ≠ V) : ∀ p ∈ tabL l tk, p.1 ≠ V := by
  intro p hp
  obtain ⟨j, hj⟩ := List.getElem?_of_mem hp
  unfold tabL at hj
  rw [mapI_get] at hj
  cases e : l[j]? with
  | none => rw [e] at hj; cases hj
  | some q =>
    rw [e] at hj
    cases hj
    exact h q (List.mem_of_getElem? e)
theorem stL_vals {l : List (List Nat)} {tk : Nat → Nat} : stL l tk = strValues (mapI (fun i s => ((⟨s.toArray⟩ : Str), tk i)) 0 l) := by
  unfold stL strValues
  generalize 0 = i
  induction l generalizing i with
  | nil => rfl
  | cons a l ih => simp [mapI, ih]
theorem mapI_fst {l : List (List Nat)} {tk : Nat → Nat} : (mapI (fun i s => ((⟨s.toArray⟩ : Str), tk i)) 0 l).map (·.1) = l.map fun s => (⟨s.toArray⟩ : Str) := by
  generalize 0 = i
  induction l generalizing i with
  | nil => rfl
  | cons a l ih => simp [mapI, ih]
section
variable {w : World} {os : OsState} {KK : Nat → Option Obj} {d : Nat}
theorem appendT {a n t : Nat} {l : List (List Nat)} {tk : Nat → Nat} {s : List Nat} (hl : l.length ≤ 100) :
    CSpec w KK os d (.builtin "list.append" ⟨[.ref a, sv s t], []⟩) [(a, lsO (stL l tk) n)] 0 (fun _ => rOk .none) (fun _ => [lsO (stL (l ++ [s]) (updT tk l.length t)) (n + 1)]) (fun _ => []) := by
  rw [← stL_app]
  exact append_s (by rw [stL_length]; exact hl)
theorem lenT {a n k : Nat} {l : List (List Nat)} {tk : Nat → Nat} (hk : l.length = k) (hx : k ≤ 1000) :
    CSpec w KK os d (.builtin "len" ⟨[.ref a], []⟩) [(a, lsO (stL l tk) n)] 0 (fun x => rOk (.int (Int.ofNat k) (x.a 0))) (fun _ => [lsO (stL l tk) n]) (fun _ => []) :=
  lenL (by rw [stL_length]; exact hk) hx
theorem dnewT {dd z t : Nat} {l : List (List Nat × Nat × List Nat)} {tk : Nat → Nat} {V r : List Nat} (h : ∀ p ∈ l, p.1 ≠ V) (hl : l.length ≤ 100) :
    CSpec w KK os d (.builtin "dict.__setitem__" ⟨[.ref dd, sv V z, sv r t], []⟩) [(dd, dcE w (tabL l tk))] 0 (fun _ => rOk .none) (fun _ => [dcE w (tabL (l ++ [(V, z, r)]) (updT tk l.length t))]) (fun _ => []) := by
  rw [← tabL_app]
  exact dnewE (tabL_key h) (by rw [tabL_length]; exact hl)
theorem dsetT {dd z tv t : Nat} {l : List (List Nat × Nat × List Nat)} {tk : Nat → Nat} {V r r0 : List Nat} (h : ∀ p ∈ l, p.1 ≠ V) :
    CSpec w KK os d (.builtin "dict.__setitem__" ⟨[.ref dd, sv V z, sv r t], []⟩) [(dd, dcE w (tabL (l ++ [(V, tv, r0)]) tk))] 0 (fun _ => rOk .none) (fun _ => [dcE w (tabL (l ++ [(V, tv, r)]) (updT tk l.length t))]) (fun _ => []) := by
  have e1 : tabL (l ++ [(V, tv, r0)]) tk = tabL l tk ++ [(V, tv, sv r0 (tk l.length))] := by
    rw [tabL_app]
    congr 1
    funext j
    unfold updT
    split
    · rename_i h; rw [h]
    · rfl
  rw [← tabL_app, e1]
  exact dsetE (tabL_key h)
theorem joinT {a t n : Nat} {sep : Str} {l : List (List Nat)} {tk : Nat → Nat} {r : List Nat} (hl : Builtin.Str.tooLong ((l.map fun s => (⟨s.toArray⟩ : Str)).toArray.foldl (· + ·.length + sep.length) 0) = false) (hr : Builtin.Str.glued sep (l.map fun s => (⟨s.toArray⟩ : Str)) = ⟨r.toArray⟩) (hn : r.length ≤ 1000) :
    CSpec w KK os d (.builtin "str.join" ⟨[.str sep t, .ref a], []⟩) [(a, lsO (stL l tk) n)] 0 (fun x => rOk (sv r (x.a 0))) (fun _ => [lsO (stL l tk) n]) (fun _ => []) := by
  rw [stL_vals]
  exact joinL (by rw [mapI_fst]; exact hl) (by rw [mapI_fst]; exact hr) hn
theorem nilT {l : List (List Nat)} {tk : Nat → Nat} (h : l = []) : stL l tk = [] := by subst h; rfl
end
end Mine
end
section
open PySem PySem.Spec PySem.Calls PyProof.Rows PySem.W PySem.W.X
set_option maxRecDepth 100000
namespace Mine
section
variable {w : World} {os : OsState} {d : Nat} {c : Code} {ins : List (Nat × Obj)} {n : Nat} {r : X → PySem.Result} {outs news : X → List Obj}
theorem CB (stop : Code → Bool) (fuel : Nat) (orc : List Nat) (pr : Nat → Nat → PrH w (KKw w) os)
    (he : (fun b t => lhs ⟨ins.length, n, r, outs, news⟩ (start (RI w (KKw w) (w.params.followText "comprehension-iter-twice") (w.params.followText "set-order") ins stop d b t) fuel ins c orc (pr b t).1)) = (fun b t => rhs ⟨ins.length, n, r, outs, news⟩ (start (RI w (KKw w) (w.params.followText "comprehension-iter-twice") (w.params.followText "set-order") ins stop d b t) fuel ins c orc (pr b t).1))) :
    CS w os d c ins n r outs news := CSpec.by (kok w) rfl rfl stop fuel orc pr fun b t => congrFun (congrFun he b) t
theorem CB2 (stop : Code → Bool) (fuel : Nat) (o1 o2 : List Nat) (pr : Nat → Nat → PrH w (KKw w) os)
    (h1 : (fun b t => lhs ⟨ins.length, n, r, outs, news⟩ (start (RI w (KKw w) true (w.params.followText "set-order") ins stop d b t) fuel ins c o1 (pr b t).1)) = (fun b t => rhs ⟨ins.length, n, r, outs, news⟩ (start (RI w (KKw w) true (w.params.followText "set-order") ins stop d b t) fuel ins c o1 (pr b t).1)))
    (h2 : (fun b t => lhs ⟨ins.length, n, r, outs, news⟩ (start (RI w (KKw w) false (w.params.followText "set-order") ins stop d b t) fuel ins c o2 (pr b t).1)) = (fun b t => rhs ⟨ins.length, n, r, outs, news⟩ (start (RI w (KKw w) false (w.params.followText "set-order") ins stop d b t) fuel ins c o2 (pr b t).1))) :
    CS w os d c ins n r outs news := by
  cases hb : w.params.followText "comprehension-iter-twice" with
  | true => exact CSpec.by (kok w) hb rfl stop fuel o1 pr fun b t => congrFun (congrFun h1 b) t
  | false => exact CSpec.by (kok w) hb rfl stop fuel o2 pr fun b t => congrFun (congrFun h2 b) t
theorem CB3 (stop : Code → Bool) (fuel : Nat) (o1 : List Nat) (pr : Nat → Nat → PrH w (KKw w) os)
    (h1 : (fun b t => lhs ⟨ins.length, n, r, outs, news⟩ (start (RI w (KKw w) (w.params.followText "comprehension-iter-twice") true ins stop d b t) fuel ins c o1 (pr b t).1)) = (fun b t => rhs ⟨ins.length, n, r, outs, news⟩ (start (RI w (KKw w) (w.params.followText "comprehension-iter-twice") true ins stop d b t) fuel ins c o1 (pr b t).1)))
    (h2 : (fun b t => lhs ⟨ins.length, n, r, outs, news⟩ (start (RI w (KKw w) (w.params.followText "comprehension-iter-twice") false ins stop d b t) fuel ins c o1 (pr b t).1)) = (fun b t => rhs ⟨ins.length, n, r, outs, news⟩ (start (RI w (KKw w) (w.params.followText "comprehension-iter-twice") false ins stop d b t) fuel ins c o1 (pr b t).1))) :
    CS w os d c ins n r outs news := by
  cases hb : w.params.followText "set-order" with
  | true => exact CSpec.by (kok w) rfl hb stop fuel o1 pr fun b t => congrFun (congrFun h1 b) t
  | false => exact CSpec.by (kok w) rfl hb stop fuel o1 pr fun b t => congrFun (congrFun h2 b) t
theorem TB2 {t₁ : Sem Fin} (stop : Code → Bool) (fuel : Nat) (o1 o2 : List Nat) (pr : Nat → Nat → PrH w (KKw w) os)
    (h1 : (fun b t => lhs ⟨ins.length, n, r, outs, news⟩ (startT (RI w (KKw w) true (w.params.followText "set-order") ins stop d b t) fuel ins c t₁ o1 (pr b t).1)) = (fun b t => rhs ⟨ins.length, n, r, outs, news⟩ (startT (RI w (KKw w) true (w.params.followText "set-order") ins stop d b t) fuel ins c t₁ o1 (pr b t).1)))
    (h2 : (fun b t => lhs ⟨ins.length, n, r, outs, news⟩ (startT (RI w (KKw w) false (w.params.followText "set-order") ins stop d b t) fuel ins c t₁ o2 (pr b t).1)) = (fun b t => rhs ⟨ins.length, n, r, outs, news⟩ (startT (RI w (KKw w) false (w.params.followText "set-order") ins stop d b t) fuel ins c t₁ o2 (pr b t).1))) :
    TS w os d c t₁ ins n r outs news := by
  cases hb : w.params.followText "comprehension-iter-twice" with
  | true => exact TSpec.by (kok w) hb rfl stop fuel o1 pr fun b t => congrFun (congrFun h1 b) t
  | false => exact TSpec.by (kok w) hb rfl stop fuel o2 pr fun b t => congrFun (congrFun h2 b) t
variable {KK : Nat → Option Obj}
noncomputable def vx (C : CSpec w KK os d c ins n r outs news) (sel : List Nat) (next : X → PrH w KK os) : PrH w KK os := via C sel fun _ _ x => next x
noncomputable def vi (C : CSpec w KK os 990 c ins n r outs news) (sel : List Nat) (next : Nat → Nat → X → PrH w KK os) : PrH w KK os := via C sel next
noncomputable def vj (C : CSpec w KK os 990 c ins n r outs news) (sel : List Nat) (next : X → PrH w KK os) : PrH w KK os := via C sel fun _ _ x => next x
end
end Mine
end
section
open PySem PySem.Spec PySem.Calls PyProof.Rows PySem.W PySem.W.X
set_option maxRecDepth 100000
namespace Mine
noncomputable def updO : List Nat → List Obj → List Obj → List Obj
  | j :: js, o :: os, l => updO js os (l.set j o)
  | _, _, l => l
theorem updO_len : ∀ js os l, (updO js os l).length = l.length
  | [], _, _ => by simp [updO]
  | _ :: _, [], _ => by simp [updO]
  | j :: js, o :: os, l => by simp [updO, updO_len js os]
theorem updO_get : ∀ {js : List Nat} {os : List Obj} {l : List Obj} {k : Nat} {o : Obj}, js.length = os.length → js.Nodup → (updO js os l)[k]? = some o →
    (∃ i : Nat, js[i]? = some k ∧ os[i]? = some o) ∨ (k ∉ js ∧ l[k]? = some o)
  | [], os, l, k, o, hl, hn, e => by
    simp only [updO] at e
    exact .inr ⟨by simp, e⟩
  | _ :: _, [], _, _, _, hl, _, _ => by simp at hl
  | j :: js, o' :: os, l, k, o, hl, hn, e => by
    simp only [updO] at e
    simp only [List.length_cons, Nat.add_right_cancel_iff] at hl
    obtain ⟨hj, hn⟩ := List.nodup_cons.mp hn
    rcases updO_get hl hn e with ⟨i, h1, h2⟩ | ⟨h1, h2⟩
    · exact .inl ⟨i + 1, by simpa using h1, by simpa using h2⟩
    · by_cases hk : j = k
      · subst hk
        rw [List.getElem?_set] at h2
        split at h2
        · split at h2
          · cases h2; exact .inl ⟨0, by simp, by simp⟩
          · cases h2
        · contradiction
      · rw [List.getElem?_set_ne hk] at h2
        exact .inr ⟨by simp [h1, Ne.symm hk], h2⟩
section
variable {w : World} {KK : Nat → Option Obj} {os : OsState} {d e : Nat} {c : Code} {ins ins' : List (Nat × Obj)} {n : Nat} {r r' : X → PySem.Result} {outs news outs' news' : X → List Obj}
theorem Lo.mono {B : Around} (h : Lo B d) (hd : d ≤ e) : Lo B e := ⟨Nat.le_trans h.1 hd, by have := h.2; omega⟩
theorem CSpec.sub (C : CSpec w KK os e c ins n r outs news) (sel : List Nat) (f : X → X) (hd : d ≤ e) (hsel : sel.map (fun j => ins'[j]?) = ins.map some) (hn : nodupB sel = true)
    (hr : ∀ x, r x = r' (f x)) (hout : ∀ x, updO sel (outs x) (ins'.map (·.2)) = outs' (f x)) (hnews : ∀ x, news x = news' (f x)) (hf : ∀ x j, j < n → (f x).a j = x.a j) :
    CSpec w KK os d c ins' n r' outs' news' := by
  intro B Q h dr tk hL hh hA hQ
  have hlen : sel.length = ins.length := by simpa using congrArg List.length hsel
  have hnd := nodupB_iff hn
  have hs : ∀ (i : Nat) (p : Nat × Obj), ins[i]? = some p → ∃ j, sel[i]? = some j ∧ ins'[j]? = some p := by
    intro i p hp
    have q := congrArg (fun l => l[i]?) hsel
    simp only [List.getElem?_map, hp, Option.map_some] at q
    cases hj : sel[i]? with
    | none => rw [hj] at q; cases q
    | some j => rw [hj] at q; simp only [Option.map_some, Option.some.injEq] at q; exact ⟨j, rfl, q⟩
  have hlt : ∀ {j : Nat} {p : Nat × Obj}, ins'[j]? = some p → j < ins'.length := fun h => (List.getElem?_eq_some_iff.mp h).1
  have hnth : ∀ {l : List (Nat × Obj)} {j : Nat} {p : Nat × Obj}, l[j]? = some p → nth (l.map (·.1)) j = p.1 := by
    intro l j p hp
    have q := nth_get (l := l.map (·.1)) (j := j) (by simpa using (List.getElem?_eq_some_iff.mp hp).1)
    rw [List.getElem?_map, hp] at q
    simpa using q.symm
  have hmem : ∀ p ∈ ins, p ∈ ins' := by
    intro p hp
    obtain ⟨i, hi⟩ := List.mem_iff_getElem?.mp hp
    obtain ⟨j, _, hj⟩ := hs i p hi
    exact List.mem_of_getElem? hj
  refine C B Q h dr tk (hL.mono hd) hh ⟨hA.good, ?_, ?_, ?_⟩ ?_
  · intro j k hj hk e
    obtain ⟨j', h1, h2⟩ := hs j _ (List.getElem?_eq_getElem hj)
    obtain ⟨k', h3, h4⟩ := hs k _ (List.getElem?_eq_getElem hk)
    rw [hnth (List.getElem?_eq_getElem hj), hnth (List.getElem?_eq_getElem hk)] at e
    have := hA.inj j' k' (hlt h2) (hlt h4) (by rw [hnth h2, hnth h4]; exact e)
    subst this
    exact nodup_inj hnd h1 h3
  · intro j p hp
    obtain ⟨j', _, h2⟩ := hs j p hp
    exact hA.get j' p h2
  · intro a o ha p hp
    exact hA.nk a o ha p (hmem p hp)
  · intro x h' dr' tk' hAf
    rw [hr]
    refine hQ (f x) h' dr' tk' ⟨hAf.good, hAf.size, ?_, ?_, ?_, ?_, ?_, ?_, ?_⟩
    · intro a ha hn'
      exact hAf.frame a ha fun p hp => hn' p (hmem p hp)
    · rw [← hout, updO_len]; simp
    · intro k a o ha ho
      rw [← hout] at ho
      have hk : ins'[k]? = ins'[k]? := rfl
      rw [List.getElem?_map] at ha
      cases hp : ins'[k]? with
      | none => rw [hp] at ha; cases ha
      | some p =>
        rw [hp] at ha; simp only [Option.map_some, Option.some.injEq] at ha
        subst ha
        rcases updO_get (by rw [hAf.len, hlen]) hnd ho with ⟨i, h1, h2⟩ | ⟨h1, h2⟩
        · have hi : i < ins.length := by
            have := (List.getElem?_eq_some_iff.mp h1).1
            omega
          obtain ⟨j', h3, h4⟩ := hs i _ (List.getElem?_eq_getElem hi)
          rw [h1] at h3; cases h3
          rw [hp] at h4; cases h4
          exact hAf.upd i _ o (by rw [List.getElem?_map, List.getElem?_eq_getElem hi]; rfl) h2
        · rw [List.getElem?_map, hp] at h2
          simp only [Option.map_some, Option.some.injEq] at h2
          rw [← h2, ← hA.get k p hp]
          refine hAf.frame _ (Heap.lt_size (hA.get k p hp)) ?_
          intro q hq e
          obtain ⟨i, hi⟩ := List.mem_iff_getElem?.mp hq
          obtain ⟨j', h3, h4⟩ := hs i q hi
          have := hA.inj j' k (hlt h4) (hlt hp) (by rw [hnth h4, hnth hp]; exact e)
          subst this
          exact h1 (List.mem_of_getElem? h3)
    · rw [← hnews]; exact hAf.nlen
    · intro j o ho
      rw [← hnews] at ho
      have hj : j < n := by have := (List.getElem?_eq_some_iff.mp ho).1; have := hAf.nlen; omega
      rw [hf x j hj]; exact hAf.new j o ho
    · intro j hj
      rw [hf x j hj]; exact hAf.fresh j hj
    · intro j k hj hk e
      rw [hf x j hj, hf x k hk] at e
      exact hAf.ninj j k hj hk e
theorem CSpec.mono (C : CSpec w KK os e c ins n r outs news) (hd : d ≤ e) : CSpec w KK os d c ins n r outs news :=
  fun B Q h dr tk hL hh hA hQ => C B Q h dr tk (hL.mono hd) hh hA hQ
end
end Mine
end
section
open PySem PySem.Spec PySem.Calls PyProof.Rows PySem.W PySem.W.X
set_option maxRecDepth 100000
namespace Mine
section
variable {w : World} {os : OsState} {KK : Nat → Option Obj} {d : Nat}
/-- from a heap that has changed only the objects of «ins» -/
theorem After.pre {h h2 h3 : Heap} {ins ins2 : List (Nat × Obj)} {x : X} {n : Nat} {outs news : List Obj} (hs : h2.objs.size = h.objs.size) (hf : ∀ a, (∀ p ∈ ins, p.1 ≠ a) → h2.get? a = h.get? a)
    (he : ins2.map (·.1) = ins.map (·.1)) (hA : After KK h2 ins2 x n outs news h3) : After KK h ins x n outs news h3 := by
  have hl : ins2.length = ins.length := by simpa using congrArg List.length he
  refine ⟨hA.good, by have := hA.size; omega, ?_, by rw [← hl]; exact hA.len, ?_, hA.nlen, hA.new, ?_, hA.ninj⟩
  · intro a ha hn
    rw [← hf a hn]
    refine hA.frame a (by omega) fun p hp e => ?_
    have : p.1 ∈ ins2.map (·.1) := List.mem_map_of_mem hp
    rw [he] at this
    obtain ⟨q, hq, e2⟩ := List.mem_map.mp this
    exact hn q hq (e2.trans e)
  · intro j a o ha ho
    rw [← he] at ha
    exact hA.upd j a o ha ho
  · intro j hj
    rw [← hs]; exact hA.fresh j hj
theorem At.next {h h2 : Heap} {ins ins2 : List (Nat × Obj)} (hA : At KK h ins) (hf : ∀ a, (∀ p ∈ ins, p.1 ≠ a) → h2.get? a = h.get? a) (he : ins2.map (·.1) = ins.map (·.1)) (hg : ∀ (j : Nat) (p : Nat × Obj), ins2[j]? = some p → h2.get? p.1 = some p.2) : At KK h2 ins2 := by
  have hl : ins2.length = ins.length := by simpa using congrArg List.length he
  have hm : ∀ p ∈ ins2, ∃ q ∈ ins, q.1 = p.1 := by
    intro p hp
    have : p.1 ∈ ins2.map (·.1) := List.mem_map_of_mem hp
    rw [he] at this
    obtain ⟨q, hq, e2⟩ := List.mem_map.mp this
    exact ⟨q, hq, e2⟩
  refine ⟨fun a o e => ?_, ?_, hg, ?_⟩
  · rw [hf a fun p hp => hA.nk a o e p hp]; exact hA.good a o e
  · rw [he, hl]; exact hA.inj
  · intro a o e p hp
    obtain ⟨q, hq, e2⟩ := hm p hp
    rw [← e2]; exact hA.nk a o e q hq
end
noncomputable def AllI (xs : List Value) : Prop := ∀ y ∈ xs, ∃ n t, y = .int n t
noncomputable def vI : Value → Int
  | .int n _ => n
  | _ => 0
noncomputable def sumI (a : Int) : List Value → Int
  | [] => a
  | v :: vs => sumI (a + vI v) vs
theorem Heap.upd_frame {h : Heap} {a : Nat} {f : Obj → Obj} {b : Nat} (hb : a ≠ b) : (h.update a f).get? b = h.get? b := Heap.get?_update_other h f hb
section
variable {w : World} {os : OsState} {KK : Nat → Option Obj} {d : Nat}
theorem nextI {A : Around} {E : Value → Shared → Prop} {s : Shared} {it l i n : Nat} {xs : List Value} {v : Value} {Q : Option Value → Shared → Prop} (hI : s.heap.get? it = some (itO l i)) (hL : s.heap.get? l = some (lsO xs n)) (hv : xs[i]? = some v)
    (hQ : Q (some v) { s with heap := s.heap.update it fun o => o.mapFields fun fs => fs.set! 1 (.int ((i : Nat) + 1 : Nat) 0) }) : wpAny (MO w) A (pyNext (.ref it)) Q E s := by
  have hti : s.TypeIs (.ref it) "list_iterator" := ⟨_, hI, rfl⟩
  unfold pyNext
  refine wpAny_bind (wpAny_attempt (wpAny_callSpecial?_slot (name := Str.ofString "__next__") hti slot_listiter_next
    (wpAny_call_entry slot_listiter_next hti entry_listiter_next ?_ (args_listiter_next _))))
  show wpAny _ _ (field (.ref it) 0 >>= _) _ _ s
  refine wpAny_bind (wpAny_field hI rfl (x := .ref l) rfl ?_)
  show wpAny _ _ (if (Value.ref l == Value.none) = true then _ else _) _ _ s
  rw [if_neg (show ¬ ((Value.ref l == Value.none) = true) from Bool.false_ne_true)]
  show wpAny _ _ (field (.ref it) 1 >>= _) _ _ s
  refine wpAny_bind (wpAny_field hI rfl (x := .int i 0) rfl ?_)
  show wpAny _ _ (seqItems? (.ref l) >>= _) _ _ s
  refine wpAny_bind (wpAny_seqItems hL rfl ?_)
  have hv' : (⟨xs⟩ : Array Value)[i]? = some v := by simpa using hv
  simp only [Int.toNat_natCast, hv']
  exact wpAny_bind (wpAny_setField hI rfl (by simp) (wpAny_pure ⟨v, rfl, wpAny_pure hQ⟩))
noncomputable def SL (w : World) (KK : Nat → Option Obj) (os : OsState) (d it l S : Nat) (xs : List Value) (n : Nat) (tot : Int) (i : Nat) (a : Int) (t c : Nat) (stage : Int) : Prop :=
  CSpec w KK os d (.builtin "sum.loop" ⟨[.ref it, .ref S, rawInt stage, rawInt 0], []⟩) [(it, itO l i), (l, lsO xs n), (S, lsO [.int a t] c)] 0 (fun x => rOk (.int tot (x.a 0))) (fun x => [x.o 0, lsO xs n, x.o 1]) (fun _ => [])
theorem sum_turn {it l S n : Nat} {xs : List Value} {tot : Int} {i : Nat} {a b : Int} {t tb c : Nat} {stage : Int} (hst : stage = 0 ∨ stage = 2) (hv : xs[i]? = some (.int b tb))
    (hX : ∀ t' c' st', (st' = 0 ∨ st' = 2) → SL w KK os d it l S xs n tot (i + 1) (a + b) t' c' st') : SL w KK os d it l S xs n tot i a t c stage := by
  intro B Q h dr tk hd hh hA hQ
  have hI := hA.get1
  have hL := hA.get2
  have hS : h.get? S = some (lsO [.int a t] c) := hA.get 2 _ rfl
  have n1 : it ≠ l := fun e => by have := hA.inj 0 1 (by simp) (by simp) e; cases this
  have n2 : it ≠ S := fun e => by have := hA.inj 0 2 (by simp) (by simp) e; cases this
  have n3 : l ≠ S := fun e => by have := hA.inj 1 2 (by simp) (by simp) e; cases this
  refine codeAny_builtin F.entry_sum_loop ?_
  rw [Around.under_plainId F.plain_sum_loop _]
  show wpAny _ _ (seqItems? (.ref S) >>= _) _ _ _
  refine wpAny_bind (wpAny_seqItems hS rfl ?_)
  show wpAny _ _ (tryCatch (pyNext (.ref it)) _ >>= _) _ _ _
  refine wpAny_bind (wpAny_tryCatch (nextI hI hL hv ?_))
  have hS1 : (h.update it fun o => o.mapFields fun fs => fs.set! 1 (.int ((i : Nat) + 1 : Nat) 0)).get? S = some (lsO [.int a t] c) := (Heap.upd_frame n2).trans hS
  have hI1 : (h.update it fun o => o.mapFields fun fs => fs.set! 1 (.int ((i : Nat) + 1 : Nat) 0)).get? it = some (itO l (i + 1)) := Heap.get?_update_self _ hI rfl
  have hL1 : (h.update it fun o => o.mapFields fun fs => fs.set! 1 (.int ((i : Nat) + 1 : Nat) 0)).get? l = some (lsO xs n) := (Heap.upd_frame n1).trans hL
  have hz1 : (h.update it fun o => o.mapFields fun fs => fs.set! 1 (.int ((i : Nat) + 1 : Nat) 0)).objs.size = h.objs.size := Heap.size_after_update ..
  have hf1 : ∀ x, (∀ p ∈ [(it, itO l i), (l, lsO xs n), (S, lsO [.int a t] c)], p.1 ≠ x) → (h.update it fun o => o.mapFields fun fs => fs.set! 1 (.int ((i : Nat) + 1 : Nat) 0)).get? x = h.get? x := fun x hx => Heap.upd_frame (hx _ (List.mem_cons_self ..))
  generalize (h.update it fun o => o.mapFields fun fs => fs.set! 1 (.int ((i : Nat) + 1 : Nat) 0)) = h1 at hS1 hI1 hL1 hz1 hf1
  have fin : ∀ (h2 : Heap) (t' c' : Nat) (st' : Int) (dr' : Drawn) (tk' : Nat), (st' = 0 ∨ st' = 2) → h2.get? S = some (lsO [.int (a + b) t'] c') → h2.objs.size = h1.objs.size → (∀ x, S ≠ x → h2.get? x = h1.get? x) →
      codeAny (MO w) B (.builtin "sum.loop" ⟨[.ref it, .ref S, rawInt st', rawInt 0], []⟩) Q ⟨h2, #[], dr', tk' + 1, os⟩ := by
    intro h2 t' c' st' dr' tk' hs' hg hz hf
    have hff : ∀ x, (∀ p ∈ [(it, itO l i), (l, lsO xs n), (S, lsO [.int a t] c)], p.1 ≠ x) → h2.get? x = h.get? x := fun x hx => (hf x (hx (S, lsO [.int a t] c) (by simp))).trans (hf1 x hx)
    refine hX t' c' st' hs' B Q h2 dr' tk' hd hh (hA.next hff rfl ?_) fun x h3 dr3 tk3 hAf => hQ x h3 dr3 tk3 (After.pre (ins2 := [(it, itO l (i + 1)), (l, lsO xs n), (S, lsO [.int (a + b) t'] c')]) (hz.trans hz1) hff rfl hAf)
    intro j p hp
    match j, hp with
    | 0, hp => cases hp; exact (hf it (Ne.symm n2)).trans hI1
    | 1, hp => cases hp; exact (hf l (Ne.symm n3)).trans hL1
    | 2, hp => cases hp; exact hg
    | j + 3, hp => simp at hp
  rcases hst with rfl | rfl
  · show wpAny _ _ (if (_ : Bool) = true then (mkInt (a + b) >>= _) else _) _ _ _
    split
    · refine wpAny_bind (wpAny_mkInt ?_)
      show wpAny _ _ (updateSeq S (fun _ => #[.int (a + b) _]) >>= _) _ _ _
      refine wpAny_bind (wpAny_updateSeq hS1 rfl (wpAny_pure ⟨plainId_quiet F.plain_sum_loop _, ?_⟩))
      exact fin _ _ _ 0 _ _ (.inl rfl) (Heap.get?_update_self _ hS1 rfl) (Heap.size_after_update ..) fun x hx => Heap.upd_frame hx
    · refine wpAny_bind (wpAny_rule ?_)
      refine wpAny_bind (wpAny_attempt (wpAny_holding (PySem.P.add_int ?_)))
      show wpAny _ _ (updateSeq S (fun _ => #[.int (a + b) _]) >>= _) _ _ _
      refine wpAny_bind (wpAny_updateSeq hS1 rfl ?_)
      refine wpAny_bind (wpAny_letGo ?_)
      refine wpAny_bind (wpAny_updateSeq (Heap.get?_update_self _ hS1 rfl) rfl (wpAny_pure ⟨plainId_quiet F.plain_sum_loop _, ?_⟩))
      exact fin _ _ _ 2 _ _ (.inr rfl) (Heap.get?_update_self _ (Heap.get?_update_self _ hS1 rfl) rfl) ((Heap.size_after_update ..).trans (Heap.size_after_update ..)) fun x hx => (Heap.upd_frame hx).trans (Heap.upd_frame hx)
  · show wpAny _ _ ((holding [Value.int b tb] (binaryOp .Add (.int a t) (.int b tb))).attempt >>= _) _ _ _
    refine wpAny_bind (wpAny_attempt (wpAny_holding (PySem.P.add_int ?_)))
    show wpAny _ _ (updateSeq S (fun _ => #[.int (a + b) _]) >>= _) _ _ _
    refine wpAny_bind (wpAny_updateSeq hS1 rfl ?_)
    refine wpAny_bind (wpAny_letGo ?_)
    refine wpAny_bind (wpAny_updateSeq (Heap.get?_update_self _ hS1 rfl) rfl (wpAny_pure ⟨plainId_quiet F.plain_sum_loop _, ?_⟩))
    exact fin _ _ _ 2 _ _ (.inr rfl) (Heap.get?_update_self _ (Heap.get?_update_self _ hS1 rfl) rfl) ((Heap.size_after_update ..).trans (Heap.size_after_update ..)) fun x hx => (Heap.upd_frame hx).trans (Heap.upd_frame hx)
end
end Mine
end
section
open PySem PySem.Spec PySem.Calls PyProof.Rows PySem.W PySem.W.X
set_option maxRecDepth 1000000
set_option linter.unusedVariables false
namespace Mine
noncomputable abbrev rNx : X → PySem.Result := fun _ => .ok .next
noncomputable abbrev oNl : X → List Obj := fun _ => []
noncomputable abbrev dOb (es : Array DictEntry) (tn : Nat) : Obj := ⟨.type "dict", none, .dict es tn, #[]⟩
noncomputable abbrev cNo : Obj := ⟨.type "cell", none, .cell none, #[]⟩
noncomputable abbrev Zaa : Array Nat := #[118,105,101,119]
noncomputable abbrev Zab : Array Nat := #[105,110,110,101,114]
noncomputable abbrev Zac : Array Nat := #[97,95,100,105,103,105,116,115]
noncomputable abbrev Zad : Array Nat := #[119,111,114,100]
noncomputable abbrev Zae : Array Nat := #[119,111,114,100,115]
noncomputable abbrev Zaf : Array Nat := #[47,99,108,97,105,109,47,99,117,116,46,112,121]
noncomputable abbrev Zag : Array Nat := #[102,97,114]
noncomputable abbrev Zah : Array Nat := #[99,104,111,115,101,110]
noncomputable abbrev Zai : Array Nat := #[98,105,116,115]
noncomputable abbrev Zaj : Array Nat := #[112,105,99,107,101,100]
noncomputable abbrev dq0 (w : World) (k0 : Nat) (v0 : Value) : Obj := dcE w [([114,101,97,100], k0, v0)]
noncomputable abbrev fq1 (w : World) (k0 : Nat) (v0 : Value) (k1 : Nat) (v1 : Value) (k2 : Nat) (v2 : Value) : Obj := frE w [([118,105,101,119,115], k0, v0), ([102,105,103,117,114,101,115], k1, v1), ([116,97,98,108,101], k2, v2)]
noncomputable abbrev fq2 (w : World) (k0 : Nat) (v0 : Value) (k1 : Nat) (v1 : Value) (k2 : Nat) (v2 : Value) (k3 : Nat) (v3 : Value) (k4 : Nat) (v4 : Value) (k5 : Nat) (v5 : Value) : Obj := frE w [([118,105,101,119,115], k0, v0), ([102,105,103,117,114,101,115], k1, v1), ([116,97,98,108,101], k2, v2), ([110], k3, v3), ([107], k4, v4), ([118,105,101,119], k5, v5)]
noncomputable abbrev fq3 (w : World) (k0 : Nat) (v0 : Value) (k1 : Nat) (v1 : Value) (k2 : Nat) (v2 : Value) : Obj := frE w [([119,111,114,100,115], k0, v0), ([109,97,114,107,101,100], k1, v1), ([102,97,114], k2, v2)]
noncomputable abbrev dq4 (w : World) (k0 : Nat) (v0 : Value) : Obj := dcE w [([111,110,101], k0, v0)]
noncomputable abbrev fq5 (w : World) (k0 : Nat) (v0 : Value) (k1 : Nat) (v1 : Value) (k2 : Nat) (v2 : Value) (k3 : Nat) (v3 : Value) : Obj := frE w [([115,101,108,102], k0, v0), ([116,111,107,101,110], k1, v1), ([102,105,116,101,114], k2, v2), ([99,104], k3, v3)]
noncomputable abbrev fq6 (w : World) (k0 : Nat) (v0 : Value) (k1 : Nat) (v1 : Value) (k2 : Nat) (v2 : Value) : Obj := frE w [([115,101,108,102], k0, v0), ([116,111,107,101,110], k1, v1), ([102,105,116,101,114], k2, v2)]
noncomputable abbrev fq7 (w : World) (k0 : Nat) (v0 : Value) (k1 : Nat) (v1 : Value) (k2 : Nat) (v2 : Value) (k3 : Nat) (v3 : Value) (k4 : Nat) (v4 : Value) (k5 : Nat) (v5 : Value) (k6 : Nat) (v6 : Value) (k7 : Nat) (v7 : Value) (k8 : Nat) (v8 : Value) : Obj := frE w [([109,97,99,104,105,110,101], k0, v0), ([119,111,114,100,115], k1, v1), ([116,97,98,108,101], k2, v2), ([119,111,114,100], k3, v3), ([116,117,114,110], k4, v4), ([114,105,103,104,116], k5, v5), ([119,114,111,110,103], k6, v6), ([107], k7, v7), ([110,97,109,101,100], k8, v8)]
noncomputable abbrev fq8 (w : World) (k0 : Nat) (v0 : Value) (k1 : Nat) (v1 : Value) (k2 : Nat) (v2 : Value) (k3 : Nat) (v3 : Value) (k4 : Nat) (v4 : Value) (k5 : Nat) (v5 : Value) (k6 : Nat) (v6 : Value) : Obj := frE w [([109,97,99,104,105,110,101], k0, v0), ([119,111,114,100,115], k1, v1), ([116,97,98,108,101], k2, v2), ([119,111,114,100], k3, v3), ([116,117,114,110], k4, v4), ([114,105,103,104,116], k5, v5), ([119,114,111,110,103], k6, v6)]
noncomputable abbrev fq9 (w : World) (k0 : Nat) (v0 : Value) : Obj := frE w [([115,99,114,105,112,116], k0, v0)]
noncomputable abbrev dq10 (w : World) (k0 : Nat) (v0 : Value) : Obj := dcE w [([110], k0, v0)]
noncomputable abbrev dq11 (w : World) (k0 : Nat) (v0 : Value) : Obj := dcE w [([119,111,114,100], k0, v0)]
noncomputable abbrev fq12 (w : World) (k0 : Nat) (v0 : Value) (k1 : Nat) (v1 : Value) (k2 : Nat) (v2 : Value) (k3 : Nat) (v3 : Value) : Obj := frE w [([109,97,99,104,105,110,101], k0, v0), ([119,111,114,100,115], k1, v1), ([116,97,98,108,101], k2, v2), ([119,111,114,100], k3, v3)]
noncomputable abbrev fq13 (w : World) (k0 : Nat) (v0 : Value) (k1 : Nat) (v1 : Value) (k2 : Nat) (v2 : Value) (k3 : Nat) (v3 : Value) (k4 : Nat) (v4 : Value) (k5 : Nat) (v5 : Value) (k6 : Nat) (v6 : Value) (k7 : Nat) (v7 : Value) (k8 : Nat) (v8 : Value) (k9 : Nat) (v9 : Value) : Obj := frE w [([109,97,99,104,105,110,101], k0, v0), ([119,111,114,100,115], k1, v1), ([116,97,98,108,101], k2, v2), ([119,111,114,100], k3, v3), ([116,117,114,110], k4, v4), ([114,105,103,104,116], k5, v5), ([119,114,111,110,103], k6, v6), ([107], k7, v7), ([110,97,109,101,100], k8, v8), ([108,111,115,116], k9, v9)]
noncomputable abbrev fq14 (w : World) (k0 : Nat) (v0 : Value) (k1 : Nat) (v1 : Value) (k2 : Nat) (v2 : Value) : Obj := frE w [([118,105,101,119,115], k0, v0), ([109,97,114,107,101,100], k1, v1), ([116,97,98,108,101], k2, v2)]
noncomputable abbrev fq15 (w : World) (k0 : Nat) (v0 : Value) (k1 : Nat) (v1 : Value) (k2 : Nat) (v2 : Value) (k3 : Nat) (v3 : Value) : Obj := frE w [([118,105,101,119,115], k0, v0), ([109,97,114,107,101,100], k1, v1), ([116,97,98,108,101], k2, v2), ([116,104,101,114,101], k3, v3)]
noncomputable abbrev fq16 (w : World) (k0 : Nat) (v0 : Value) (k1 : Nat) (v1 : Value) (k2 : Nat) (v2 : Value) (k3 : Nat) (v3 : Value) (k4 : Nat) (v4 : Value) (k5 : Nat) (v5 : Value) (k6 : Nat) (v6 : Value) (k7 : Nat) (v7 : Value) (k8 : Nat) (v8 : Value) (k9 : Nat) (v9 : Value) : Obj := frE w [([119,111,114,100,115], k0, v0), ([110,117,109,98,101,114], k1, v1), ([116,111,108,100], k2, v2), ([119], k3, v3), ([114,105,103,104,116], k4, v4), ([119,114,111,110,103], k5, v5), ([107], k6, v6), ([103,114,101,97,116], k7, v7), ([111,116,104,101,114,115], k8, v8), ([102,105,103,117,114,101], k9, v9)]
noncomputable abbrev fq17 (w : World) (k0 : Nat) (v0 : Value) (k1 : Nat) (v1 : Value) (k2 : Nat) (v2 : Value) (k3 : Nat) (v3 : Value) (k4 : Nat) (v4 : Value) (k5 : Nat) (v5 : Value) : Obj := frE w [([119,111,114,100,115], k0, v0), ([110,117,109,98,101,114], k1, v1), ([116,111,108,100], k2, v2), ([119], k3, v3), ([114,105,103,104,116], k4, v4), ([119,114,111,110,103], k5, v5)]
noncomputable abbrev fq18 (w : World) (k0 : Nat) (v0 : Value) (k1 : Nat) (v1 : Value) (k2 : Nat) (v2 : Value) : Obj := frE w [([119,111,114,100,115], k0, v0), ([110,117,109,98,101,114], k1, v1), ([116,111,108,100], k2, v2)]
noncomputable abbrev dq19 (w : World) (k0 : Nat) (v0 : Value) : Obj := dcE w [([115,105,103,110], k0, v0)]
noncomputable abbrev fq20 (w : World) (k0 : Nat) (v0 : Value) (k1 : Nat) (v1 : Value) (k2 : Nat) (v2 : Value) (k3 : Nat) (v3 : Value) (k4 : Nat) (v4 : Value) (k5 : Nat) (v5 : Value) (k6 : Nat) (v6 : Value) (k7 : Nat) (v7 : Value) (k8 : Nat) (v8 : Value) (k9 : Nat) (v9 : Value) (k10 : Nat) (v10 : Value) (k11 : Nat) (v11 : Value) : Obj := frE w [([115,99,114,105,112,116], k0, v0), ([110,117,109,98,101,114], k1, v1), ([119,97,121], k2, v2), ([118,105,101,119,115], k3, v3), ([116,101,120,116], k4, v4), ([109,97,99,104,105,110,101], k5, v5), ([102,105,103,117,114,101,115], k6, v6), ([109,97,114,107,101,100], k7, v7), ([108,111,115,116], k8, v8), ([97,103,97,105,110], k9, v9), ([119,105,100,101,110,101,100], k10, v10), ([100,117,101], k11, v11)]
noncomputable abbrev gI (w : World) (mi md pb st sd rf cd ct ca al tu cl : Nat) (ν : Nat → Nat) (n rd : Nat) (a0 : Value) (rest : List Value) (q : Nat) (s : Str) (ts na : Nat) (L : Int) (lt p tp : Nat) : List (Nat × Obj) := [(mi, machI md), (md, machD w (.int L lt) st pb ν), (pb, lsO [] n), (st, lamO w cl sd), (sd, dcE w [([114,101,97,100], rd, .ref rf)]), (rf, rfO w ct ca cd tu), (cd, cdO a0 q rest), (ct, cellO (.str s ts)), (ca, cellO (.ref al)), (al, lsO [.int (Int.ofNat p) tp] na)]
noncomputable abbrev gO (w : World) (mi md pb st sd rf cd ct ca al tu cl : Nat) (ν : Nat → Nat) (n rd : Nat) (a0 : Value) (rest : List Value) (q : Nat) (s : Str) (ts na : Nat) (L : Int) (lt p tp : Nat) : List Obj := [machI md, machD w (.int L lt) st pb ν, lsO [] n, lamO w cl sd, dcE w [([114,101,97,100], rd, .ref rf)], rfO w ct ca cd tu, cdO a0 q rest, cellO (.str s ts), cellO (.ref al), lsO [.int (Int.ofNat p) tp] na]
noncomputable abbrev gJ (fr : Nat) (F : Obj) (mi bm fi es : Nat) : List (Nat × Obj) := [(fr, F), (bm, ⟨.type "method", none, .fields #[.ref 71, .ref mi], #[]⟩), (fi, ⟨.type "callable_iterator", none, .fields #[.ref bm, sv [] es, .bool false], #[]⟩)]
noncomputable abbrev gP (F : Obj) (mi bm es : Nat) : List Obj := [F, ⟨.type "method", none, .fields #[.ref 71, .ref mi], #[]⟩, ⟨.type "callable_iterator", none, .fields #[.ref bm, sv [] es, .bool false], #[]⟩]
noncomputable def oq0 : List Nat := [1,0,0,1,1,1,1,1,1,1,1,0,0,2,2,2,2,2,2,1,1,0,0,3,3,3,3,3,3,1,1,0,1,4,4,4,1,1,1,4,4,4,4,4,1,4,4,4,4,4,4,4,4,1,1,1,1,2,2,2,2,1,1,1,4,4,4,4,4,1,1,1,3,3,3,3,3,1]
noncomputable def oq1 : List Nat := [5,5,5,5,5,5,5,5,1000005,3,3,3,3,1,1,1,1,6,6,6,6,18,18,18,18,18,6,18,18,18,18,18,18,6,18,18,18,18,18,18,6,18,18,20,3,3,3,3,3,3,3,3,2,2,2,2,21,21,21,21,3,3,4,4,4]
noncomputable def oq2 : List Nat := [1,0,1,1,1,1,0,1,1,0,1,1,0,0,1,2,2,2,0,0,1,3,3,3,3,4,4,4,4,4,3,4,4,4,4,4,4,3,4,4,4,4,4,4,3,4,4,6,1,1,1,1,1,2,2,2,2,2,1,1,1,1,2,2,2,2,2,1,1,1,1,1]
noncomputable def oq3 : List Nat := [1,0,1,1,1,1,0,1,1,0,1,1,0,0,1,2,2,2,0,0,1,3,3,3,3,4,4,4,4,4,3,4,4,4,4,4,4,3,4,4,4,4,4,4,3,4,4,6,1,1,1,1,1,2,2,2,2,2,1,1,1,1,2,2,2,2,2,1,1,1,1,1,1,0,0,1,1,1,1,2,2,2,2,2,2,2,1,1,1,2,2,2,7,7,7,7,7,2,7,7,1,1,1,1,1,1,1,1,1,1,0,0,1,1,1,7,7,7,7,2,7,7,9]
noncomputable def oq4 : List Nat := [1,0,1,1,1,1,0,1,1,0,1,1,0,0,1,2,2,2,0,0,1,3,3,3,3,4,4,4,4,4,3,4,4,4,4,4,4,3,4,4,4,4,4,4,3,4,4,6,1,1,1,1,1,2,2,2,2,2,1,1,1,1,1]
noncomputable def oq5 : List Nat := [1,0,1,1,1,1,0,1,1,0,1,1,0,0,1,2,2,2,0,0,1,3,3,3,3,4,4,4,4,4,3,4,4,4,4,4,4,3,4,4,4,4,4,4,3,4,4,6,1,1,1,1,1,2,2,2,2,2,1,1,1,1,1,0,0,1,1,1,1,2,2,2,2,2,2,2,1,2,2,2,2,2,1,1,1,1,1,1,2,2,2,7,7,7,7,7,2,7,7,1,1,1,1,1,1,1,1,1,1,0,0,1,1,1,7,7,7,7,2,7,7,9]
noncomputable def oq6 : List Nat := [1,0,1,1,1,1,0,1,1,0,1,1,0,0,1,2,2,2,0,0,1,3,3,3,3,4,4,4,4,4,3,4,4,4,4,4,4,3,4,4,4,4,4,4,3,4,4,6,1,1,1,1,1,2,2,2,2,2,1,1,1,1,1,0,0,1,1,1,1,2,2,2,2,2,2,2,1,2,2,2,2,2,1,1,1,1,1]
noncomputable def oq7 : List Nat := [1,0,1,1,1,1,0,1,1,0,1,1,0,0,1,2,2,2,0,0,1,3,3,3,3,4,4,4,4,4,3,4,4,4,4,4,4,3,4,4,4,4,4,4,3,4,4,6,1,1,1,1,1,2,2,2,2,2,1,1,1,1,1,0,0,1,1,1,1,2,2,2,2,2,2,2,1,2,2,2,2,2,1,1,1,1,1,1,0,0,1,1,1,1,2,2,2,2,2,2,2,1,1,1,2,2,2,7,7,7,7,7,2,7,7,9]
noncomputable def oq8 : List Nat := [13,13,13,13,12,0,0,12,13,13,11,11,11,11,1,0,0,0,1,0,0,0,1,1,0,2,11,11,11,1,0,0,0,1,0,0,0,1,0,0,0,0,1,2,0,11,11,11,11,11,11,11,13,13,13,13]
noncomputable def oq9 : List Nat := [13,13,13,13,12,0,0,12,13,13,11,11,11,11,1,0,0,0,1,0,0,0,1,1,0,2,11,11,11,11,11,11,11,13,13,13,13]
noncomputable def oq10 : List Nat := [13,13,13,13,12,0,0,12,13,13,11,11,11,11,1,0,0,0,1,0,0,0,1,1,0,2,11,11,13,13,13,13]
noncomputable def oq11 : List Nat := [2,2,7,7,7,7,7,7,7,7,7,7,7,7,7,7,3,7,7,7,7,7,7,7,7,7,7,7,5,7,7,7,1,5,7,7,7,1]
noncomputable def oq12 : List Nat := [3,3,3,3,3,3,3,3,3,1,1,1,1,1,4,4,4,4,1,1,5,5,5,5,2,2,2,2,1,1,1,1,1,1,1,1]
noncomputable def oq13 : List Nat := [3,3,3,3,3,3,3,3,3,1,1,1,1,1,4,4,4,4,1,1,5,5,5,5,2,2,2,2,1,1,1,1,1,1]
noncomputable def oq14 : List Nat := [3,3,3,3,3,3,3,3,3,1,1,1,1,1,4,4,4,4,1,1,5,5,5,5,2,2,2,2,1,1,1,1,1,1,1,1,1]
noncomputable def oq15 : List Nat := [1,1,1,1,1,1,1,1,1000001,3,3,5,3,7,7,7,7,4,3,6,6,6,6,2]
noncomputable def oq16 : List Nat := [6,6,6,6,6,6,6,6,1000006,5,5,5,1,0,0,0,1,0,0,0,1,0,0,0,0,1,2,0,5,5,5,5,5,5,0,0,7,7,7,7,7,7,7,7,7,7,8,5,5,5,1,0,0,0,1,0,0,0,1,0,0,0,0,1,2,5,0]
noncomputable def oq17 : List Nat := [6,6,6,6,6,6,6,6,1000006,5,5,5,1,0,0,0,1,0,0,0,1,0,0,0,0,1,2,0,5,5,5,5,5,5,0,0,7,7,7,7,7,7,7,7,7,7,8,5,5,1,0,0,0,1,0,0,0,1,0,0,0,0,1,2,5,0]
noncomputable def oq18 : List Nat := [6,6,6,6,6,6,6,6,1000006,5,5,5,1,0,0,0,1,0,0,0,1,0,0,0,0,1,2,0,5,5,5,5,5,5,0,0,7,7,7,7,7,7,7,7,7,7,8,5,5]
noncomputable def oq19 : List Nat := [7,7,7,8,8,8,8,20,20,20,20,20,8,20,20,20,20,20,20,8,20,20,20,20,20,20,8,20,20,22,4,4,5,5,3,2,2,2,23,3,3,25,3,5,6,6,6,0,0,3]
noncomputable def oq20 : List Nat := [7,7,7,8,8,8,8,20,20,20,20,20,8,20,20,20,20,20,20,8,20,20,20,20,20,20,8,20,20,22,4,4,5,5,3,2,2,2,23,23,23,23,23,3,3,25,3,5,6,6,6,0,0,3]
noncomputable def oq21 : List Nat := [7,7,7,8,8,8,8,20,20,20,20,20,8,20,20,20,20,20,20,8,20,20,20,20,20,20,8,20,20,22,4,4,5,5,3,2,2,2,23,3,3,25,25,25,3,5,6,6,6,0,0,3,3,24,24,24,24,24,4,4,3,5,6,6,6]
noncomputable def oq22 : List Nat := [7,7,7,8,8,8,8,20,20,20,20,20,8,20,20,20,20,20,20,8,20,20,20,20,20,20,8,20,20,22,4,4,5,5,3,2,2,2,23,23,23,23,23,3,3,25,25,25,3,5,6,6,6,0,0,3,3,24,24,24,24,24,4,4,3,5,6,6,6]
noncomputable def oq23 : List Nat := [7,7,7,8,8,8,8,20,20,20,20,20,8,20,20,20,20,20,20,8,20,20,20,20,20,20,8,20,20,22,4,4,5,5,3,2,2,2,23,3,3,25,25,25,3,5,6,6,6,0,0,3]
noncomputable def oq24 : List Nat := [7,7,7,8,8,8,8,20,20,20,20,20,8,20,20,20,20,20,20,8,20,20,20,20,20,20,8,20,20,22,4,4,5,5,3,2,2,2,23,23,23,23,23,3,3,25,25,25,3,5,6,6,6,0,0,3]
noncomputable def oq25 : List Nat := [1,0,3,3,4,4,0,1,1,1,1,0,0,0,5,5,0,0,0,3,4,0,6,6,5,0,0,3,14,15,13,16,16,16,16,16,16,4,0,0,3,16,16,17,17,17,17]
noncomputable def oq26 : List Nat := [1,0,4,4,5,5,0,1,0,0,0,6,6,0,0,0,4,5,0,7,7,6,0,0,4,9,10,2,11,11,11,11,11,11,5,0,0,4,11,11,12,12,12,12]
noncomputable def oq27 : List Nat := [2,2,2,2,2,2,2,2,2,1,1,1,1,1,1,1,1,1,1,1,1,1,1,1,1,1,1,1,1,1,1,1,1,1]
noncomputable def oq28 : List Nat := [2,2,2,2,2,2,2,2,2,1,1,1,1,1,1,1,1,1,1,1,1,1,1,1,1,1,1,1,1,1,1]
noncomputable def oq29 : List Nat := [4,4,4,4,4,4,4,4,1000004,3,3,3,3,3,3,0,0,5,5,5,5,5,5,5,5,5,5,6,3,3,3,2,2,2,2,3,3,1,1,1,1,2]
noncomputable def oq30 : List Nat := [4,4,4,4,4,4,4,4,1000004,3,3,3,3,3,3,0,0,5,5,5,5,5,5,5,5,5,5,6,3,3,2,2,2,2,3,3,1,1,1,1,2]
noncomputable def oq31 : List Nat := [4,4,4,4,4,4,4,4,1000004,3,3,3,3,3,3,0,0,5,5,5,5,5,5,5,5,5,5,6,3,3]
noncomputable abbrev iN (a : Nat) : Int := Int.ofNat a
section
variable (w : World) (os : OsState)
theorem push_g (mi md st pb : Addr) (ln : Value) (ν : Nat → Nat) (xs : List Value) (n : Nat) (s : Str) (u : Nat) (hx : xs.length ≤ 100) : CS w os 700 (.call (.ref 85) ⟨[.ref mi, .str s u], []⟩) (machIns w mi md pb st ln ν xs n) 0 (fun x => rOk .none) (fun _ => machOut w md pb st ln ν (xs ++ [.str s u]) (n + 1)) (fun x => []) :=
  CB (isB ["list.append"]) 30000 [1,0,4,4,4,4,4,1,0,0,0,1,0,0,0,1,1,0,2,3,3,3,3,4,3] (fun b0 t0 => vj (append_s (l := pb) (xs := xs) (n := n) (v := .str s u) hx) [2] fun _ => fin [] []) (by kernel_rfl)
theorem get_g (mi md st pb : Addr) (ln : Value) (ν : Nat → Nat) (xs : List Value) (n : Nat) (s : Str) (u : Nat) (hx : xs.length ≤ 100) : CS w os 700 (.call (.ref 78) ⟨[.ref mi], []⟩) (machIns w mi md pb st ln ν (.str s u :: xs) n) 0 (fun x => rOk (.str s u)) (fun _ => machOut w md pb st ln ν xs (n + 1)) (fun x => []) :=
  CB (isB ["list.pop","len"]) 30000 [1,0,4,4,4,1,0,0,0,1,0,0,0,1,1,0,2,3,3,4,1,0,0,0,1,0,0,0,1,1,0,2,3,3,3,3,3] (fun b0 t0 => vi (lenL (l := pb) (xs := .str s u :: xs) (n := n) (k := xs.length + 1) rfl (by omega)) [2] fun b1 t1 x1 => vj (pop_s (l := pb) (xs := xs) (n := n) (v := .str s u) (u := (t1+2)) hx) [2] fun _ => fin [] []) (by kernel_rfl)
theorem rf_a (rf cd ct ca al tu : Addr) (a0 : Value) (rest : List Value) (q : Nat) (s : Str) (ts na p tp : Nat) (c : Nat) (hc : s.cps[p]? = some c) (h2 : 2 ≤ s.length) (hp : p < 1000000) (u : Nat) : CS w os 700 (.call (.ref rf) ⟨[.int 1 u], []⟩) [(rf, rfO w ct ca cd tu), (cd, cdO a0 q rest), (ct, cellO (.str s ts)), (ca, cellO (.ref al)), (al, lsO [.int (iN p) tp] na)] 0 (fun x => rOk (sv [c] (x.a 0))) (fun x => [rfO w ct ca cd tu, cdO a0 q rest, cellO (.str s ts), cellO (.ref al), lsO [.int (iN (p+1)) (x.a 1)] na]) oNl :=
  CB (isB ["str.__getitem__"]) 30000 [2,2,6,6,3,4,5,5,5,5,5,4,5,5,5,5,5,6,6,6,4,5,5,5,5,5,0,0,6,4,5,5,5,5,5,5,6] (fun b0 t0 => vi (slice1 (a := (b0+1)) (p := p) (t := ts) (u := (tp)) (v := (t0+4)) (s := s) (c := c) hc h2 hp) [6] fun b1 t1 x1 => fin [] [(x1.a 0), (t1+5)]) (by kernel_rfl)
theorem cp_1 (u v z : Nat)  : CS w os 480 (.call (.ref 22) ⟨[.int (iN 1) u, .int 5 v, .int 2048 z], []⟩) [] 1 (fun x => rOk (.ref (x.a 0))) oNl (fun _ => [dcE w []]) :=
  CB3 (noStop) 30000 oq0 (fun b0 t0 => fin [4] []) (by kernel_rfl) (by kernel_rfl)
theorem cp_2 (u v z : Nat)  : CS w os 480 (.call (.ref 22) ⟨[.int (iN 2) u, .int 5 v, .int 2048 z], []⟩) [] 1 (fun x => rOk (.ref (x.a 0))) oNl (fun _ => [dcE w []]) :=
  CB3 (noStop) 30000 oq0 (fun b0 t0 => fin [4] []) (by kernel_rfl) (by kernel_rfl)
theorem cp_3 (u v z : Nat)  : CS w os 480 (.call (.ref 22) ⟨[.int (iN 3) u, .int 5 v, .int 2048 z], []⟩) [] 1 (fun x => rOk (.ref (x.a 0))) oNl (fun _ => [dcE w []]) :=
  CB3 (noStop) 30000 oq0 (fun b0 t0 => fin [4] []) (by kernel_rfl) (by kernel_rfl)
theorem cp_4 (u v z : Nat)  : CS w os 480 (.call (.ref 22) ⟨[.int (iN 4) u, .int 5 v, .int 2048 z], []⟩) [] 1 (fun x => rOk (.ref (x.a 0))) oNl (fun _ => [dcE w []]) :=
  CB3 (noStop) 30000 oq0 (fun b0 t0 => fin [4] []) (by kernel_rfl) (by kernel_rfl)
theorem cp_5 (u v z : Nat)  : CS w os 480 (.call (.ref 22) ⟨[.int (iN 5) u, .int 5 v, .int 2048 z], []⟩) [] 1 (fun x => rOk (.ref (x.a 0))) oNl (fun _ => [dcE w []]) :=
  CB3 (noStop) 30000 oq0 (fun b0 t0 => fin [4] []) (by kernel_rfl) (by kernel_rfl)
theorem cp_6 (u v z : Nat)  : CS w os 480 (.call (.ref 22) ⟨[.int (iN 6) u, .int 5 v, .int 2048 z], []⟩) [] 1 (fun x => rOk (.ref (x.a 0))) oNl (fun _ => [dcE w []]) :=
  CB3 (noStop) 30000 oq0 (fun b0 t0 => fin [4] []) (by kernel_rfl) (by kernel_rfl)
theorem cp_7 (u v z : Nat)  : CS w os 480 (.call (.ref 22) ⟨[.int (iN 7) u, .int 5 v, .int 2048 z], []⟩) [] 1 (fun x => rOk (.ref (x.a 0))) oNl (fun _ => [dcE w []]) :=
  CB3 (noStop) 30000 oq0 (fun b0 t0 => fin [4] []) (by kernel_rfl) (by kernel_rfl)
theorem cp_8 (u v z : Nat)  : CS w os 480 (.call (.ref 22) ⟨[.int (iN 8) u, .int 5 v, .int 2048 z], []⟩) [] 1 (fun x => rOk (.ref (x.a 0))) oNl (fun _ => [dcE w []]) :=
  CB3 (noStop) 30000 oq0 (fun b0 t0 => fin [4] []) (by kernel_rfl) (by kernel_rfl)
theorem rc_ch (mi md pb st sd rf cd ct ca al tu cl : Addr) (ν : Nat → Nat) (xs : List Value) (n : Nat) (L : Int) (lt : Nat) (rd : Nat) (a0 : Value) (rest : List Value) (q : Nat) (s : Str) (ts na p tp : Nat) (c : Nat) (hc : s.cps[p]? = some c) (h2 : 2 ≤ s.length) (hp : p < 1000000) (hnl : ([c] == [10]) = false) : CS w os 650 (.call (.ref 71) ⟨[.ref mi], []⟩) [(mi, machI md), (md, machD w (.int L lt) st pb ν), (pb, lsO xs n), (st, lamO w cl sd), (sd, dq0 w rd (.ref rf)), (rf, rfO w ct ca cd tu), (cd, cdO a0 q rest), (ct, cellO (.str s ts)), (ca, cellO (.ref al)), (al, lsO [.int (iN p) tp] na)] 0 (fun x => rOk (sv [c] (x.a 0))) (fun x => [machI md, machD w (.int L lt) st pb ν, lsO xs n, lamO w cl sd, dq0 w rd (.ref rf), rfO w ct ca cd tu, cdO a0 q rest, cellO (.str s ts), cellO (.ref al), lsO [.int (iN (p+1)) (x.a 1)] na]) oNl :=
  CB (orS isCallI (isB ["str.__eq__"])) 30000 [1,0,11,11,11,1,0,0,0,1,0,0,0,1,1,0,2,4,4,4,4,4,4,4,4,5,6,11,11,11,11] (fun b0 t0 => via (rf_a w os rf cd ct ca al tu a0 rest q s ts na p tp c hc h2 hp (t0+4)) [5,6,7,8,9] fun b1 t1 x1 => vj (eqS (s := ⟨#[c]⟩) (t := ⟨#[10]⟩) (u := (x1.a 0)) (v := (t1+2)) hnl) [] fun _ => fin [] [(x1.a 0), (x1.a 1)]) (by kernel_rfl)
theorem rc_nl (mi md pb st sd rf cd ct ca al tu cl : Addr) (ν : Nat → Nat) (xs : List Value) (n : Nat) (L : Int) (lt : Nat) (rd : Nat) (a0 : Value) (rest : List Value) (q : Nat) (s : Str) (ts na p tp : Nat) (c : Nat) (hc : s.cps[p]? = some c) (h2 : 2 ≤ s.length) (hp : p < 1000000) (hnl : ([c] == [10]) = true) : CS w os 650 (.call (.ref 71) ⟨[.ref mi], []⟩) [(mi, machI md), (md, machD w (.int L lt) st pb ν), (pb, lsO xs n), (st, lamO w cl sd), (sd, dq0 w rd (.ref rf)), (rf, rfO w ct ca cd tu), (cd, cdO a0 q rest), (ct, cellO (.str s ts)), (ca, cellO (.ref al)), (al, lsO [.int (iN p) tp] na)] 0 (fun x => rOk (sv [c] (x.a 0))) (fun x => [machI md, machD w (.int (L + 1) (x.a 2)) st pb ν, lsO xs n, lamO w cl sd, dq0 w rd (.ref rf), rfO w ct ca cd tu, cdO a0 q rest, cellO (.str s ts), cellO (.ref al), lsO [.int (iN (p+1)) (x.a 1)] na]) oNl :=
  CB (orS isCallI (isB ["str.__eq__"])) 30000 [1,0,11,11,11,1,0,0,0,1,0,0,0,1,1,0,2,4,4,4,4,4,4,4,4,5,6,11,11,11,11,1,0,0,0,1,0,0,0,1,1,0,2,1,0,0,0,1,0,1,0,1,0,0,0,1,0,2,2,2,11] (fun b0 t0 => via (rf_a w os rf cd ct ca al tu a0 rest q s ts na p tp c hc h2 hp (t0+4)) [5,6,7,8,9] fun b1 t1 x1 => vi (eqS (s := ⟨#[c]⟩) (t := ⟨#[10]⟩) (u := (x1.a 0)) (v := (t1+2)) hnl) [] fun b2 t2 x2 => fin [] [(x1.a 0), (x1.a 1), (t2+3)]) (by kernel_rfl)
theorem words_s  : CS w os 430 (.call (.ref 123) ⟨[], []⟩) [] 1 (fun x => rOk (.ref (x.a 0))) oNl (fun x => [wordsO fun i => x.a (i + 1)]) :=
  CB2 (noStop) 30000 [1,0,1,1,0,0,4,4,4,4,4,4,4,4,4,4,5,5,5,5,5,5,5,5,5,5,2,2,1,3,3,3,3,0,0,6,6,6,6,6,6,6,6,6,6,7,7,7,7,7,7,7,7,7,7,9,9,9,2,9,8,8,8,8,7,7,7,7,7,7,7,7,7,9,9,9,2,9,8,8,8,8,7,7,7,7,7,7,7,7,7,9,9,9,2,9,8,8,8,8,7,7,7,7,7,11,9,9,9,8,8,3,3,3,3,5,5,5,5,5,5,5,5,5,2,2,1,3,3,3,3,0,0,12,12,12,12,12,12,12,12,12,12,13,13,13,13,13,13,13,13,13,13,15,15,15,2,15,14,14,14,14,13,13,13,13,13,13,13,13,13,15,15,15,2,15,14,14,14,14,13,13,13,13,13,13,13,13,13,15,15,15,2,15,14,14,14,14,13,13,13,13,13,17,15,15,15,14,14,3,3,3,3,5,5,5,5,5,5,5,5,5,2,2,1,3,3,3,3,0,0,18,18,18,18,18,18,18,18,18,18,19,19,19,19,19,19,19,19,19,19,21,21,21,2,21,20,20,20,20,19,19,19,19,19,19,19,19,19,21,21,21,2,21,20,20,20,20,19,19,19,19,19,19,19,19,19,21,21,21,2,21,20,20,20,20,19,19,19,19,19,23,21,21,21,20,20,3,3,3,3,5,5,5,5,5,5,5,5,5,2,2,1,3,3,3,3,0,0,24,24,24,24,24,24,24,24,24,24,25,25,25,25,25,25,25,25,25,25,27,27,27,2,27,26,26,26,26,25,25,25,25,25,25,25,25,25,27,27,27,2,27,26,26,26,26,25,25,25,25,25,25,25,25,25,27,27,27,2,27,26,26,26,26,25,25,25,25,25,29,27,27,27,26,26,3,3,3,3,5,5,5,5,5,5,5,5,5,2,2,1,3,3,3,3,0,0,30,30,30,30,30,30,30,30,30,30,31,31,31,31,31,31,31,31,31,31,33,33,33,2,33,32,32,32,32,31,31,31,31,31,31,31,31,31,33,33,33,2,33,32,32,32,32,31,31,31,31,31,31,31,31,31,33,33,33,2,33,32,32,32,32,31,31,31,31,31,35,33,33,33,32,32,3,3,3,3,5,5,5,5,5,5,5,5,5,2,2,1,3,3,3,3,0,0,36,36,36,36,36,36,36,36,36,36,37,37,37,37,37,37,37,37,37,37,39,39,39,2,39,38,38,38,38,37,37,37,37,37,37,37,37,37,39,39,39,2,39,38,38,38,38,37,37,37,37,37,37,37,37,37,39,39,39,2,39,38,38,38,38,37,37,37,37,37,41,39,39,39,38,38,3,3,3,3,5,5,5,5,5,5,5,5,5,2,2,1,3,3,3,3,0,0,42,42,42,42,42,42,42,42,42,42,43,43,43,43,43,43,43,43,43,43,45,45,45,2,45,44,44,44,44,43,43,43,43,43,43,43,43,43,45,45,45,2,45,44,44,44,44,43,43,43,43,43,43,43,43,43,45,45,45,2,45,44,44,44,44,43,43,43,43,43,47,45,45,45,44,44,3,3,3,3,5,5,5,5,5,5,5,5,5,2,2,1,3,3,3,3,0,0,48,48,48,48,48,48,48,48,48,48,49,49,49,49,49,49,49,49,49,49,51,51,51,2,51,50,50,50,50,49,49,49,49,49,49,49,49,49,51,51,51,2,51,50,50,50,50,49,49,49,49,49,49,49,49,49,51,51,51,2,51,50,50,50,50,49,49,49,49,49,53,51,51,51,50,50,3,3,3,3,5,5,5,5,5,55,1] [1,0,1,1,0,0,4,4,4,4,4,4,4,4,4,4,5,5,5,5,5,5,5,5,5,5,2,2,1,3,3,3,3,0,0,6,6,6,6,6,6,6,6,6,6,7,7,7,7,7,7,7,7,7,7,7,7,7,7,9,9,9,2,9,8,8,8,8,7,7,7,7,7,7,7,7,7,9,9,9,2,9,8,8,8,8,7,7,7,7,7,7,7,7,7,9,9,9,2,9,8,8,8,8,7,7,7,7,7,11,9,9,9,8,8,3,3,3,3,5,5,5,5,5,5,5,5,5,2,2,1,3,3,3,3,0,0,12,12,12,12,12,12,12,12,12,12,13,13,13,13,13,13,13,13,13,13,13,13,13,13,15,15,15,2,15,14,14,14,14,13,13,13,13,13,13,13,13,13,15,15,15,2,15,14,14,14,14,13,13,13,13,13,13,13,13,13,15,15,15,2,15,14,14,14,14,13,13,13,13,13,17,15,15,15,14,14,3,3,3,3,5,5,5,5,5,5,5,5,5,2,2,1,3,3,3,3,0,0,18,18,18,18,18,18,18,18,18,18,19,19,19,19,19,19,19,19,19,19,19,19,19,19,21,21,21,2,21,20,20,20,20,19,19,19,19,19,19,19,19,19,21,21,21,2,21,20,20,20,20,19,19,19,19,19,19,19,19,19,21,21,21,2,21,20,20,20,20,19,19,19,19,19,23,21,21,21,20,20,3,3,3,3,5,5,5,5,5,5,5,5,5,2,2,1,3,3,3,3,0,0,24,24,24,24,24,24,24,24,24,24,25,25,25,25,25,25,25,25,25,25,25,25,25,25,27,27,27,2,27,26,26,26,26,25,25,25,25,25,25,25,25,25,27,27,27,2,27,26,26,26,26,25,25,25,25,25,25,25,25,25,27,27,27,2,27,26,26,26,26,25,25,25,25,25,29,27,27,27,26,26,3,3,3,3,5,5,5,5,5,5,5,5,5,2,2,1,3,3,3,3,0,0,30,30,30,30,30,30,30,30,30,30,31,31,31,31,31,31,31,31,31,31,31,31,31,31,33,33,33,2,33,32,32,32,32,31,31,31,31,31,31,31,31,31,33,33,33,2,33,32,32,32,32,31,31,31,31,31,31,31,31,31,33,33,33,2,33,32,32,32,32,31,31,31,31,31,35,33,33,33,32,32,3,3,3,3,5,5,5,5,5,5,5,5,5,2,2,1,3,3,3,3,0,0,36,36,36,36,36,36,36,36,36,36,37,37,37,37,37,37,37,37,37,37,37,37,37,37,39,39,39,2,39,38,38,38,38,37,37,37,37,37,37,37,37,37,39,39,39,2,39,38,38,38,38,37,37,37,37,37,37,37,37,37,39,39,39,2,39,38,38,38,38,37,37,37,37,37,41,39,39,39,38,38,3,3,3,3,5,5,5,5,5,5,5,5,5,2,2,1,3,3,3,3,0,0,42,42,42,42,42,42,42,42,42,42,43,43,43,43,43,43,43,43,43,43,43,43,43,43,45,45,45,2,45,44,44,44,44,43,43,43,43,43,43,43,43,43,45,45,45,2,45,44,44,44,44,43,43,43,43,43,43,43,43,43,45,45,45,2,45,44,44,44,44,43,43,43,43,43,47,45,45,45,44,44,3,3,3,3,5,5,5,5,5,5,5,5,5,2,2,1,3,3,3,3,0,0,48,48,48,48,48,48,48,48,48,48,49,49,49,49,49,49,49,49,49,49,49,49,49,49,51,51,51,2,51,50,50,50,50,49,49,49,49,49,49,49,49,49,51,51,51,2,51,50,50,50,50,49,49,49,49,49,49,49,49,49,51,51,51,2,51,50,50,50,50,49,49,49,49,49,53,51,51,51,50,50,3,3,3,3,5,5,5,5,5,55,1] (fun b0 t0 => fin [2] [(t0+46), (t0+88), (t0+130), (t0+172), (t0+214), (t0+256), (t0+298), (t0+340)]) (by kernel_rfl) (by kernel_rfl)
theorem views_s (wl : Addr) (τ : Nat → Nat) : CS w os 430 (.call (.ref 130) ⟨[.ref wl], []⟩) [(wl, wordsO τ)] 13 (fun x => rOk (.ref (x.a 0))) (fun _ => [wordsO τ]) (fun x => [lst [.ref (x.a 1), .ref (x.a 2), .ref (x.a 3), .ref (x.a 4), .ref (x.a 5), .ref (x.a 6), .ref (x.a 7), .ref (x.a 8), .ref (x.a 9), .ref (x.a 10), .ref (x.a 11), .ref (x.a 12)] 12, tupO [.int 0 (x.a 13), sv [46, 46, 46, 98, 99] (x.a 16)], tupO [.int 0 (x.a 13), sv [46, 46, 46, 66, 99] (x.a 17)], tupO [.int 0 (x.a 13), sv [46, 46, 46, 98, 67] (x.a 18)], tupO [.int 0 (x.a 13), sv [46, 46, 46, 66, 67] (x.a 19)], tupO [.int 1 (x.a 14), sv [97, 46, 46, 46, 99] (x.a 20)], tupO [.int 1 (x.a 14), sv [65, 46, 46, 46, 99] (x.a 21)], tupO [.int 1 (x.a 14), sv [97, 46, 46, 46, 67] (x.a 22)], tupO [.int 1 (x.a 14), sv [65, 46, 46, 46, 67] (x.a 23)], tupO [.int 2 (x.a 15), sv [97, 98, 46, 46, 46] (x.a 24)], tupO [.int 2 (x.a 15), sv [65, 98, 46, 46, 46] (x.a 25)], tupO [.int 2 (x.a 15), sv [97, 66, 46, 46, 46] (x.a 26)], tupO [.int 2 (x.a 15), sv [65, 66, 46, 46, 46] (x.a 27)]]) :=
  CB (noStop) 30000 [1,0,2,2,2,2,0,0,4,4,4,4,4,4,4,4,4,4,5,5,5,5,5,5,5,5,5,5,2,2,2,1,1,1,6,6,6,6,6,1,6,6,2,2,2,2,2,2,3,3,3,3,2,2,2,7,7,7,7,2,2,8,8,8,8,3,3,3,3,6,6,6,6,1,6,6,2,2,2,2,2,6,6,6,6,1,6,6,2,2,2,2,2,2,3,3,3,3,2,2,2,10,10,10,10,2,2,11,11,11,11,3,3,3,3,6,6,6,6,1,6,6,2,2,2,2,2,6,6,6,6,1,6,6,2,2,2,2,2,2,3,3,3,3,2,2,2,13,13,13,13,2,2,14,14,14,14,3,3,3,3,6,6,6,6,1,6,6,2,2,2,2,2,6,6,6,6,1,6,6,2,2,2,2,2,2,3,3,3,3,2,2,2,16,16,16,16,2,2,17,17,17,17,3,3,3,3,6,6,6,6,1,6,6,2,2,2,2,2,6,6,6,6,1,6,6,20,5,5,5,5,5,5,5,5,5,2,2,2,1,1,1,21,21,21,21,21,1,21,21,2,2,2,2,2,2,3,3,3,3,2,2,2,22,22,22,22,2,2,23,23,23,23,3,3,3,3,21,21,21,21,1,21,21,2,2,2,2,2,2,3,3,3,3,2,2,2,25,25,25,25,2,2,26,26,26,26,3,3,3,3,21,21,21,21,1,21,21,2,2,2,2,2,21,21,21,21,1,21,21,2,2,2,2,2,21,21,21,21,1,21,21,2,2,2,2,2,2,3,3,3,3,2,2,2,28,28,28,28,2,2,29,29,29,29,3,3,3,3,21,21,21,21,1,21,21,2,2,2,2,2,2,3,3,3,3,2,2,2,31,31,31,31,2,2,32,32,32,32,3,3,3,3,21,21,21,21,1,21,21,2,2,2,2,2,21,21,21,21,1,21,21,2,2,2,2,2,21,21,21,21,1,21,21,35,5,5,5,5,5,5,5,5,5,2,2,2,1,1,1,36,36,36,36,36,1,36,36,2,2,2,2,2,2,3,3,3,3,2,2,2,37,37,37,37,2,2,38,38,38,38,3,3,3,3,36,36,36,36,1,36,36,2,2,2,2,2,2,3,3,3,3,2,2,2,40,40,40,40,2,2,41,41,41,41,3,3,3,3,36,36,36,36,1,36,36,2,2,2,2,2,2,3,3,3,3,2,2,2,43,43,43,43,2,2,44,44,44,44,3,3,3,3,36,36,36,36,1,36,36,2,2,2,2,2,2,3,3,3,3,2,2,2,46,46,46,46,2,2,47,47,47,47,3,3,3,3,36,36,36,36,1,36,36,2,2,2,2,2,36,36,36,36,1,36,36,2,2,2,2,2,36,36,36,36,1,36,36,2,2,2,2,2,36,36,36,36,1,36,36,2,2,2,2,2,36,36,36,36,1,36,36,50,5,5,5,5,5,52,2] (fun b0 t0 => fin [2, 8, 11, 14, 17, 23, 26, 29, 32, 38, 41, 44, 47] [(t0+6), (t0+64), (t0+126), (t0+17), (t0+31), (t0+45), (t0+59), (t0+76), (t0+87), (t0+106), (t0+117), (t0+134), (t0+144), (t0+154), (t0+164)]) (by kernel_rfl)
theorem machine_m (s : Str) (u : Nat) : CS w os 400 (.call (.ref 113) ⟨[.str s u], []⟩) [(108, tableObj #[])] 10 (fun x => rOk (.ref (x.a 0))) (fun x => [tableObj #[.int (iN 198) 0, .int (iN 4) 0, .ref (x.a 21), .int (iN 202) 0, .int (iN 13) 0, .ref (x.a 22)]]) (fun x => [machI (x.a 1), machD w (.int (iN 1) (x.a 10)) (x.a 3) (x.a 2) (fun j => x.a (11 + j)), lsO [] 0, lamO w (x.a 16) (x.a 4), dq0 w (x.a 17) (.ref (x.a 5)), rfO w (x.a 7) (x.a 8) (x.a 6) (x.a 18), cdO (x.v 17) (x.a 19) [x.v 0, x.v 1, x.v 2, x.v 3, x.v 4, x.v 5, x.v 6, x.v 7, x.v 8, x.v 9, x.v 10, x.v 11, x.v 12, x.v 13, x.v 14, x.v 15, x.v 16], cellO (.str s u), cellO (.ref (x.a 9)), lsO [.int (iN 0) (x.a 20)] 0]) :=
  CB (noStop) 30000 [1,0,3,3,4,4,0,1,1,1,1,0,0,0,2,2,0,1,1,1,1,0,0,0,2,2,2,2,20,20,20,20,20,20,21,21,21,0,2,0,0,0,0,0,0,0,0,0,0,0,0,0,0,0,0,0,0,0,0,0,0,0,0,0,0,0,0,0,23,0,23,0,0,0,0,1,0,24,24,24,24,24,23,0,0,0,23,0,23,0,23,0,0,0,23,0,22,22,22,24,24,23,0,0,0,23,0,23,0,23,0,0,0,23,0,22,22,22,24,23,0,0,0,23,0,23,0,23,0,0,0,23,0,22,22,22,24,23,0,0,0,23,0,23,0,23,0,0,0,23,0,22,22,22] (fun b0 t0 => finz [22,21,24,19,20,12,11,2,3,4] (nth [(t0+22), (t0+24), (t0+26), (t0+29), (t0+27), (t0+31), (b0+17), (t0+19), (b0+4), (t0+3), (t0+1), (b0+10), (b0+17)]) (fun _ => default) (fun j => match j with | 0 => .str (⟨Zaf⟩ : Str) (t0+4) | 1 => .int 198 0 | 2 => .int 1 0 | 3 => .int 0 0 | 4 => .int 0 0 | 5 => .int 19 0 | 6 => .ref (b0+5) | 7 => .bool true | 8 => .int 181 0 | 9 => .ref (b0+6) | 10 => .none | 11 => .ref (b0+7) | 12 => .ref (b0+8) | 13 => .ref (b0+9) | 14 => .int (iN (t0+9)) 0 | 15 => .int 198 0 | 16 => .str (⟨Zaf⟩ : Str) (t0+10) | _ => .str (⟨#[95, 108, 97, 119, 95, 114, 101, 97, 100, 95, 111, 110]⟩ : Str) (t0+2))) (by kernel_rfl)
theorem lev_p100 (c0 c1 c2 d0 d1 d2 : Nat) (hw : ([c0,c1,c2] == [d0,d1,d2]) = false) (e0 : ([c0] == [d0]) = false) (e1 : ([c1] == [d1]) = true) (e2 : ([c2] == [d2]) = true) (s00 : SubC w os d0 c0 1) (u v z : Nat) : CS w os 700 (.call (.ref 106) ⟨[sv [c0,c1,c2] u, sv [d0,d1,d2] v, .int 1 z], []⟩) [] 0 (fun x => rOk (.int 1 (x.a 0))) oNl oNl :=
  CB (orS (isB ["str.__eq__"]) (isCallTo [99])) 30000 [1,0,1,1,1,1,1,1,1,1,1,1,1,1,2,2,2,2,1,1,3,3,3,3,1,1,1,1,1,1,4,4,4,4,1,1,1,1,5,5,5,5,1,1,1,1,1,1,6,6,6,6,1,1,7,7,7,7,1,1,1,1,1,1,1,1,1,8,8,8,8,1,1,9,9,9,9,1,1,1,1,1,1,1,1,1,10,10,10,10,1,1,11,11,11,11,1,1,1,1,1,1,12,12,12,12,1,1,1,1,13,13,13,13,1,1,1,1,0,0,1,0,0,0,1,0,0,0,1,0,0,1,0,0,1,0,0,1,0,1,0,0,0,0,0,0,0,0,1,0,14,14,14,14,15,15,15,14,13,15,15,15,15,14,14,14,14,14,14,14,16,14,14,14,14,14,14,14,15,15,15,15,15,15,16,16,16,16,16,16,16,16,16,15,15,15,16,16,16,16,16,18,1,1,1,1,0,0,0,0,1,19,19,19,19,19,19,19,19,19,19,20,20,20,20,20,20,20,20,20,20,1,1,1,1,1,1,1,0,1,1,1,1,1,1,0,0,0,0,1,21,21,21,21,21,21,21,21,21,21,22,22,22,22,22,22,22,22,22,22,1,1,1,0,1,1,1,0,1,1,1,1,15,15,15,15,15,1,1,0,0,1,1,23,23,23,24,25,24,24,24,24,23,24,24,25,25,25,25,24,24,24,24,23,24,24,25,24,24,24,24,23,24,24,27,25,25,25,0,1,1,0,0,1,1,28,28,28,29,30,29,29,29,29,28,29,29,30,30,30,30,29,29,29,29,28,29,29,30,30,30,30,29,29,29,29,28,29,29,32,30,30,30,1,1,1,1,1,15,15,15,15,15,15,1,1,1,1,1,22,22,22,22,22,34,1,1,20,20,20,20,20,36,1] (fun b0 t0 => vi (eqS (s := ⟨#[c0,c1,c2]⟩) (t := ⟨#[d0,d1,d2]⟩) (u := (u)) (v := (v)) hw) [] fun b1 t1 x1 => vi (eqS (s := ⟨#[c0]⟩) (t := ⟨#[d0]⟩) (u := (t1+7)) (v := (t1+8)) e0) [] fun b2 t2 x2 => vi (eqS (s := ⟨#[c2]⟩) (t := ⟨#[d2]⟩) (u := (t2+11)) (v := (t2+14)) e2) [] fun b3 t3 x3 => vi (eqS (s := ⟨#[c1]⟩) (t := ⟨#[d1]⟩) (u := (t3+12)) (v := (t3+15)) e1) [] fun b4 t4 x4 => vi (eqS (s := ⟨#[c0]⟩) (t := ⟨#[d0]⟩) (u := (t4+12)) (v := (t4+15)) e0) [] fun b5 t5 x5 => via (s00 ((t5+40)) ((t5+53))) [] fun b6 t6 x6 => fin [] [(t6+1)]) (by kernel_rfl)
theorem lev_p010 (c0 c1 c2 d0 d1 d2 : Nat) (hw : ([c0,c1,c2] == [d0,d1,d2]) = false) (e0 : ([c0] == [d0]) = true) (e1 : ([c1] == [d1]) = false) (e2 : ([c2] == [d2]) = true) (s11 : SubC w os d1 c1 1) (u v z : Nat) : CS w os 700 (.call (.ref 106) ⟨[sv [c0,c1,c2] u, sv [d0,d1,d2] v, .int 1 z], []⟩) [] 0 (fun x => rOk (.int 1 (x.a 0))) oNl oNl :=
  CB (orS (isB ["str.__eq__"]) (isCallTo [99])) 30000 [1,0,1,1,1,1,1,1,1,1,1,1,1,1,2,2,2,2,1,1,3,3,3,3,1,1,1,1,1,1,1,1,1,4,4,4,4,1,1,5,5,5,5,1,1,1,1,1,1,6,6,6,6,1,1,1,1,7,7,7,7,1,1,1,1,1,1,8,8,8,8,1,1,9,9,9,9,1,1,1,1,1,1,1,1,1,10,10,10,10,1,1,11,11,11,11,1,1,1,1,1,1,12,12,12,12,1,1,1,1,13,13,13,13,1,1,1,1,0,0,1,0,0,0,1,0,0,0,1,0,0,1,0,0,1,0,0,1,0,1,0,0,0,0,0,0,0,0,1,0,14,14,14,14,15,15,15,14,13,15,15,15,15,14,14,14,14,14,14,14,16,14,14,14,14,14,14,14,15,15,15,15,15,15,16,16,16,16,16,16,16,16,16,15,15,15,16,16,16,16,16,18,1,1,1,1,0,0,0,0,1,19,19,19,19,19,19,19,19,19,19,20,20,20,20,20,20,20,20,20,20,1,1,1,1,1,1,1,0,1,1,1,1,1,1,0,0,0,0,1,21,21,21,21,21,21,21,21,21,21,22,22,22,22,22,22,22,22,22,22,1,1,1,0,1,1,1,0,1,1,1,1,15,15,15,15,15,1,1,0,0,1,1,23,23,23,24,25,24,24,24,24,23,24,24,25,25,25,25,24,24,24,24,23,24,24,25,24,24,24,24,23,24,24,27,25,25,25,0,1,1,0,0,1,1,28,28,28,29,30,29,29,29,29,28,29,29,30,30,30,30,29,29,29,29,28,29,29,30,30,30,30,29,29,29,29,28,29,29,32,30,30,30,1,1,1,1,1,15,15,15,15,15,15,1,1,1,1,1,22,22,22,22,22,34,1,1,20,20,20,20,20,36,1] (fun b0 t0 => vi (eqS (s := ⟨#[c0,c1,c2]⟩) (t := ⟨#[d0,d1,d2]⟩) (u := (u)) (v := (v)) hw) [] fun b1 t1 x1 => vi (eqS (s := ⟨#[c0]⟩) (t := ⟨#[d0]⟩) (u := (t1+7)) (v := (t1+8)) e0) [] fun b2 t2 x2 => vi (eqS (s := ⟨#[c1]⟩) (t := ⟨#[d1]⟩) (u := (t2+10)) (v := (t2+11)) e1) [] fun b3 t3 x3 => vi (eqS (s := ⟨#[c2]⟩) (t := ⟨#[d2]⟩) (u := (t3+13)) (v := (t3+16)) e2) [] fun b4 t4 x4 => vi (eqS (s := ⟨#[c1]⟩) (t := ⟨#[d1]⟩) (u := (t4+12)) (v := (t4+15)) e1) [] fun b5 t5 x5 => via (s11 ((t5+40)) ((t5+53))) [] fun b6 t6 x6 => fin [] [(t6+1)]) (by kernel_rfl)
theorem lev_p001 (c0 c1 c2 d0 d1 d2 : Nat) (hw : ([c0,c1,c2] == [d0,d1,d2]) = false) (e0 : ([c0] == [d0]) = true) (e1 : ([c1] == [d1]) = true) (e2 : ([c2] == [d2]) = false) (s22 : SubC w os d2 c2 1) (u v z : Nat) : CS w os 700 (.call (.ref 106) ⟨[sv [c0,c1,c2] u, sv [d0,d1,d2] v, .int 1 z], []⟩) [] 0 (fun x => rOk (.int 1 (x.a 0))) oNl oNl :=
  CB (orS (isB ["str.__eq__"]) (isCallTo [99])) 30000 [1,0,1,1,1,1,1,1,1,1,1,1,1,1,2,2,2,2,1,1,3,3,3,3,1,1,1,1,1,1,1,1,1,4,4,4,4,1,1,5,5,5,5,1,1,1,1,1,1,1,1,1,6,6,6,6,1,1,7,7,7,7,1,1,1,1,1,1,8,8,8,8,1,1,1,1,9,9,9,9,1,1,1,1,1,1,10,10,10,10,1,1,11,11,11,11,1,1,1,1,1,1,12,12,12,12,1,1,1,1,13,13,13,13,1,1,1,1,0,0,1,0,0,0,1,0,0,0,1,0,0,1,0,0,1,0,0,1,0,1,0,0,0,0,0,0,0,0,1,0,14,14,14,14,15,15,15,14,13,15,15,15,15,14,14,14,14,14,14,14,16,14,14,14,14,14,14,14,15,15,15,15,15,15,16,16,16,16,16,16,16,16,16,15,15,15,16,16,16,16,16,18,1,1,1,1,0,0,0,0,1,19,19,19,19,19,19,19,19,19,19,20,20,20,20,20,20,20,20,20,20,1,1,1,1,1,1,1,0,1,1,1,1,1,1,0,0,0,0,1,21,21,21,21,21,21,21,21,21,21,22,22,22,22,22,22,22,22,22,22,1,1,1,0,1,1,1,0,1,1,1,1,15,15,15,15,15,1,1,0,0,1,1,23,23,23,24,25,24,24,24,24,23,24,24,25,25,25,25,24,24,24,24,23,24,24,25,24,24,24,24,23,24,24,27,25,25,25,0,1,1,0,0,1,1,28,28,28,29,30,29,29,29,29,28,29,29,30,30,30,30,29,29,29,29,28,29,29,30,30,30,30,29,29,29,29,28,29,29,32,30,30,30,1,1,1,1,1,15,15,15,15,15,15,1,1,1,1,1,22,22,22,22,22,34,1,1,20,20,20,20,20,36,1] (fun b0 t0 => vi (eqS (s := ⟨#[c0,c1,c2]⟩) (t := ⟨#[d0,d1,d2]⟩) (u := (u)) (v := (v)) hw) [] fun b1 t1 x1 => vi (eqS (s := ⟨#[c0]⟩) (t := ⟨#[d0]⟩) (u := (t1+7)) (v := (t1+8)) e0) [] fun b2 t2 x2 => vi (eqS (s := ⟨#[c1]⟩) (t := ⟨#[d1]⟩) (u := (t2+10)) (v := (t2+11)) e1) [] fun b3 t3 x3 => vi (eqS (s := ⟨#[c2]⟩) (t := ⟨#[d2]⟩) (u := (t3+10)) (v := (t3+11)) e2) [] fun b4 t4 x4 => vi (eqS (s := ⟨#[c2]⟩) (t := ⟨#[d2]⟩) (u := (t4+13)) (v := (t4+16)) e2) [] fun b5 t5 x5 => via (s22 ((t5+38)) ((t5+51))) [] fun b6 t6 x6 => fin [] [(t6+1)]) (by kernel_rfl)
theorem lev_p110 (c0 c1 c2 d0 d1 d2 : Nat) (hw : ([c0,c1,c2] == [d0,d1,d2]) = false) (e0 : ([c0] == [d0]) = false) (e1 : ([c1] == [d1]) = false) (e2 : ([c2] == [d2]) = true) (s00 : SubC w os d0 c0 1) (s01 : SubC w os d0 c1 2) (s10 : SubC w os d1 c0 2) (s11 : SubC w os d1 c1 1) (u v z : Nat) : CS w os 700 (.call (.ref 106) ⟨[sv [c0,c1,c2] u, sv [d0,d1,d2] v, .int 1 z], []⟩) [] 0 (fun x => rOk (.int 2 (x.a 0))) oNl oNl :=
  CB (orS (isB ["str.__eq__"]) (isCallTo [99])) 30000 [1,0,1,1,1,1,1,1,1,1,1,1,1,1,2,2,2,2,1,1,3,3,3,3,1,1,1,1,1,1,4,4,4,4,1,1,1,1,5,5,5,5,1,1,1,1,1,1,6,6,6,6,1,1,7,7,7,7,1,1,1,1,1,1,1,1,1,8,8,8,8,1,1,9,9,9,9,1,1,1,1,1,1,10,10,10,10,1,1,1,1,11,11,11,11,1,1,1,1,0,0,1,0,0,0,1,0,0,0,1,0,0,1,0,0,1,0,0,1,0,1,0,0,0,0,0,0,0,0,1,0,12,12,12,12,13,13,13,12,11,13,13,13,13,12,12,12,12,12,12,12,14,12,12,12,12,12,12,12,13,13,13,13,13,13,14,14,14,14,14,14,14,14,14,13,13,13,14,14,14,14,14,14,14,14,14,13,13,13,14,14,14,14,14,16,1,1,1,1,0,0,0,0,1,17,17,17,17,17,17,17,17,17,17,18,18,18,18,18,18,18,18,18,18,1,1,1,1,1,1,1,0,1,1,1,1,1,1,0,0,0,0,1,19,19,19,19,19,19,19,19,19,19,20,20,20,20,20,20,20,20,20,20,1,1,1,0,1,1,1,0,1,1,1,1,13,13,13,13,13,1,1,0,0,1,1,21,21,21,22,23,22,22,22,22,21,22,22,23,23,23,23,22,22,22,22,21,22,22,23,22,22,22,22,21,22,22,25,23,23,23,0,1,1,0,0,1,1,26,26,26,27,28,27,27,27,27,26,27,27,28,28,28,28,27,27,27,27,26,27,27,28,28,28,28,27,27,27,27,26,27,27,30,28,28,28,1,1,1,1,1,13,13,13,13,13,13,1,1,1,1,1,20,20,20,20,20,20,20,20,20,1,1,1,0,1,1,1,0,1,1,1,1,13,13,13,13,13,1,1,0,0,1,1,31,31,31,32,33,32,32,32,32,31,32,32,33,33,33,33,32,32,32,32,31,32,32,33,32,32,32,32,31,32,32,35,33,33,33,0,1,1,0,0,1,1,36,36,36,37,38,37,37,37,37,36,37,37,38,38,38,38,37,37,37,37,36,37,37,38,37,37,37,37,36,37,37,40,38,38,38,1,1,1,1,1,13,13,13,13,13,13,1,1,20,20,20,20,20,42,1,1,18,18,18,18,18,18,18,18,18,1,1,1,1,1,1,1,0,1,1,1,1,1,1,0,0,0,0,1,43,43,43,43,43,43,43,43,43,43,44,44,44,44,44,44,44,44,44,44,1,1,1,0,1,1,1,0,1,1,1,1,13,13,13,13,13,1,1,0,0,1,1,45,45,45,46,47,46,46,46,46,45,46,46,47,47,47,47,46,46,46,46,45,46,46,47,47,47,47,46,46,46,46,45,46,46,49,47,47,47,0,1,1,0,0,1,1,50,50,50,51,52,51,51,51,51,50,51,51,52,52,52,52,51,51,51,51,50,51,51,52,51,51,51,51,50,51,51,54,52,52,52,1,1,1,1,1,13,13,13,13,13,13,1,1,1,1,1,44,44,44,44,44,44,44,44,44,1,1,1,0,1,1,1,0,1,1,1,1,13,13,13,13,13,1,1,0,0,1,1,55,55,55,56,57,56,56,56,56,55,56,56,57,57,57,57,56,56,56,56,55,56,56,57,56,56,56,56,55,56,56,59,57,57,57,0,1,1,0,0,1,1,60,60,60,61,62,61,61,61,61,60,61,61,62,62,62,62,61,61,61,61,60,61,61,62,62,62,62,61,61,61,61,60,61,61,64,62,62,62,1,1,1,1,1,13,13,13,13,13,13,1,1,1,1,1,44,44,44,44,44,66,1,1,1] (fun b0 t0 => vi (eqS (s := ⟨#[c0,c1,c2]⟩) (t := ⟨#[d0,d1,d2]⟩) (u := (u)) (v := (v)) hw) [] fun b1 t1 x1 => vi (eqS (s := ⟨#[c0]⟩) (t := ⟨#[d0]⟩) (u := (t1+7)) (v := (t1+8)) e0) [] fun b2 t2 x2 => vi (eqS (s := ⟨#[c2]⟩) (t := ⟨#[d2]⟩) (u := (t2+11)) (v := (t2+14)) e2) [] fun b3 t3 x3 => vi (eqS (s := ⟨#[c1]⟩) (t := ⟨#[d1]⟩) (u := (t3+12)) (v := (t3+15)) e1) [] fun b4 t4 x4 => via (s00 ((t4+41)) ((t4+54))) [] fun b5 t5 x5 => via (s01 ((t4+41)) ((t5+10))) [] fun b6 t6 x6 => via (s10 ((t6+9)) ((t6+22))) [] fun b7 t7 x7 => via (s11 ((t6+9)) ((t7+10))) [] fun b8 t8 x8 => fin [] [(t8+9)]) (by kernel_rfl)
theorem lev_p101 (c0 c1 c2 d0 d1 d2 : Nat) (hw : ([c0,c1,c2] == [d0,d1,d2]) = false) (e0 : ([c0] == [d0]) = false) (e1 : ([c1] == [d1]) = true) (e2 : ([c2] == [d2]) = false) (s00 : SubC w os d0 c0 1) (s01 : SubC w os d0 c1 2) (s02 : SubC w os d0 c2 2) (s20 : SubC w os d2 c0 2) (s21 : SubC w os d2 c1 2) (s22 : SubC w os d2 c2 1) (s10 : SubC w os d1 c0 2) (s11 : SubC w os d1 c1 0) (s12 : SubC w os d1 c2 2) (u v z : Nat) : CS w os 700 (.call (.ref 106) ⟨[sv [c0,c1,c2] u, sv [d0,d1,d2] v, .int 1 z], []⟩) [] 0 (fun x => rOk (.int 2 (x.a 0))) oNl oNl :=
  CB (orS (isB ["str.__eq__"]) (isCallTo [99])) 30000 [1,0,1,1,1,1,1,1,1,1,1,1,1,1,2,2,2,2,1,1,3,3,3,3,1,1,1,1,1,1,4,4,4,4,1,1,1,1,5,5,5,5,1,1,1,1,1,1,6,6,6,6,1,1,7,7,7,7,1,1,1,1,1,1,8,8,8,8,1,1,1,1,9,9,9,9,1,1,1,1,0,0,1,0,0,0,1,0,0,0,1,0,0,1,0,0,1,0,0,1,0,1,0,0,0,0,0,0,0,0,1,0,10,10,10,10,11,11,11,10,9,11,11,11,11,10,10,10,10,10,10,10,12,10,10,10,10,10,10,10,11,11,11,11,11,11,12,12,12,12,12,12,12,12,12,11,11,11,12,12,12,12,12,12,12,12,12,11,11,11,12,12,12,12,12,12,12,12,12,11,11,11,12,12,12,12,12,14,1,1,1,1,0,0,0,0,1,15,15,15,15,15,15,15,15,15,15,16,16,16,16,16,16,16,16,16,16,1,1,1,1,1,1,1,0,1,1,1,1,1,1,0,0,0,0,1,17,17,17,17,17,17,17,17,17,17,18,18,18,18,18,18,18,18,18,18,1,1,1,0,1,1,1,0,1,1,1,1,11,11,11,11,11,1,1,0,0,1,1,19,19,19,20,21,20,20,20,20,19,20,20,21,21,21,21,20,20,20,20,19,20,20,21,20,20,20,20,19,20,20,23,21,21,21,0,1,1,0,0,1,1,24,24,24,25,26,25,25,25,25,24,25,25,26,26,26,26,25,25,25,25,24,25,25,26,26,26,26,25,25,25,25,24,25,25,28,26,26,26,1,1,1,1,1,11,11,11,11,11,11,1,1,1,1,1,18,18,18,18,18,18,18,18,18,1,1,1,0,1,1,1,0,1,1,1,1,11,11,11,11,11,1,1,0,0,1,1,29,29,29,30,31,30,30,30,30,29,30,30,31,31,31,31,30,30,30,30,29,30,30,31,30,30,30,30,29,30,30,33,31,31,31,0,1,1,0,0,1,1,34,34,34,35,36,35,35,35,35,34,35,35,36,36,36,36,35,35,35,35,34,35,35,36,35,35,35,35,34,35,35,38,36,36,36,1,1,1,1,1,11,11,11,11,11,11,1,1,18,18,18,18,18,18,18,18,18,1,1,1,0,1,1,1,0,1,1,1,1,11,11,11,11,11,1,1,0,0,1,1,39,39,39,40,41,40,40,40,40,39,40,40,41,41,41,41,40,40,40,40,39,40,40,41,40,40,40,40,39,40,40,43,41,41,41,0,1,1,0,0,1,1,44,44,44,45,46,45,45,45,45,44,45,45,46,46,46,46,45,45,45,45,44,45,45,46,45,45,45,45,44,45,45,48,46,46,46,1,1,1,1,1,11,11,11,11,11,11,1,1,18,18,18,18,18,50,1,1,16,16,16,16,16,16,16,16,16,1,1,1,1,1,1,1,0,1,1,1,1,1,1,0,0,0,0,1,51,51,51,51,51,51,51,51,51,51,52,52,52,52,52,52,52,52,52,52,1,1,1,0,1,1,1,0,1,1,1,1,11,11,11,11,11,1,1,0,0,1,1,53,53,53,54,55,54,54,54,54,53,54,54,55,55,55,55,54,54,54,54,53,54,54,55,55,55,55,54,54,54,54,53,54,54,57,55,55,55,0,1,1,0,0,1,1,58,58,58,59,60,59,59,59,59,58,59,59,60,60,60,60,59,59,59,59,58,59,59,60,59,59,59,59,58,59,59,62,60,60,60,1,1,1,1,1,11,11,11,11,11,11,1,1,1,1,1,52,52,52,52,52,52,52,52,52,1,1,1,0,1,1,1,0,1,1,1,1,11,11,11,11,11,1,1,0,0,1,1,63,63,63,64,65,64,64,64,64,63,64,64,65,65,65,65,64,64,64,64,63,64,64,65,64,64,64,64,63,64,64,67,65,65,65,0,1,1,0,0,1,1,68,68,68,69,70,69,69,69,69,68,69,69,70,70,70,70,69,69,69,69,68,69,69,70,70,70,70,69,69,69,69,68,69,69,72,70,70,70,1,1,1,1,1,11,11,11,11,11,11,1,1,1,1,1,52,52,52,52,52,52,52,52,52,1,1,1,0,1,1,1,0,1,1,1,1,11,11,11,11,11,1,1,0,0,1,1,73,73,73,74,75,74,74,74,74,73,74,74,75,75,75,75,74,74,74,74,73,74,74,75,74,74,74,74,73,74,74,77,75,75,75,0,1,1,0,0,1,1,78,78,78,79,80,79,79,79,79,78,79,79,80,80,80,80,79,79,79,79,78,79,79,80,79,79,79,79,78,79,79,82,80,80,80,1,1,1,1,1,11,11,11,11,11,11,1,1,52,52,52,52,52,84,1,1,16,16,16,16,16,16,16,16,16,1,1,1,1,1,1,1,0,1,1,1,1,1,1,0,0,0,0,1,85,85,85,85,85,85,85,85,85,85,86,86,86,86,86,86,86,86,86,86,1,1,1,0,1,1,1,0,1,1,1,1,11,11,11,11,11,1,1,0,0,1,1,87,87,87,88,89,88,88,88,88,87,88,88,89,89,89,89,88,88,88,88,87,88,88,89,89,89,89,88,88,88,88,87,88,88,91,89,89,89,0,1,1,0,0,1,1,92,92,92,93,94,93,93,93,93,92,93,93,94,94,94,94,93,93,93,93,92,93,93,94,93,93,93,93,92,93,93,96,94,94,94,1,1,1,1,1,11,11,11,11,11,11,1,1,1,1,1,86,86,86,86,86,86,86,86,86,1,1,1,0,1,1,1,0,1,1,1,1,11,11,11,11,11,1,1,0,0,1,1,97,97,97,98,99,98,98,98,98,97,98,98,99,99,99,99,98,98,98,98,97,98,98,99,99,99,99,98,98,98,98,97,98,98,101,99,99,99,0,1,1,0,0,1,1,102,102,102,103,104,103,103,103,103,102,103,103,104,104,104,104,103,103,103,103,102,103,103,104,103,103,103,103,102,103,103,106,104,104,104,1,1,1,1,1,11,11,11,11,11,11,1,1,1,1,1,86,86,86,86,86,86,86,86,86,1,1,1,0,1,1,1,0,1,1,1,1,11,11,11,11,11,1,1,0,0,1,1,107,107,107,108,109,108,108,108,108,107,108,108,109,109,109,109,108,108,108,108,107,108,108,109,108,108,108,108,107,108,108,111,109,109,109,0,1,1,0,0,1,1,112,112,112,113,114,113,113,113,113,112,113,113,114,114,114,114,113,113,113,113,112,113,113,114,114,114,114,113,113,113,113,112,113,113,116,114,114,114,1,1,1,1,1,11,11,11,11,11,11,1,1,1,1,1,86,86,86,86,86,118,1,1,1] (fun b0 t0 => vi (eqS (s := ⟨#[c0,c1,c2]⟩) (t := ⟨#[d0,d1,d2]⟩) (u := (u)) (v := (v)) hw) [] fun b1 t1 x1 => vi (eqS (s := ⟨#[c0]⟩) (t := ⟨#[d0]⟩) (u := (t1+7)) (v := (t1+8)) e0) [] fun b2 t2 x2 => vi (eqS (s := ⟨#[c2]⟩) (t := ⟨#[d2]⟩) (u := (t2+11)) (v := (t2+14)) e2) [] fun b3 t3 x3 => via (s00 ((t3+40)) ((t3+53))) [] fun b4 t4 x4 => via (s01 ((t3+40)) ((t4+10))) [] fun b5 t5 x5 => via (s02 ((t3+40)) ((t5+9))) [] fun b6 t6 x6 => via (s10 ((t6+9)) ((t6+22))) [] fun b7 t7 x7 => via (s11 ((t6+9)) ((t7+10))) [] fun b8 t8 x8 => via (s12 ((t6+9)) ((t8+10))) [] fun b9 t9 x9 => via (s20 ((t9+9)) ((t9+22))) [] fun b10 t10 x10 => via (s21 ((t9+9)) ((t10+10))) [] fun b11 t11 x11 => via (s22 ((t9+9)) ((t11+10))) [] fun b12 t12 x12 => fin [] [(t12+9)]) (by kernel_rfl)
theorem lev_p011 (c0 c1 c2 d0 d1 d2 : Nat) (hw : ([c0,c1,c2] == [d0,d1,d2]) = false) (e0 : ([c0] == [d0]) = true) (e1 : ([c1] == [d1]) = false) (e2 : ([c2] == [d2]) = false) (s11 : SubC w os d1 c1 1) (s12 : SubC w os d1 c2 2) (s21 : SubC w os d2 c1 2) (s22 : SubC w os d2 c2 1) (u v z : Nat) : CS w os 700 (.call (.ref 106) ⟨[sv [c0,c1,c2] u, sv [d0,d1,d2] v, .int 1 z], []⟩) [] 0 (fun x => rOk (.int 2 (x.a 0))) oNl oNl :=
  CB (orS (isB ["str.__eq__"]) (isCallTo [99])) 30000 [1,0,1,1,1,1,1,1,1,1,1,1,1,1,2,2,2,2,1,1,3,3,3,3,1,1,1,1,1,1,1,1,1,4,4,4,4,1,1,5,5,5,5,1,1,1,1,1,1,6,6,6,6,1,1,1,1,7,7,7,7,1,1,1,1,1,1,8,8,8,8,1,1,9,9,9,9,1,1,1,1,1,1,10,10,10,10,1,1,1,1,11,11,11,11,1,1,1,1,0,0,1,0,0,0,1,0,0,0,1,0,0,1,0,0,1,0,0,1,0,1,0,0,0,0,0,0,0,0,1,0,12,12,12,12,13,13,13,12,11,13,13,13,13,12,12,12,12,12,12,12,14,12,12,12,12,12,12,12,13,13,13,13,13,13,14,14,14,14,14,14,14,14,14,13,13,13,14,14,14,14,14,14,14,14,14,13,13,13,14,14,14,14,14,16,1,1,1,1,0,0,0,0,1,17,17,17,17,17,17,17,17,17,17,18,18,18,18,18,18,18,18,18,18,1,1,1,1,1,1,1,0,1,1,1,1,1,1,0,0,0,0,1,19,19,19,19,19,19,19,19,19,19,20,20,20,20,20,20,20,20,20,20,1,1,1,0,1,1,1,0,1,1,1,1,13,13,13,13,13,1,1,0,0,1,1,21,21,21,22,23,22,22,22,22,21,22,22,23,23,23,23,22,22,22,22,21,22,22,23,22,22,22,22,21,22,22,25,23,23,23,0,1,1,0,0,1,1,26,26,26,27,28,27,27,27,27,26,27,27,28,28,28,28,27,27,27,27,26,27,27,28,28,28,28,27,27,27,27,26,27,27,30,28,28,28,1,1,1,1,1,13,13,13,13,13,13,1,1,1,1,1,20,20,20,20,20,20,20,20,20,1,1,1,0,1,1,1,0,1,1,1,1,13,13,13,13,13,1,1,0,0,1,1,31,31,31,32,33,32,32,32,32,31,32,32,33,33,33,33,32,32,32,32,31,32,32,33,32,32,32,32,31,32,32,35,33,33,33,0,1,1,0,0,1,1,36,36,36,37,38,37,37,37,37,36,37,37,38,38,38,38,37,37,37,37,36,37,37,38,37,37,37,37,36,37,37,40,38,38,38,1,1,1,1,1,13,13,13,13,13,13,1,1,20,20,20,20,20,42,1,1,18,18,18,18,18,18,18,18,18,1,1,1,1,1,1,1,0,1,1,1,1,1,1,0,0,0,0,1,43,43,43,43,43,43,43,43,43,43,44,44,44,44,44,44,44,44,44,44,1,1,1,0,1,1,1,0,1,1,1,1,13,13,13,13,13,1,1,0,0,1,1,45,45,45,46,47,46,46,46,46,45,46,46,47,47,47,47,46,46,46,46,45,46,46,47,47,47,47,46,46,46,46,45,46,46,49,47,47,47,0,1,1,0,0,1,1,50,50,50,51,52,51,51,51,51,50,51,51,52,52,52,52,51,51,51,51,50,51,51,52,51,51,51,51,50,51,51,54,52,52,52,1,1,1,1,1,13,13,13,13,13,13,1,1,1,1,1,44,44,44,44,44,44,44,44,44,1,1,1,0,1,1,1,0,1,1,1,1,13,13,13,13,13,1,1,0,0,1,1,55,55,55,56,57,56,56,56,56,55,56,56,57,57,57,57,56,56,56,56,55,56,56,57,56,56,56,56,55,56,56,59,57,57,57,0,1,1,0,0,1,1,60,60,60,61,62,61,61,61,61,60,61,61,62,62,62,62,61,61,61,61,60,61,61,62,62,62,62,61,61,61,61,60,61,61,64,62,62,62,1,1,1,1,1,13,13,13,13,13,13,1,1,1,1,1,44,44,44,44,44,66,1,1,1] (fun b0 t0 => vi (eqS (s := ⟨#[c0,c1,c2]⟩) (t := ⟨#[d0,d1,d2]⟩) (u := (u)) (v := (v)) hw) [] fun b1 t1 x1 => vi (eqS (s := ⟨#[c0]⟩) (t := ⟨#[d0]⟩) (u := (t1+7)) (v := (t1+8)) e0) [] fun b2 t2 x2 => vi (eqS (s := ⟨#[c1]⟩) (t := ⟨#[d1]⟩) (u := (t2+10)) (v := (t2+11)) e1) [] fun b3 t3 x3 => vi (eqS (s := ⟨#[c2]⟩) (t := ⟨#[d2]⟩) (u := (t3+13)) (v := (t3+16)) e2) [] fun b4 t4 x4 => via (s11 ((t4+39)) ((t4+52))) [] fun b5 t5 x5 => via (s12 ((t4+39)) ((t5+10))) [] fun b6 t6 x6 => via (s21 ((t6+9)) ((t6+22))) [] fun b7 t7 x7 => via (s22 ((t6+9)) ((t7+10))) [] fun b8 t8 x8 => fin [] [(t8+9)]) (by kernel_rfl)
theorem lev_p111 (c0 c1 c2 d0 d1 d2 : Nat) (hw : ([c0,c1,c2] == [d0,d1,d2]) = false) (e0 : ([c0] == [d0]) = false) (e1 : ([c1] == [d1]) = false) (e2 : ([c2] == [d2]) = false) (s00 : SubC w os d0 c0 1) (s01 : SubC w os d0 c1 2) (s02 : SubC w os d0 c2 2) (s10 : SubC w os d1 c0 2) (s11 : SubC w os d1 c1 1) (s12 : SubC w os d1 c2 2) (u v z : Nat) : CS w os 700 (.call (.ref 106) ⟨[sv [c0,c1,c2] u, sv [d0,d1,d2] v, .int 1 z], []⟩) [] 0 (fun x => rOk (.int 2 (x.a 0))) oNl oNl :=
  CB (orS (isB ["str.__eq__"]) (isCallTo [99])) 30000 [1,0,1,1,1,1,1,1,1,1,1,1,1,1,2,2,2,2,1,1,3,3,3,3,1,1,1,1,1,1,4,4,4,4,1,1,1,1,5,5,5,5,1,1,1,1,1,1,6,6,6,6,1,1,7,7,7,7,1,1,1,1,1,1,8,8,8,8,1,1,1,1,9,9,9,9,1,1,1,1,0,0,1,0,0,0,1,0,0,0,1,0,0,1,0,0,1,0,0,1,0,1,0,0,0,0,0,0,0,0,1,0,10,10,10,10,11,11,11,10,9,11,11,11,11,10,10,10,10,10,10,10,12,10,10,10,10,10,10,10,11,11,11,11,11,11,12,12,12,12,12,12,12,12,12,11,11,11,12,12,12,12,12,12,12,12,12,11,11,11,12,12,12,12,12,12,12,12,12,11,11,11,12,12,12,12,12,14,1,1,1,1,0,0,0,0,1,15,15,15,15,15,15,15,15,15,15,16,16,16,16,16,16,16,16,16,16,1,1,1,1,1,1,1,0,1,1,1,1,1,1,0,0,0,0,1,17,17,17,17,17,17,17,17,17,17,18,18,18,18,18,18,18,18,18,18,1,1,1,0,1,1,1,0,1,1,1,1,11,11,11,11,11,1,1,0,0,1,1,19,19,19,20,21,20,20,20,20,19,20,20,21,21,21,21,20,20,20,20,19,20,20,21,20,20,20,20,19,20,20,23,21,21,21,0,1,1,0,0,1,1,24,24,24,25,26,25,25,25,25,24,25,25,26,26,26,26,25,25,25,25,24,25,25,26,26,26,26,25,25,25,25,24,25,25,28,26,26,26,1,1,1,1,1,11,11,11,11,11,11,1,1,1,1,1,18,18,18,18,18,18,18,18,18,1,1,1,0,1,1,1,0,1,1,1,1,11,11,11,11,11,1,1,0,0,1,1,29,29,29,30,31,30,30,30,30,29,30,30,31,31,31,31,30,30,30,30,29,30,30,31,30,30,30,30,29,30,30,33,31,31,31,0,1,1,0,0,1,1,34,34,34,35,36,35,35,35,35,34,35,35,36,36,36,36,35,35,35,35,34,35,35,36,35,35,35,35,34,35,35,38,36,36,36,1,1,1,1,1,11,11,11,11,11,11,1,1,18,18,18,18,18,18,18,18,18,1,1,1,0,1,1,1,0,1,1,1,1,11,11,11,11,11,1,1,0,0,1,1,39,39,39,40,41,40,40,40,40,39,40,40,41,41,41,41,40,40,40,40,39,40,40,41,40,40,40,40,39,40,40,43,41,41,41,0,1,1,0,0,1,1,44,44,44,45,46,45,45,45,45,44,45,45,46,46,46,46,45,45,45,45,44,45,45,46,45,45,45,45,44,45,45,48,46,46,46,1,1,1,1,1,11,11,11,11,11,11,1,1,18,18,18,18,18,50,1,1,16,16,16,16,16,16,16,16,16,1,1,1,1,1,1,1,0,1,1,1,1,1,1,0,0,0,0,1,51,51,51,51,51,51,51,51,51,51,52,52,52,52,52,52,52,52,52,52,1,1,1,0,1,1,1,0,1,1,1,1,11,11,11,11,11,1,1,0,0,1,1,53,53,53,54,55,54,54,54,54,53,54,54,55,55,55,55,54,54,54,54,53,54,54,55,55,55,55,54,54,54,54,53,54,54,57,55,55,55,0,1,1,0,0,1,1,58,58,58,59,60,59,59,59,59,58,59,59,60,60,60,60,59,59,59,59,58,59,59,60,59,59,59,59,58,59,59,62,60,60,60,1,1,1,1,1,11,11,11,11,11,11,1,1,1,1,1,52,52,52,52,52,52,52,52,52,1,1,1,0,1,1,1,0,1,1,1,1,11,11,11,11,11,1,1,0,0,1,1,63,63,63,64,65,64,64,64,64,63,64,64,65,65,65,65,64,64,64,64,63,64,64,65,64,64,64,64,63,64,64,67,65,65,65,0,1,1,0,0,1,1,68,68,68,69,70,69,69,69,69,68,69,69,70,70,70,70,69,69,69,69,68,69,69,70,70,70,70,69,69,69,69,68,69,69,72,70,70,70,1,1,1,1,1,11,11,11,11,11,11,1,1,1,1,1,52,52,52,52,52,52,52,52,52,1,1,1,0,1,1,1,0,1,1,1,1,11,11,11,11,11,1,1,0,0,1,1,73,73,73,74,75,74,74,74,74,73,74,74,75,75,75,75,74,74,74,74,73,74,74,75,74,74,74,74,73,74,74,77,75,75,75,0,1,1,0,0,1,1,78,78,78,79,80,79,79,79,79,78,79,79,80,80,80,80,79,79,79,79,78,79,79,80,79,79,79,79,78,79,79,82,80,80,80,1,1,1,1,1,11,11,11,11,11,11,1,1,52,52,52,52,52,84,1,1,1] (fun b0 t0 => vi (eqS (s := ⟨#[c0,c1,c2]⟩) (t := ⟨#[d0,d1,d2]⟩) (u := (u)) (v := (v)) hw) [] fun b1 t1 x1 => vi (eqS (s := ⟨#[c0]⟩) (t := ⟨#[d0]⟩) (u := (t1+7)) (v := (t1+8)) e0) [] fun b2 t2 x2 => vi (eqS (s := ⟨#[c2]⟩) (t := ⟨#[d2]⟩) (u := (t2+11)) (v := (t2+14)) e2) [] fun b3 t3 x3 => via (s00 ((t3+40)) ((t3+53))) [] fun b4 t4 x4 => via (s01 ((t3+40)) ((t4+10))) [] fun b5 t5 x5 => via (s02 ((t3+40)) ((t5+9))) [] fun b6 t6 x6 => via (s10 ((t6+9)) ((t6+22))) [] fun b7 t7 x7 => via (s11 ((t6+9)) ((t7+10))) [] fun b8 t8 x8 => via (s12 ((t6+9)) ((t8+10))) [] fun b9 t9 x9 => fin [] [(t9+8)]) (by kernel_rfl)
theorem sub_97_98 (u v : Nat) : CS w os 800 (.call (.ref 99) ⟨[sv [97] u, sv [98] v], []⟩) [] 0 (fun x => rOk (.int 2 (x.a 0))) oNl oNl :=
  CB (noStop) 30000 [1,0,1,1,1,1,1,1,1,1,0] (fun b t => fin [] [318]) (by kernel_rfl)
theorem sub_97_99 (u v : Nat) : CS w os 800 (.call (.ref 99) ⟨[sv [97] u, sv [99] v], []⟩) [] 0 (fun x => rOk (.int 2 (x.a 0))) oNl oNl :=
  CB (noStop) 30000 [1,0,1,1,1,1,1,1,1,1,0] (fun b t => fin [] [318]) (by kernel_rfl)
theorem sub_97_65 (u v : Nat) : CS w os 800 (.call (.ref 99) ⟨[sv [97] u, sv [65] v], []⟩) [] 0 (fun x => rOk (.int 1 (x.a 0))) oNl oNl :=
  CB (noStop) 30000 [1,0,1,1,1,1,1,1,1,1,0] (fun b t => fin [] [320]) (by kernel_rfl)
theorem sub_97_66 (u v : Nat) : CS w os 800 (.call (.ref 99) ⟨[sv [97] u, sv [66] v], []⟩) [] 0 (fun x => rOk (.int 2 (x.a 0))) oNl oNl :=
  CB (noStop) 30000 [1,0,1,1,1,1,1,1,1,1,0] (fun b t => fin [] [318]) (by kernel_rfl)
theorem sub_97_67 (u v : Nat) : CS w os 800 (.call (.ref 99) ⟨[sv [97] u, sv [67] v], []⟩) [] 0 (fun x => rOk (.int 2 (x.a 0))) oNl oNl :=
  CB (noStop) 30000 [1,0,1,1,1,1,1,1,1,1,0] (fun b t => fin [] [318]) (by kernel_rfl)
theorem sub_98_97 (u v : Nat) : CS w os 800 (.call (.ref 99) ⟨[sv [98] u, sv [97] v], []⟩) [] 0 (fun x => rOk (.int 2 (x.a 0))) oNl oNl :=
  CB (noStop) 30000 [1,0,1,1,1,1,1,1,1,1,0] (fun b t => fin [] [318]) (by kernel_rfl)
theorem sub_98_98 (u v : Nat) : CS w os 800 (.call (.ref 99) ⟨[sv [98] u, sv [98] v], []⟩) [] 0 (fun x => rOk (.int 0 (x.a 0))) oNl oNl :=
  CB (noStop) 30000 [1,0,1,1,1,1,1,1] (fun b t => fin [] [t+3]) (by kernel_rfl)
theorem sub_98_99 (u v : Nat) : CS w os 800 (.call (.ref 99) ⟨[sv [98] u, sv [99] v], []⟩) [] 0 (fun x => rOk (.int 2 (x.a 0))) oNl oNl :=
  CB (noStop) 30000 [1,0,1,1,1,1,1,1,1,1,0] (fun b t => fin [] [318]) (by kernel_rfl)
theorem sub_98_65 (u v : Nat) : CS w os 800 (.call (.ref 99) ⟨[sv [98] u, sv [65] v], []⟩) [] 0 (fun x => rOk (.int 2 (x.a 0))) oNl oNl :=
  CB (noStop) 30000 [1,0,1,1,1,1,1,1,1,1,0] (fun b t => fin [] [318]) (by kernel_rfl)
theorem sub_98_66 (u v : Nat) : CS w os 800 (.call (.ref 99) ⟨[sv [98] u, sv [66] v], []⟩) [] 0 (fun x => rOk (.int 1 (x.a 0))) oNl oNl :=
  CB (noStop) 30000 [1,0,1,1,1,1,1,1,1,1,0] (fun b t => fin [] [320]) (by kernel_rfl)
theorem sub_98_67 (u v : Nat) : CS w os 800 (.call (.ref 99) ⟨[sv [98] u, sv [67] v], []⟩) [] 0 (fun x => rOk (.int 2 (x.a 0))) oNl oNl :=
  CB (noStop) 30000 [1,0,1,1,1,1,1,1,1,1,0] (fun b t => fin [] [318]) (by kernel_rfl)
theorem sub_99_97 (u v : Nat) : CS w os 800 (.call (.ref 99) ⟨[sv [99] u, sv [97] v], []⟩) [] 0 (fun x => rOk (.int 2 (x.a 0))) oNl oNl :=
  CB (noStop) 30000 [1,0,1,1,1,1,1,1,1,1,0] (fun b t => fin [] [318]) (by kernel_rfl)
theorem sub_99_98 (u v : Nat) : CS w os 800 (.call (.ref 99) ⟨[sv [99] u, sv [98] v], []⟩) [] 0 (fun x => rOk (.int 2 (x.a 0))) oNl oNl :=
  CB (noStop) 30000 [1,0,1,1,1,1,1,1,1,1,0] (fun b t => fin [] [318]) (by kernel_rfl)
theorem sub_99_65 (u v : Nat) : CS w os 800 (.call (.ref 99) ⟨[sv [99] u, sv [65] v], []⟩) [] 0 (fun x => rOk (.int 2 (x.a 0))) oNl oNl :=
  CB (noStop) 30000 [1,0,1,1,1,1,1,1,1,1,0] (fun b t => fin [] [318]) (by kernel_rfl)
theorem sub_99_66 (u v : Nat) : CS w os 800 (.call (.ref 99) ⟨[sv [99] u, sv [66] v], []⟩) [] 0 (fun x => rOk (.int 2 (x.a 0))) oNl oNl :=
  CB (noStop) 30000 [1,0,1,1,1,1,1,1,1,1,0] (fun b t => fin [] [318]) (by kernel_rfl)
theorem sub_99_67 (u v : Nat) : CS w os 800 (.call (.ref 99) ⟨[sv [99] u, sv [67] v], []⟩) [] 0 (fun x => rOk (.int 1 (x.a 0))) oNl oNl :=
  CB (noStop) 30000 [1,0,1,1,1,1,1,1,1,1,0] (fun b t => fin [] [320]) (by kernel_rfl)
theorem sub_65_97 (u v : Nat) : CS w os 800 (.call (.ref 99) ⟨[sv [65] u, sv [97] v], []⟩) [] 0 (fun x => rOk (.int 1 (x.a 0))) oNl oNl :=
  CB (noStop) 30000 [1,0,1,1,1,1,1,1,1,1,0] (fun b t => fin [] [320]) (by kernel_rfl)
theorem sub_65_98 (u v : Nat) : CS w os 800 (.call (.ref 99) ⟨[sv [65] u, sv [98] v], []⟩) [] 0 (fun x => rOk (.int 2 (x.a 0))) oNl oNl :=
  CB (noStop) 30000 [1,0,1,1,1,1,1,1,1,1,0] (fun b t => fin [] [318]) (by kernel_rfl)
theorem sub_65_99 (u v : Nat) : CS w os 800 (.call (.ref 99) ⟨[sv [65] u, sv [99] v], []⟩) [] 0 (fun x => rOk (.int 2 (x.a 0))) oNl oNl :=
  CB (noStop) 30000 [1,0,1,1,1,1,1,1,1,1,0] (fun b t => fin [] [318]) (by kernel_rfl)
theorem sub_65_66 (u v : Nat) : CS w os 800 (.call (.ref 99) ⟨[sv [65] u, sv [66] v], []⟩) [] 0 (fun x => rOk (.int 2 (x.a 0))) oNl oNl :=
  CB (noStop) 30000 [1,0,1,1,1,1,1,1,1,1,0] (fun b t => fin [] [318]) (by kernel_rfl)
theorem sub_65_67 (u v : Nat) : CS w os 800 (.call (.ref 99) ⟨[sv [65] u, sv [67] v], []⟩) [] 0 (fun x => rOk (.int 2 (x.a 0))) oNl oNl :=
  CB (noStop) 30000 [1,0,1,1,1,1,1,1,1,1,0] (fun b t => fin [] [318]) (by kernel_rfl)
theorem sub_66_97 (u v : Nat) : CS w os 800 (.call (.ref 99) ⟨[sv [66] u, sv [97] v], []⟩) [] 0 (fun x => rOk (.int 2 (x.a 0))) oNl oNl :=
  CB (noStop) 30000 [1,0,1,1,1,1,1,1,1,1,0] (fun b t => fin [] [318]) (by kernel_rfl)
theorem sub_66_98 (u v : Nat) : CS w os 800 (.call (.ref 99) ⟨[sv [66] u, sv [98] v], []⟩) [] 0 (fun x => rOk (.int 1 (x.a 0))) oNl oNl :=
  CB (noStop) 30000 [1,0,1,1,1,1,1,1,1,1,0] (fun b t => fin [] [320]) (by kernel_rfl)
theorem sub_66_99 (u v : Nat) : CS w os 800 (.call (.ref 99) ⟨[sv [66] u, sv [99] v], []⟩) [] 0 (fun x => rOk (.int 2 (x.a 0))) oNl oNl :=
  CB (noStop) 30000 [1,0,1,1,1,1,1,1,1,1,0] (fun b t => fin [] [318]) (by kernel_rfl)
theorem sub_66_65 (u v : Nat) : CS w os 800 (.call (.ref 99) ⟨[sv [66] u, sv [65] v], []⟩) [] 0 (fun x => rOk (.int 2 (x.a 0))) oNl oNl :=
  CB (noStop) 30000 [1,0,1,1,1,1,1,1,1,1,0] (fun b t => fin [] [318]) (by kernel_rfl)
theorem sub_66_66 (u v : Nat) : CS w os 800 (.call (.ref 99) ⟨[sv [66] u, sv [66] v], []⟩) [] 0 (fun x => rOk (.int 0 (x.a 0))) oNl oNl :=
  CB (noStop) 30000 [1,0,1,1,1,1,1,1] (fun b t => fin [] [t+3]) (by kernel_rfl)
theorem sub_66_67 (u v : Nat) : CS w os 800 (.call (.ref 99) ⟨[sv [66] u, sv [67] v], []⟩) [] 0 (fun x => rOk (.int 2 (x.a 0))) oNl oNl :=
  CB (noStop) 30000 [1,0,1,1,1,1,1,1,1,1,0] (fun b t => fin [] [318]) (by kernel_rfl)
theorem sub_67_97 (u v : Nat) : CS w os 800 (.call (.ref 99) ⟨[sv [67] u, sv [97] v], []⟩) [] 0 (fun x => rOk (.int 2 (x.a 0))) oNl oNl :=
  CB (noStop) 30000 [1,0,1,1,1,1,1,1,1,1,0] (fun b t => fin [] [318]) (by kernel_rfl)
theorem sub_67_98 (u v : Nat) : CS w os 800 (.call (.ref 99) ⟨[sv [67] u, sv [98] v], []⟩) [] 0 (fun x => rOk (.int 2 (x.a 0))) oNl oNl :=
  CB (noStop) 30000 [1,0,1,1,1,1,1,1,1,1,0] (fun b t => fin [] [318]) (by kernel_rfl)
theorem sub_67_99 (u v : Nat) : CS w os 800 (.call (.ref 99) ⟨[sv [67] u, sv [99] v], []⟩) [] 0 (fun x => rOk (.int 1 (x.a 0))) oNl oNl :=
  CB (noStop) 30000 [1,0,1,1,1,1,1,1,1,1,0] (fun b t => fin [] [320]) (by kernel_rfl)
theorem sub_67_65 (u v : Nat) : CS w os 800 (.call (.ref 99) ⟨[sv [67] u, sv [65] v], []⟩) [] 0 (fun x => rOk (.int 2 (x.a 0))) oNl oNl :=
  CB (noStop) 30000 [1,0,1,1,1,1,1,1,1,1,0] (fun b t => fin [] [318]) (by kernel_rfl)
theorem sub_67_66 (u v : Nat) : CS w os 800 (.call (.ref 99) ⟨[sv [67] u, sv [66] v], []⟩) [] 0 (fun x => rOk (.int 2 (x.a 0))) oNl oNl :=
  CB (noStop) 30000 [1,0,1,1,1,1,1,1,1,1,0] (fun b t => fin [] [318]) (by kernel_rfl)
theorem drawn_b (vl fl : Addr) (e0 e1 e2 e3 e4 e5 e6 e7 e8 e9 e10 e11 : Addr) (g0 g1 g2 g3 g4 g5 g6 g7 g8 g9 g10 g11 : Obj) (vs fs : List Value) (nv nf : Nat) (lo : List (List Nat × Nat × List Nat)) (hT : ∀ (it fr td k0 k1 k2 : Nat), CS w os 420 (forC w 137 [1] it fr) [(vl, lsO vs nv), (fl, lsO fs nf), (fr, fq1 w k0 (.ref vl) k1 (.ref fl) k2 (.ref td)), (td, dcE w []), (it, rgI 0 12), (e0, g0), (e1, g1), (e2, g2), (e3, g3), (e4, g4), (e5, g5), (e6, g6), (e7, g7), (e8, g8), (e9, g9), (e10, g10), (e11, g11)] 0 rNx (fun x => [lsO vs nv, lsO fs nf, fq2 w k0 (.ref vl) k1 (.ref fl) k2 (.ref td) (x.a 0) (x.v 0) (x.a 1) (x.v 1) (x.a 2) (x.v 2), dcE w (tabL lo (fun j => x.a (j + 3))), x.o 0, g0, g1, g2, g3, g4, g5, g6, g7, g8, g9, g10, g11]) oNl) : CS w os 400 (.call (.ref 137) ⟨[.ref vl, .ref fl], []⟩) [(vl, lsO vs nv), (fl, lsO fs nf), (e0, g0), (e1, g1), (e2, g2), (e3, g3), (e4, g4), (e5, g5), (e6, g6), (e7, g7), (e8, g8), (e9, g9), (e10, g10), (e11, g11)] 1 (fun x => rOk (.ref (x.a 0))) (fun _ => [lsO vs nv, lsO fs nf, g0, g1, g2, g3, g4, g5, g6, g7, g8, g9, g10, g11]) (fun x => [dcE w (tabL lo (fun j => x.a (j + 3)))]) :=
  CB (isFor) 30000 [1,0,15,15,15,15,15,15,0,0,17,17,17,17,17,17,17,17,17,17,18,15] (fun b0 t0 => vx (hT (b0+3) (b0+0) (b0+1) (t0+1) (t0+2) (t0+3)) [0,1,14,15,17,2,3,4,5,6,7,8,9,10,11,12,13] fun x1 => finz [15] (fun j => x1.a (j + 1)) (fun _ => default) (fun _ => .none)) (by kernel_rfl)
theorem dt_00 (vl fl fr it td ta : Addr) (e0 e1 e2 e3 e4 e5 e6 e7 e8 e9 e10 : Addr) (g0 g1 g2 g3 g4 g5 g6 g7 g8 g9 g10 : Obj) (vs fs : List Value) (nv nf t m : Nat) (V : List Nat) (l : List (List Nat × Nat × List Nat)) (tkt : Nat → Nat) (k0 k1 k2 : Nat) (tk tv gt : Nat) (k3 k4 k5 : Nat) (v3 v4 v5 : Value) (hv : vs[t]? = some (.ref ta)) (hf : fs[t]? = some (.int (iN 0) gt)) (ht : t < 1000) (hl : ∀ p ∈ l, p.1 ≠ V) (hl2 : l.length ≤ 100) (lo : List (List Nat × Nat × List Nat)) (hN : ∀ (tkt' : Nat → Nat) (v3' v4' v5' : Value), CS w os 420 (forC w 137 [1] it fr) [(vl, lsO vs nv), (fl, lsO fs nf), (fr, fq2 w k0 (.ref vl) k1 (.ref fl) k2 (.ref td) k3 v3' k4 v4' k5 v5'), (td, dcE w (tabL (l ++ [(V, tv, [])]) tkt')), (it, rgI (iN (t+1)) (iN m)), (ta, tupO [.int 0 tk, sv V tv]), (e0, g0), (e1, g1), (e2, g2), (e3, g3), (e4, g4), (e5, g5), (e6, g6), (e7, g7), (e8, g8), (e9, g9), (e10, g10)] 0 rNx (fun x => [lsO vs nv, lsO fs nf, fq2 w k0 (.ref vl) k1 (.ref fl) k2 (.ref td) k3 (x.v 0) k4 (x.v 1) k5 (x.v 2), dcE w (tabL lo (fun j => x.a (j + 3))), x.o 0, tupO [.int 0 tk, sv V tv], g0, g1, g2, g3, g4, g5, g6, g7, g8, g9, g10]) oNl) : CS w os 420 (forC w 137 [1] it fr) [(vl, lsO vs nv), (fl, lsO fs nf), (fr, fq2 w k0 (.ref vl) k1 (.ref fl) k2 (.ref td) k3 v3 k4 v4 k5 v5), (td, dcE w (tabL l tkt)), (it, rgI (iN t) (iN (m+1))), (ta, tupO [.int 0 tk, sv V tv]), (e0, g0), (e1, g1), (e2, g2), (e3, g3), (e4, g4), (e5, g5), (e6, g6), (e7, g7), (e8, g8), (e9, g9), (e10, g10)] 0 rNx (fun x => [lsO vs nv, lsO fs nf, fq2 w k0 (.ref vl) k1 (.ref fl) k2 (.ref td) k3 (x.v 0) k4 (x.v 1) k5 (x.v 2), dcE w (tabL lo (fun j => x.a (j + 3))), x.o 0, tupO [.int 0 tk, sv V tv], g0, g1, g2, g3, g4, g5, g6, g7, g8, g9, g10]) oNl :=
  CB (orS (isForAt [216,217,218,219,220,221,222,223,224,225]) (isB ["list.__getitem__","dict.__setitem__"])) 30000 oq1 (fun b0 t0 => rwv 4 1 (rgN t m) (rgI (iN (t+1)) (iN m)) (rgI_next t m) <| vi (getS (l := vl) (i := t) (u := (t0+1)) (xs := vs) (n := nv) hv ht) [0] fun b1 t1 x1 => vj (getS (l := fl) (i := t) (u := (t0+1)) (xs := fs) (n := nf) hf ht) [1] fun _ => vj (getS (l := (b1+3)) (i := 0) (u := (gt)) (xs := [sv [] (t1+3), sv [97] (t1+5), sv [65] (t1+7), sv [] (t1+8)]) (n := 0) (v := sv [] (t1+3)) rfl (by decide)) [20] fun _ => vj (dnewT (dd := td) (l := l) (tk := tkt) (V := V) (z := tv) (r := []) (t := (t1+3)) hl hl2) [3] fun _ => vx (hN (updT tkt l.length (t1+3)) (.int (iN t) (t0+1)) (.int 0 tk) (sv V tv) ) [0,1,2,3,4,5,6,7,8,9,10,11,12,13,14,15,16] fun x5 => finz [] (x5.a) (x5.o) (x5.v)) (by kernel_rfl)
theorem dt_00f (vl fl fr it td ta : Addr) (e0 e1 e2 e3 e4 e5 e6 e7 e8 e9 e10 : Addr) (g0 g1 g2 g3 g4 g5 g6 g7 g8 g9 g10 : Obj) (vs fs : List Value) (nv nf t m : Nat) (V : List Nat) (l : List (List Nat × Nat × List Nat)) (tkt : Nat → Nat) (k0 k1 k2 : Nat) (tk tv gt : Nat) (hv : vs[t]? = some (.ref ta)) (hf : fs[t]? = some (.int (iN 0) gt)) (ht : t < 1000) (hl : ∀ p ∈ l, p.1 ≠ V) (hl2 : l.length ≤ 100) (lo : List (List Nat × Nat × List Nat)) (hN : ∀ (tkt' : Nat → Nat) (v3' v4' v5' : Value) (k3' k4' k5' : Nat), CS w os 420 (forC w 137 [1] it fr) [(vl, lsO vs nv), (fl, lsO fs nf), (fr, fq2 w k0 (.ref vl) k1 (.ref fl) k2 (.ref td) k3' v3' k4' v4' k5' v5'), (td, dcE w (tabL (l ++ [(V, tv, [])]) tkt')), (it, rgI (iN (t+1)) (iN m)), (ta, tupO [.int 0 tk, sv V tv]), (e0, g0), (e1, g1), (e2, g2), (e3, g3), (e4, g4), (e5, g5), (e6, g6), (e7, g7), (e8, g8), (e9, g9), (e10, g10)] 0 rNx (fun x => [lsO vs nv, lsO fs nf, fq2 w k0 (.ref vl) k1 (.ref fl) k2 (.ref td) k3' (x.v 0) k4' (x.v 1) k5' (x.v 2), dcE w (tabL lo (fun j => x.a (j + 3))), x.o 0, tupO [.int 0 tk, sv V tv], g0, g1, g2, g3, g4, g5, g6, g7, g8, g9, g10]) oNl) : CS w os 420 (forC w 137 [1] it fr) [(vl, lsO vs nv), (fl, lsO fs nf), (fr, fq1 w k0 (.ref vl) k1 (.ref fl) k2 (.ref td)), (td, dcE w (tabL l tkt)), (it, rgI (iN t) (iN (m+1))), (ta, tupO [.int 0 tk, sv V tv]), (e0, g0), (e1, g1), (e2, g2), (e3, g3), (e4, g4), (e5, g5), (e6, g6), (e7, g7), (e8, g8), (e9, g9), (e10, g10)] 0 rNx (fun x => [lsO vs nv, lsO fs nf, fq2 w k0 (.ref vl) k1 (.ref fl) k2 (.ref td) (x.a 0) (x.v 0) (x.a 1) (x.v 1) (x.a 2) (x.v 2), dcE w (tabL lo (fun j => x.a (j + 3))), x.o 0, tupO [.int 0 tk, sv V tv], g0, g1, g2, g3, g4, g5, g6, g7, g8, g9, g10]) oNl :=
  CB (orS (isForAt [216,217,218,219,220,221,222,223,224,225]) (isB ["list.__getitem__","dict.__setitem__"])) 30000 oq1 (fun b0 t0 => rwv 4 1 (rgN t m) (rgI (iN (t+1)) (iN m)) (rgI_next t m) <| vi (getS (l := vl) (i := t) (u := (t0+1)) (xs := vs) (n := nv) hv ht) [0] fun b1 t1 x1 => vj (getS (l := fl) (i := t) (u := (t0+1)) (xs := fs) (n := nf) hf ht) [1] fun _ => vj (getS (l := (b1+3)) (i := 0) (u := (gt)) (xs := [sv [] (t1+3), sv [97] (t1+5), sv [65] (t1+7), sv [] (t1+8)]) (n := 0) (v := sv [] (t1+3)) rfl (by decide)) [20] fun _ => vj (dnewT (dd := td) (l := l) (tk := tkt) (V := V) (z := tv) (r := []) (t := (t1+3)) hl hl2) [3] fun _ => vx (hN (updT tkt l.length (t1+3)) (.int (iN t) (t0+1)) (.int 0 tk) (sv V tv) (t0+2) (t1+1) (t1+2)) [0,1,2,3,4,5,6,7,8,9,10,11,12,13,14,15,16] fun x5 => finz [] (fun j => match j with | 0 => (t0+2) | 1 => (t1+1) | 2 => (t1+2) | j + 3 => x5.a (j + 3)) (x5.o) (x5.v)) (by kernel_rfl)
theorem dt_01 (vl fl fr it td ta : Addr) (e0 e1 e2 e3 e4 e5 e6 e7 e8 e9 e10 : Addr) (g0 g1 g2 g3 g4 g5 g6 g7 g8 g9 g10 : Obj) (vs fs : List Value) (nv nf t m : Nat) (V : List Nat) (l : List (List Nat × Nat × List Nat)) (tkt : Nat → Nat) (k0 k1 k2 : Nat) (tk tv gt : Nat) (k3 k4 k5 : Nat) (v3 v4 v5 : Value) (hv : vs[t]? = some (.ref ta)) (hf : fs[t]? = some (.int (iN 1) gt)) (ht : t < 1000) (hl : ∀ p ∈ l, p.1 ≠ V) (hl2 : l.length ≤ 100) (lo : List (List Nat × Nat × List Nat)) (hN : ∀ (tkt' : Nat → Nat) (v3' v4' v5' : Value), CS w os 420 (forC w 137 [1] it fr) [(vl, lsO vs nv), (fl, lsO fs nf), (fr, fq2 w k0 (.ref vl) k1 (.ref fl) k2 (.ref td) k3 v3' k4 v4' k5 v5'), (td, dcE w (tabL (l ++ [(V, tv, [97])]) tkt')), (it, rgI (iN (t+1)) (iN m)), (ta, tupO [.int 0 tk, sv V tv]), (e0, g0), (e1, g1), (e2, g2), (e3, g3), (e4, g4), (e5, g5), (e6, g6), (e7, g7), (e8, g8), (e9, g9), (e10, g10)] 0 rNx (fun x => [lsO vs nv, lsO fs nf, fq2 w k0 (.ref vl) k1 (.ref fl) k2 (.ref td) k3 (x.v 0) k4 (x.v 1) k5 (x.v 2), dcE w (tabL lo (fun j => x.a (j + 3))), x.o 0, tupO [.int 0 tk, sv V tv], g0, g1, g2, g3, g4, g5, g6, g7, g8, g9, g10]) oNl) : CS w os 420 (forC w 137 [1] it fr) [(vl, lsO vs nv), (fl, lsO fs nf), (fr, fq2 w k0 (.ref vl) k1 (.ref fl) k2 (.ref td) k3 v3 k4 v4 k5 v5), (td, dcE w (tabL l tkt)), (it, rgI (iN t) (iN (m+1))), (ta, tupO [.int 0 tk, sv V tv]), (e0, g0), (e1, g1), (e2, g2), (e3, g3), (e4, g4), (e5, g5), (e6, g6), (e7, g7), (e8, g8), (e9, g9), (e10, g10)] 0 rNx (fun x => [lsO vs nv, lsO fs nf, fq2 w k0 (.ref vl) k1 (.ref fl) k2 (.ref td) k3 (x.v 0) k4 (x.v 1) k5 (x.v 2), dcE w (tabL lo (fun j => x.a (j + 3))), x.o 0, tupO [.int 0 tk, sv V tv], g0, g1, g2, g3, g4, g5, g6, g7, g8, g9, g10]) oNl :=
  CB (orS (isForAt [216,217,218,219,220,221,222,223,224,225]) (isB ["list.__getitem__","dict.__setitem__"])) 30000 oq1 (fun b0 t0 => rwv 4 1 (rgN t m) (rgI (iN (t+1)) (iN m)) (rgI_next t m) <| vi (getS (l := vl) (i := t) (u := (t0+1)) (xs := vs) (n := nv) hv ht) [0] fun b1 t1 x1 => vj (getS (l := fl) (i := t) (u := (t0+1)) (xs := fs) (n := nf) hf ht) [1] fun _ => vj (getS (l := (b1+3)) (i := 1) (u := (gt)) (xs := [sv [] (t1+3), sv [97] (t1+5), sv [65] (t1+7), sv [] (t1+8)]) (n := 0) (v := sv [97] (t1+5)) rfl (by decide)) [20] fun _ => vj (dnewT (dd := td) (l := l) (tk := tkt) (V := V) (z := tv) (r := [97]) (t := (t1+5)) hl hl2) [3] fun _ => vx (hN (updT tkt l.length (t1+5)) (.int (iN t) (t0+1)) (.int 0 tk) (sv V tv) ) [0,1,2,3,4,5,6,7,8,9,10,11,12,13,14,15,16] fun x5 => finz [] (x5.a) (x5.o) (x5.v)) (by kernel_rfl)
theorem dt_01f (vl fl fr it td ta : Addr) (e0 e1 e2 e3 e4 e5 e6 e7 e8 e9 e10 : Addr) (g0 g1 g2 g3 g4 g5 g6 g7 g8 g9 g10 : Obj) (vs fs : List Value) (nv nf t m : Nat) (V : List Nat) (l : List (List Nat × Nat × List Nat)) (tkt : Nat → Nat) (k0 k1 k2 : Nat) (tk tv gt : Nat) (hv : vs[t]? = some (.ref ta)) (hf : fs[t]? = some (.int (iN 1) gt)) (ht : t < 1000) (hl : ∀ p ∈ l, p.1 ≠ V) (hl2 : l.length ≤ 100) (lo : List (List Nat × Nat × List Nat)) (hN : ∀ (tkt' : Nat → Nat) (v3' v4' v5' : Value) (k3' k4' k5' : Nat), CS w os 420 (forC w 137 [1] it fr) [(vl, lsO vs nv), (fl, lsO fs nf), (fr, fq2 w k0 (.ref vl) k1 (.ref fl) k2 (.ref td) k3' v3' k4' v4' k5' v5'), (td, dcE w (tabL (l ++ [(V, tv, [97])]) tkt')), (it, rgI (iN (t+1)) (iN m)), (ta, tupO [.int 0 tk, sv V tv]), (e0, g0), (e1, g1), (e2, g2), (e3, g3), (e4, g4), (e5, g5), (e6, g6), (e7, g7), (e8, g8), (e9, g9), (e10, g10)] 0 rNx (fun x => [lsO vs nv, lsO fs nf, fq2 w k0 (.ref vl) k1 (.ref fl) k2 (.ref td) k3' (x.v 0) k4' (x.v 1) k5' (x.v 2), dcE w (tabL lo (fun j => x.a (j + 3))), x.o 0, tupO [.int 0 tk, sv V tv], g0, g1, g2, g3, g4, g5, g6, g7, g8, g9, g10]) oNl) : CS w os 420 (forC w 137 [1] it fr) [(vl, lsO vs nv), (fl, lsO fs nf), (fr, fq1 w k0 (.ref vl) k1 (.ref fl) k2 (.ref td)), (td, dcE w (tabL l tkt)), (it, rgI (iN t) (iN (m+1))), (ta, tupO [.int 0 tk, sv V tv]), (e0, g0), (e1, g1), (e2, g2), (e3, g3), (e4, g4), (e5, g5), (e6, g6), (e7, g7), (e8, g8), (e9, g9), (e10, g10)] 0 rNx (fun x => [lsO vs nv, lsO fs nf, fq2 w k0 (.ref vl) k1 (.ref fl) k2 (.ref td) (x.a 0) (x.v 0) (x.a 1) (x.v 1) (x.a 2) (x.v 2), dcE w (tabL lo (fun j => x.a (j + 3))), x.o 0, tupO [.int 0 tk, sv V tv], g0, g1, g2, g3, g4, g5, g6, g7, g8, g9, g10]) oNl :=
  CB (orS (isForAt [216,217,218,219,220,221,222,223,224,225]) (isB ["list.__getitem__","dict.__setitem__"])) 30000 oq1 (fun b0 t0 => rwv 4 1 (rgN t m) (rgI (iN (t+1)) (iN m)) (rgI_next t m) <| vi (getS (l := vl) (i := t) (u := (t0+1)) (xs := vs) (n := nv) hv ht) [0] fun b1 t1 x1 => vj (getS (l := fl) (i := t) (u := (t0+1)) (xs := fs) (n := nf) hf ht) [1] fun _ => vj (getS (l := (b1+3)) (i := 1) (u := (gt)) (xs := [sv [] (t1+3), sv [97] (t1+5), sv [65] (t1+7), sv [] (t1+8)]) (n := 0) (v := sv [97] (t1+5)) rfl (by decide)) [20] fun _ => vj (dnewT (dd := td) (l := l) (tk := tkt) (V := V) (z := tv) (r := [97]) (t := (t1+5)) hl hl2) [3] fun _ => vx (hN (updT tkt l.length (t1+5)) (.int (iN t) (t0+1)) (.int 0 tk) (sv V tv) (t0+2) (t1+1) (t1+2)) [0,1,2,3,4,5,6,7,8,9,10,11,12,13,14,15,16] fun x5 => finz [] (fun j => match j with | 0 => (t0+2) | 1 => (t1+1) | 2 => (t1+2) | j + 3 => x5.a (j + 3)) (x5.o) (x5.v)) (by kernel_rfl)
theorem dt_02 (vl fl fr it td ta : Addr) (e0 e1 e2 e3 e4 e5 e6 e7 e8 e9 e10 : Addr) (g0 g1 g2 g3 g4 g5 g6 g7 g8 g9 g10 : Obj) (vs fs : List Value) (nv nf t m : Nat) (V : List Nat) (l : List (List Nat × Nat × List Nat)) (tkt : Nat → Nat) (k0 k1 k2 : Nat) (tk tv gt : Nat) (k3 k4 k5 : Nat) (v3 v4 v5 : Value) (hv : vs[t]? = some (.ref ta)) (hf : fs[t]? = some (.int (iN 2) gt)) (ht : t < 1000) (hl : ∀ p ∈ l, p.1 ≠ V) (hl2 : l.length ≤ 100) (lo : List (List Nat × Nat × List Nat)) (hN : ∀ (tkt' : Nat → Nat) (v3' v4' v5' : Value), CS w os 420 (forC w 137 [1] it fr) [(vl, lsO vs nv), (fl, lsO fs nf), (fr, fq2 w k0 (.ref vl) k1 (.ref fl) k2 (.ref td) k3 v3' k4 v4' k5 v5'), (td, dcE w (tabL (l ++ [(V, tv, [65])]) tkt')), (it, rgI (iN (t+1)) (iN m)), (ta, tupO [.int 0 tk, sv V tv]), (e0, g0), (e1, g1), (e2, g2), (e3, g3), (e4, g4), (e5, g5), (e6, g6), (e7, g7), (e8, g8), (e9, g9), (e10, g10)] 0 rNx (fun x => [lsO vs nv, lsO fs nf, fq2 w k0 (.ref vl) k1 (.ref fl) k2 (.ref td) k3 (x.v 0) k4 (x.v 1) k5 (x.v 2), dcE w (tabL lo (fun j => x.a (j + 3))), x.o 0, tupO [.int 0 tk, sv V tv], g0, g1, g2, g3, g4, g5, g6, g7, g8, g9, g10]) oNl) : CS w os 420 (forC w 137 [1] it fr) [(vl, lsO vs nv), (fl, lsO fs nf), (fr, fq2 w k0 (.ref vl) k1 (.ref fl) k2 (.ref td) k3 v3 k4 v4 k5 v5), (td, dcE w (tabL l tkt)), (it, rgI (iN t) (iN (m+1))), (ta, tupO [.int 0 tk, sv V tv]), (e0, g0), (e1, g1), (e2, g2), (e3, g3), (e4, g4), (e5, g5), (e6, g6), (e7, g7), (e8, g8), (e9, g9), (e10, g10)] 0 rNx (fun x => [lsO vs nv, lsO fs nf, fq2 w k0 (.ref vl) k1 (.ref fl) k2 (.ref td) k3 (x.v 0) k4 (x.v 1) k5 (x.v 2), dcE w (tabL lo (fun j => x.a (j + 3))), x.o 0, tupO [.int 0 tk, sv V tv], g0, g1, g2, g3, g4, g5, g6, g7, g8, g9, g10]) oNl :=
  CB (orS (isForAt [216,217,218,219,220,221,222,223,224,225]) (isB ["list.__getitem__","dict.__setitem__"])) 30000 oq1 (fun b0 t0 => rwv 4 1 (rgN t m) (rgI (iN (t+1)) (iN m)) (rgI_next t m) <| vi (getS (l := vl) (i := t) (u := (t0+1)) (xs := vs) (n := nv) hv ht) [0] fun b1 t1 x1 => vj (getS (l := fl) (i := t) (u := (t0+1)) (xs := fs) (n := nf) hf ht) [1] fun _ => vj (getS (l := (b1+3)) (i := 2) (u := (gt)) (xs := [sv [] (t1+3), sv [97] (t1+5), sv [65] (t1+7), sv [] (t1+8)]) (n := 0) (v := sv [65] (t1+7)) rfl (by decide)) [20] fun _ => vj (dnewT (dd := td) (l := l) (tk := tkt) (V := V) (z := tv) (r := [65]) (t := (t1+7)) hl hl2) [3] fun _ => vx (hN (updT tkt l.length (t1+7)) (.int (iN t) (t0+1)) (.int 0 tk) (sv V tv) ) [0,1,2,3,4,5,6,7,8,9,10,11,12,13,14,15,16] fun x5 => finz [] (x5.a) (x5.o) (x5.v)) (by kernel_rfl)
theorem dt_02f (vl fl fr it td ta : Addr) (e0 e1 e2 e3 e4 e5 e6 e7 e8 e9 e10 : Addr) (g0 g1 g2 g3 g4 g5 g6 g7 g8 g9 g10 : Obj) (vs fs : List Value) (nv nf t m : Nat) (V : List Nat) (l : List (List Nat × Nat × List Nat)) (tkt : Nat → Nat) (k0 k1 k2 : Nat) (tk tv gt : Nat) (hv : vs[t]? = some (.ref ta)) (hf : fs[t]? = some (.int (iN 2) gt)) (ht : t < 1000) (hl : ∀ p ∈ l, p.1 ≠ V) (hl2 : l.length ≤ 100) (lo : List (List Nat × Nat × List Nat)) (hN : ∀ (tkt' : Nat → Nat) (v3' v4' v5' : Value) (k3' k4' k5' : Nat), CS w os 420 (forC w 137 [1] it fr) [(vl, lsO vs nv), (fl, lsO fs nf), (fr, fq2 w k0 (.ref vl) k1 (.ref fl) k2 (.ref td) k3' v3' k4' v4' k5' v5'), (td, dcE w (tabL (l ++ [(V, tv, [65])]) tkt')), (it, rgI (iN (t+1)) (iN m)), (ta, tupO [.int 0 tk, sv V tv]), (e0, g0), (e1, g1), (e2, g2), (e3, g3), (e4, g4), (e5, g5), (e6, g6), (e7, g7), (e8, g8), (e9, g9), (e10, g10)] 0 rNx (fun x => [lsO vs nv, lsO fs nf, fq2 w k0 (.ref vl) k1 (.ref fl) k2 (.ref td) k3' (x.v 0) k4' (x.v 1) k5' (x.v 2), dcE w (tabL lo (fun j => x.a (j + 3))), x.o 0, tupO [.int 0 tk, sv V tv], g0, g1, g2, g3, g4, g5, g6, g7, g8, g9, g10]) oNl) : CS w os 420 (forC w 137 [1] it fr) [(vl, lsO vs nv), (fl, lsO fs nf), (fr, fq1 w k0 (.ref vl) k1 (.ref fl) k2 (.ref td)), (td, dcE w (tabL l tkt)), (it, rgI (iN t) (iN (m+1))), (ta, tupO [.int 0 tk, sv V tv]), (e0, g0), (e1, g1), (e2, g2), (e3, g3), (e4, g4), (e5, g5), (e6, g6), (e7, g7), (e8, g8), (e9, g9), (e10, g10)] 0 rNx (fun x => [lsO vs nv, lsO fs nf, fq2 w k0 (.ref vl) k1 (.ref fl) k2 (.ref td) (x.a 0) (x.v 0) (x.a 1) (x.v 1) (x.a 2) (x.v 2), dcE w (tabL lo (fun j => x.a (j + 3))), x.o 0, tupO [.int 0 tk, sv V tv], g0, g1, g2, g3, g4, g5, g6, g7, g8, g9, g10]) oNl :=
  CB (orS (isForAt [216,217,218,219,220,221,222,223,224,225]) (isB ["list.__getitem__","dict.__setitem__"])) 30000 oq1 (fun b0 t0 => rwv 4 1 (rgN t m) (rgI (iN (t+1)) (iN m)) (rgI_next t m) <| vi (getS (l := vl) (i := t) (u := (t0+1)) (xs := vs) (n := nv) hv ht) [0] fun b1 t1 x1 => vj (getS (l := fl) (i := t) (u := (t0+1)) (xs := fs) (n := nf) hf ht) [1] fun _ => vj (getS (l := (b1+3)) (i := 2) (u := (gt)) (xs := [sv [] (t1+3), sv [97] (t1+5), sv [65] (t1+7), sv [] (t1+8)]) (n := 0) (v := sv [65] (t1+7)) rfl (by decide)) [20] fun _ => vj (dnewT (dd := td) (l := l) (tk := tkt) (V := V) (z := tv) (r := [65]) (t := (t1+7)) hl hl2) [3] fun _ => vx (hN (updT tkt l.length (t1+7)) (.int (iN t) (t0+1)) (.int 0 tk) (sv V tv) (t0+2) (t1+1) (t1+2)) [0,1,2,3,4,5,6,7,8,9,10,11,12,13,14,15,16] fun x5 => finz [] (fun j => match j with | 0 => (t0+2) | 1 => (t1+1) | 2 => (t1+2) | j + 3 => x5.a (j + 3)) (x5.o) (x5.v)) (by kernel_rfl)
theorem dt_03 (vl fl fr it td ta : Addr) (e0 e1 e2 e3 e4 e5 e6 e7 e8 e9 e10 : Addr) (g0 g1 g2 g3 g4 g5 g6 g7 g8 g9 g10 : Obj) (vs fs : List Value) (nv nf t m : Nat) (V : List Nat) (l : List (List Nat × Nat × List Nat)) (tkt : Nat → Nat) (k0 k1 k2 : Nat) (tk tv gt : Nat) (k3 k4 k5 : Nat) (v3 v4 v5 : Value) (hv : vs[t]? = some (.ref ta)) (hf : fs[t]? = some (.int (iN 3) gt)) (ht : t < 1000) (hl : ∀ p ∈ l, p.1 ≠ V) (hl2 : l.length ≤ 100) (lo : List (List Nat × Nat × List Nat)) (hN : ∀ (tkt' : Nat → Nat) (v3' v4' v5' : Value), CS w os 420 (forC w 137 [1] it fr) [(vl, lsO vs nv), (fl, lsO fs nf), (fr, fq2 w k0 (.ref vl) k1 (.ref fl) k2 (.ref td) k3 v3' k4 v4' k5 v5'), (td, dcE w (tabL (l ++ [(V, tv, [])]) tkt')), (it, rgI (iN (t+1)) (iN m)), (ta, tupO [.int 0 tk, sv V tv]), (e0, g0), (e1, g1), (e2, g2), (e3, g3), (e4, g4), (e5, g5), (e6, g6), (e7, g7), (e8, g8), (e9, g9), (e10, g10)] 0 rNx (fun x => [lsO vs nv, lsO fs nf, fq2 w k0 (.ref vl) k1 (.ref fl) k2 (.ref td) k3 (x.v 0) k4 (x.v 1) k5 (x.v 2), dcE w (tabL lo (fun j => x.a (j + 3))), x.o 0, tupO [.int 0 tk, sv V tv], g0, g1, g2, g3, g4, g5, g6, g7, g8, g9, g10]) oNl) : CS w os 420 (forC w 137 [1] it fr) [(vl, lsO vs nv), (fl, lsO fs nf), (fr, fq2 w k0 (.ref vl) k1 (.ref fl) k2 (.ref td) k3 v3 k4 v4 k5 v5), (td, dcE w (tabL l tkt)), (it, rgI (iN t) (iN (m+1))), (ta, tupO [.int 0 tk, sv V tv]), (e0, g0), (e1, g1), (e2, g2), (e3, g3), (e4, g4), (e5, g5), (e6, g6), (e7, g7), (e8, g8), (e9, g9), (e10, g10)] 0 rNx (fun x => [lsO vs nv, lsO fs nf, fq2 w k0 (.ref vl) k1 (.ref fl) k2 (.ref td) k3 (x.v 0) k4 (x.v 1) k5 (x.v 2), dcE w (tabL lo (fun j => x.a (j + 3))), x.o 0, tupO [.int 0 tk, sv V tv], g0, g1, g2, g3, g4, g5, g6, g7, g8, g9, g10]) oNl :=
  CB (orS (isForAt [216,217,218,219,220,221,222,223,224,225]) (isB ["list.__getitem__","dict.__setitem__"])) 30000 oq1 (fun b0 t0 => rwv 4 1 (rgN t m) (rgI (iN (t+1)) (iN m)) (rgI_next t m) <| vi (getS (l := vl) (i := t) (u := (t0+1)) (xs := vs) (n := nv) hv ht) [0] fun b1 t1 x1 => vj (getS (l := fl) (i := t) (u := (t0+1)) (xs := fs) (n := nf) hf ht) [1] fun _ => vj (getS (l := (b1+3)) (i := 3) (u := (gt)) (xs := [sv [] (t1+3), sv [97] (t1+5), sv [65] (t1+7), sv [] (t1+8)]) (n := 0) (v := sv [] (t1+8)) rfl (by decide)) [20] fun _ => vj (dnewT (dd := td) (l := l) (tk := tkt) (V := V) (z := tv) (r := []) (t := (t1+8)) hl hl2) [3] fun _ => vx (hN (updT tkt l.length (t1+8)) (.int (iN t) (t0+1)) (.int 0 tk) (sv V tv) ) [0,1,2,3,4,5,6,7,8,9,10,11,12,13,14,15,16] fun x5 => finz [] (x5.a) (x5.o) (x5.v)) (by kernel_rfl)
theorem dt_03f (vl fl fr it td ta : Addr) (e0 e1 e2 e3 e4 e5 e6 e7 e8 e9 e10 : Addr) (g0 g1 g2 g3 g4 g5 g6 g7 g8 g9 g10 : Obj) (vs fs : List Value) (nv nf t m : Nat) (V : List Nat) (l : List (List Nat × Nat × List Nat)) (tkt : Nat → Nat) (k0 k1 k2 : Nat) (tk tv gt : Nat) (hv : vs[t]? = some (.ref ta)) (hf : fs[t]? = some (.int (iN 3) gt)) (ht : t < 1000) (hl : ∀ p ∈ l, p.1 ≠ V) (hl2 : l.length ≤ 100) (lo : List (List Nat × Nat × List Nat)) (hN : ∀ (tkt' : Nat → Nat) (v3' v4' v5' : Value) (k3' k4' k5' : Nat), CS w os 420 (forC w 137 [1] it fr) [(vl, lsO vs nv), (fl, lsO fs nf), (fr, fq2 w k0 (.ref vl) k1 (.ref fl) k2 (.ref td) k3' v3' k4' v4' k5' v5'), (td, dcE w (tabL (l ++ [(V, tv, [])]) tkt')), (it, rgI (iN (t+1)) (iN m)), (ta, tupO [.int 0 tk, sv V tv]), (e0, g0), (e1, g1), (e2, g2), (e3, g3), (e4, g4), (e5, g5), (e6, g6), (e7, g7), (e8, g8), (e9, g9), (e10, g10)] 0 rNx (fun x => [lsO vs nv, lsO fs nf, fq2 w k0 (.ref vl) k1 (.ref fl) k2 (.ref td) k3' (x.v 0) k4' (x.v 1) k5' (x.v 2), dcE w (tabL lo (fun j => x.a (j + 3))), x.o 0, tupO [.int 0 tk, sv V tv], g0, g1, g2, g3, g4, g5, g6, g7, g8, g9, g10]) oNl) : CS w os 420 (forC w 137 [1] it fr) [(vl, lsO vs nv), (fl, lsO fs nf), (fr, fq1 w k0 (.ref vl) k1 (.ref fl) k2 (.ref td)), (td, dcE w (tabL l tkt)), (it, rgI (iN t) (iN (m+1))), (ta, tupO [.int 0 tk, sv V tv]), (e0, g0), (e1, g1), (e2, g2), (e3, g3), (e4, g4), (e5, g5), (e6, g6), (e7, g7), (e8, g8), (e9, g9), (e10, g10)] 0 rNx (fun x => [lsO vs nv, lsO fs nf, fq2 w k0 (.ref vl) k1 (.ref fl) k2 (.ref td) (x.a 0) (x.v 0) (x.a 1) (x.v 1) (x.a 2) (x.v 2), dcE w (tabL lo (fun j => x.a (j + 3))), x.o 0, tupO [.int 0 tk, sv V tv], g0, g1, g2, g3, g4, g5, g6, g7, g8, g9, g10]) oNl :=
  CB (orS (isForAt [216,217,218,219,220,221,222,223,224,225]) (isB ["list.__getitem__","dict.__setitem__"])) 30000 oq1 (fun b0 t0 => rwv 4 1 (rgN t m) (rgI (iN (t+1)) (iN m)) (rgI_next t m) <| vi (getS (l := vl) (i := t) (u := (t0+1)) (xs := vs) (n := nv) hv ht) [0] fun b1 t1 x1 => vj (getS (l := fl) (i := t) (u := (t0+1)) (xs := fs) (n := nf) hf ht) [1] fun _ => vj (getS (l := (b1+3)) (i := 3) (u := (gt)) (xs := [sv [] (t1+3), sv [97] (t1+5), sv [65] (t1+7), sv [] (t1+8)]) (n := 0) (v := sv [] (t1+8)) rfl (by decide)) [20] fun _ => vj (dnewT (dd := td) (l := l) (tk := tkt) (V := V) (z := tv) (r := []) (t := (t1+8)) hl hl2) [3] fun _ => vx (hN (updT tkt l.length (t1+8)) (.int (iN t) (t0+1)) (.int 0 tk) (sv V tv) (t0+2) (t1+1) (t1+2)) [0,1,2,3,4,5,6,7,8,9,10,11,12,13,14,15,16] fun x5 => finz [] (fun j => match j with | 0 => (t0+2) | 1 => (t1+1) | 2 => (t1+2) | j + 3 => x5.a (j + 3)) (x5.o) (x5.v)) (by kernel_rfl)
theorem dt_10 (vl fl fr it td ta : Addr) (e0 e1 e2 e3 e4 e5 e6 e7 e8 e9 e10 : Addr) (g0 g1 g2 g3 g4 g5 g6 g7 g8 g9 g10 : Obj) (vs fs : List Value) (nv nf t m : Nat) (V : List Nat) (l : List (List Nat × Nat × List Nat)) (tkt : Nat → Nat) (k0 k1 k2 : Nat) (tk tv gt : Nat) (k3 k4 k5 : Nat) (v3 v4 v5 : Value) (hv : vs[t]? = some (.ref ta)) (hf : fs[t]? = some (.int (iN 0) gt)) (ht : t < 1000) (hl : ∀ p ∈ l, p.1 ≠ V) (hl2 : l.length ≤ 100) (lo : List (List Nat × Nat × List Nat)) (hN : ∀ (tkt' : Nat → Nat) (v3' v4' v5' : Value), CS w os 420 (forC w 137 [1] it fr) [(vl, lsO vs nv), (fl, lsO fs nf), (fr, fq2 w k0 (.ref vl) k1 (.ref fl) k2 (.ref td) k3 v3' k4 v4' k5 v5'), (td, dcE w (tabL (l ++ [(V, tv, [])]) tkt')), (it, rgI (iN (t+1)) (iN m)), (ta, tupO [.int 1 tk, sv V tv]), (e0, g0), (e1, g1), (e2, g2), (e3, g3), (e4, g4), (e5, g5), (e6, g6), (e7, g7), (e8, g8), (e9, g9), (e10, g10)] 0 rNx (fun x => [lsO vs nv, lsO fs nf, fq2 w k0 (.ref vl) k1 (.ref fl) k2 (.ref td) k3 (x.v 0) k4 (x.v 1) k5 (x.v 2), dcE w (tabL lo (fun j => x.a (j + 3))), x.o 0, tupO [.int 1 tk, sv V tv], g0, g1, g2, g3, g4, g5, g6, g7, g8, g9, g10]) oNl) : CS w os 420 (forC w 137 [1] it fr) [(vl, lsO vs nv), (fl, lsO fs nf), (fr, fq2 w k0 (.ref vl) k1 (.ref fl) k2 (.ref td) k3 v3 k4 v4 k5 v5), (td, dcE w (tabL l tkt)), (it, rgI (iN t) (iN (m+1))), (ta, tupO [.int 1 tk, sv V tv]), (e0, g0), (e1, g1), (e2, g2), (e3, g3), (e4, g4), (e5, g5), (e6, g6), (e7, g7), (e8, g8), (e9, g9), (e10, g10)] 0 rNx (fun x => [lsO vs nv, lsO fs nf, fq2 w k0 (.ref vl) k1 (.ref fl) k2 (.ref td) k3 (x.v 0) k4 (x.v 1) k5 (x.v 2), dcE w (tabL lo (fun j => x.a (j + 3))), x.o 0, tupO [.int 1 tk, sv V tv], g0, g1, g2, g3, g4, g5, g6, g7, g8, g9, g10]) oNl :=
  CB (orS (isForAt [216,217,218,219,220,221,222,223,224,225]) (isB ["list.__getitem__","dict.__setitem__"])) 30000 oq1 (fun b0 t0 => rwv 4 1 (rgN t m) (rgI (iN (t+1)) (iN m)) (rgI_next t m) <| vi (getS (l := vl) (i := t) (u := (t0+1)) (xs := vs) (n := nv) hv ht) [0] fun b1 t1 x1 => vj (getS (l := fl) (i := t) (u := (t0+1)) (xs := fs) (n := nf) hf ht) [1] fun _ => vj (getS (l := (b1+3)) (i := 0) (u := (gt)) (xs := [sv [] (t1+3), sv [98] (t1+5), sv [66] (t1+7), sv [] (t1+8)]) (n := 0) (v := sv [] (t1+3)) rfl (by decide)) [20] fun _ => vj (dnewT (dd := td) (l := l) (tk := tkt) (V := V) (z := tv) (r := []) (t := (t1+3)) hl hl2) [3] fun _ => vx (hN (updT tkt l.length (t1+3)) (.int (iN t) (t0+1)) (.int 1 tk) (sv V tv) ) [0,1,2,3,4,5,6,7,8,9,10,11,12,13,14,15,16] fun x5 => finz [] (x5.a) (x5.o) (x5.v)) (by kernel_rfl)
theorem dt_11 (vl fl fr it td ta : Addr) (e0 e1 e2 e3 e4 e5 e6 e7 e8 e9 e10 : Addr) (g0 g1 g2 g3 g4 g5 g6 g7 g8 g9 g10 : Obj) (vs fs : List Value) (nv nf t m : Nat) (V : List Nat) (l : List (List Nat × Nat × List Nat)) (tkt : Nat → Nat) (k0 k1 k2 : Nat) (tk tv gt : Nat) (k3 k4 k5 : Nat) (v3 v4 v5 : Value) (hv : vs[t]? = some (.ref ta)) (hf : fs[t]? = some (.int (iN 1) gt)) (ht : t < 1000) (hl : ∀ p ∈ l, p.1 ≠ V) (hl2 : l.length ≤ 100) (lo : List (List Nat × Nat × List Nat)) (hN : ∀ (tkt' : Nat → Nat) (v3' v4' v5' : Value), CS w os 420 (forC w 137 [1] it fr) [(vl, lsO vs nv), (fl, lsO fs nf), (fr, fq2 w k0 (.ref vl) k1 (.ref fl) k2 (.ref td) k3 v3' k4 v4' k5 v5'), (td, dcE w (tabL (l ++ [(V, tv, [98])]) tkt')), (it, rgI (iN (t+1)) (iN m)), (ta, tupO [.int 1 tk, sv V tv]), (e0, g0), (e1, g1), (e2, g2), (e3, g3), (e4, g4), (e5, g5), (e6, g6), (e7, g7), (e8, g8), (e9, g9), (e10, g10)] 0 rNx (fun x => [lsO vs nv, lsO fs nf, fq2 w k0 (.ref vl) k1 (.ref fl) k2 (.ref td) k3 (x.v 0) k4 (x.v 1) k5 (x.v 2), dcE w (tabL lo (fun j => x.a (j + 3))), x.o 0, tupO [.int 1 tk, sv V tv], g0, g1, g2, g3, g4, g5, g6, g7, g8, g9, g10]) oNl) : CS w os 420 (forC w 137 [1] it fr) [(vl, lsO vs nv), (fl, lsO fs nf), (fr, fq2 w k0 (.ref vl) k1 (.ref fl) k2 (.ref td) k3 v3 k4 v4 k5 v5), (td, dcE w (tabL l tkt)), (it, rgI (iN t) (iN (m+1))), (ta, tupO [.int 1 tk, sv V tv]), (e0, g0), (e1, g1), (e2, g2), (e3, g3), (e4, g4), (e5, g5), (e6, g6), (e7, g7), (e8, g8), (e9, g9), (e10, g10)] 0 rNx (fun x => [lsO vs nv, lsO fs nf, fq2 w k0 (.ref vl) k1 (.ref fl) k2 (.ref td) k3 (x.v 0) k4 (x.v 1) k5 (x.v 2), dcE w (tabL lo (fun j => x.a (j + 3))), x.o 0, tupO [.int 1 tk, sv V tv], g0, g1, g2, g3, g4, g5, g6, g7, g8, g9, g10]) oNl :=
  CB (orS (isForAt [216,217,218,219,220,221,222,223,224,225]) (isB ["list.__getitem__","dict.__setitem__"])) 30000 oq1 (fun b0 t0 => rwv 4 1 (rgN t m) (rgI (iN (t+1)) (iN m)) (rgI_next t m) <| vi (getS (l := vl) (i := t) (u := (t0+1)) (xs := vs) (n := nv) hv ht) [0] fun b1 t1 x1 => vj (getS (l := fl) (i := t) (u := (t0+1)) (xs := fs) (n := nf) hf ht) [1] fun _ => vj (getS (l := (b1+3)) (i := 1) (u := (gt)) (xs := [sv [] (t1+3), sv [98] (t1+5), sv [66] (t1+7), sv [] (t1+8)]) (n := 0) (v := sv [98] (t1+5)) rfl (by decide)) [20] fun _ => vj (dnewT (dd := td) (l := l) (tk := tkt) (V := V) (z := tv) (r := [98]) (t := (t1+5)) hl hl2) [3] fun _ => vx (hN (updT tkt l.length (t1+5)) (.int (iN t) (t0+1)) (.int 1 tk) (sv V tv) ) [0,1,2,3,4,5,6,7,8,9,10,11,12,13,14,15,16] fun x5 => finz [] (x5.a) (x5.o) (x5.v)) (by kernel_rfl)
theorem dt_12 (vl fl fr it td ta : Addr) (e0 e1 e2 e3 e4 e5 e6 e7 e8 e9 e10 : Addr) (g0 g1 g2 g3 g4 g5 g6 g7 g8 g9 g10 : Obj) (vs fs : List Value) (nv nf t m : Nat) (V : List Nat) (l : List (List Nat × Nat × List Nat)) (tkt : Nat → Nat) (k0 k1 k2 : Nat) (tk tv gt : Nat) (k3 k4 k5 : Nat) (v3 v4 v5 : Value) (hv : vs[t]? = some (.ref ta)) (hf : fs[t]? = some (.int (iN 2) gt)) (ht : t < 1000) (hl : ∀ p ∈ l, p.1 ≠ V) (hl2 : l.length ≤ 100) (lo : List (List Nat × Nat × List Nat)) (hN : ∀ (tkt' : Nat → Nat) (v3' v4' v5' : Value), CS w os 420 (forC w 137 [1] it fr) [(vl, lsO vs nv), (fl, lsO fs nf), (fr, fq2 w k0 (.ref vl) k1 (.ref fl) k2 (.ref td) k3 v3' k4 v4' k5 v5'), (td, dcE w (tabL (l ++ [(V, tv, [66])]) tkt')), (it, rgI (iN (t+1)) (iN m)), (ta, tupO [.int 1 tk, sv V tv]), (e0, g0), (e1, g1), (e2, g2), (e3, g3), (e4, g4), (e5, g5), (e6, g6), (e7, g7), (e8, g8), (e9, g9), (e10, g10)] 0 rNx (fun x => [lsO vs nv, lsO fs nf, fq2 w k0 (.ref vl) k1 (.ref fl) k2 (.ref td) k3 (x.v 0) k4 (x.v 1) k5 (x.v 2), dcE w (tabL lo (fun j => x.a (j + 3))), x.o 0, tupO [.int 1 tk, sv V tv], g0, g1, g2, g3, g4, g5, g6, g7, g8, g9, g10]) oNl) : CS w os 420 (forC w 137 [1] it fr) [(vl, lsO vs nv), (fl, lsO fs nf), (fr, fq2 w k0 (.ref vl) k1 (.ref fl) k2 (.ref td) k3 v3 k4 v4 k5 v5), (td, dcE w (tabL l tkt)), (it, rgI (iN t) (iN (m+1))), (ta, tupO [.int 1 tk, sv V tv]), (e0, g0), (e1, g1), (e2, g2), (e3, g3), (e4, g4), (e5, g5), (e6, g6), (e7, g7), (e8, g8), (e9, g9), (e10, g10)] 0 rNx (fun x => [lsO vs nv, lsO fs nf, fq2 w k0 (.ref vl) k1 (.ref fl) k2 (.ref td) k3 (x.v 0) k4 (x.v 1) k5 (x.v 2), dcE w (tabL lo (fun j => x.a (j + 3))), x.o 0, tupO [.int 1 tk, sv V tv], g0, g1, g2, g3, g4, g5, g6, g7, g8, g9, g10]) oNl :=
  CB (orS (isForAt [216,217,218,219,220,221,222,223,224,225]) (isB ["list.__getitem__","dict.__setitem__"])) 30000 oq1 (fun b0 t0 => rwv 4 1 (rgN t m) (rgI (iN (t+1)) (iN m)) (rgI_next t m) <| vi (getS (l := vl) (i := t) (u := (t0+1)) (xs := vs) (n := nv) hv ht) [0] fun b1 t1 x1 => vj (getS (l := fl) (i := t) (u := (t0+1)) (xs := fs) (n := nf) hf ht) [1] fun _ => vj (getS (l := (b1+3)) (i := 2) (u := (gt)) (xs := [sv [] (t1+3), sv [98] (t1+5), sv [66] (t1+7), sv [] (t1+8)]) (n := 0) (v := sv [66] (t1+7)) rfl (by decide)) [20] fun _ => vj (dnewT (dd := td) (l := l) (tk := tkt) (V := V) (z := tv) (r := [66]) (t := (t1+7)) hl hl2) [3] fun _ => vx (hN (updT tkt l.length (t1+7)) (.int (iN t) (t0+1)) (.int 1 tk) (sv V tv) ) [0,1,2,3,4,5,6,7,8,9,10,11,12,13,14,15,16] fun x5 => finz [] (x5.a) (x5.o) (x5.v)) (by kernel_rfl)
theorem dt_13 (vl fl fr it td ta : Addr) (e0 e1 e2 e3 e4 e5 e6 e7 e8 e9 e10 : Addr) (g0 g1 g2 g3 g4 g5 g6 g7 g8 g9 g10 : Obj) (vs fs : List Value) (nv nf t m : Nat) (V : List Nat) (l : List (List Nat × Nat × List Nat)) (tkt : Nat → Nat) (k0 k1 k2 : Nat) (tk tv gt : Nat) (k3 k4 k5 : Nat) (v3 v4 v5 : Value) (hv : vs[t]? = some (.ref ta)) (hf : fs[t]? = some (.int (iN 3) gt)) (ht : t < 1000) (hl : ∀ p ∈ l, p.1 ≠ V) (hl2 : l.length ≤ 100) (lo : List (List Nat × Nat × List Nat)) (hN : ∀ (tkt' : Nat → Nat) (v3' v4' v5' : Value), CS w os 420 (forC w 137 [1] it fr) [(vl, lsO vs nv), (fl, lsO fs nf), (fr, fq2 w k0 (.ref vl) k1 (.ref fl) k2 (.ref td) k3 v3' k4 v4' k5 v5'), (td, dcE w (tabL (l ++ [(V, tv, [])]) tkt')), (it, rgI (iN (t+1)) (iN m)), (ta, tupO [.int 1 tk, sv V tv]), (e0, g0), (e1, g1), (e2, g2), (e3, g3), (e4, g4), (e5, g5), (e6, g6), (e7, g7), (e8, g8), (e9, g9), (e10, g10)] 0 rNx (fun x => [lsO vs nv, lsO fs nf, fq2 w k0 (.ref vl) k1 (.ref fl) k2 (.ref td) k3 (x.v 0) k4 (x.v 1) k5 (x.v 2), dcE w (tabL lo (fun j => x.a (j + 3))), x.o 0, tupO [.int 1 tk, sv V tv], g0, g1, g2, g3, g4, g5, g6, g7, g8, g9, g10]) oNl) : CS w os 420 (forC w 137 [1] it fr) [(vl, lsO vs nv), (fl, lsO fs nf), (fr, fq2 w k0 (.ref vl) k1 (.ref fl) k2 (.ref td) k3 v3 k4 v4 k5 v5), (td, dcE w (tabL l tkt)), (it, rgI (iN t) (iN (m+1))), (ta, tupO [.int 1 tk, sv V tv]), (e0, g0), (e1, g1), (e2, g2), (e3, g3), (e4, g4), (e5, g5), (e6, g6), (e7, g7), (e8, g8), (e9, g9), (e10, g10)] 0 rNx (fun x => [lsO vs nv, lsO fs nf, fq2 w k0 (.ref vl) k1 (.ref fl) k2 (.ref td) k3 (x.v 0) k4 (x.v 1) k5 (x.v 2), dcE w (tabL lo (fun j => x.a (j + 3))), x.o 0, tupO [.int 1 tk, sv V tv], g0, g1, g2, g3, g4, g5, g6, g7, g8, g9, g10]) oNl :=
  CB (orS (isForAt [216,217,218,219,220,221,222,223,224,225]) (isB ["list.__getitem__","dict.__setitem__"])) 30000 oq1 (fun b0 t0 => rwv 4 1 (rgN t m) (rgI (iN (t+1)) (iN m)) (rgI_next t m) <| vi (getS (l := vl) (i := t) (u := (t0+1)) (xs := vs) (n := nv) hv ht) [0] fun b1 t1 x1 => vj (getS (l := fl) (i := t) (u := (t0+1)) (xs := fs) (n := nf) hf ht) [1] fun _ => vj (getS (l := (b1+3)) (i := 3) (u := (gt)) (xs := [sv [] (t1+3), sv [98] (t1+5), sv [66] (t1+7), sv [] (t1+8)]) (n := 0) (v := sv [] (t1+8)) rfl (by decide)) [20] fun _ => vj (dnewT (dd := td) (l := l) (tk := tkt) (V := V) (z := tv) (r := []) (t := (t1+8)) hl hl2) [3] fun _ => vx (hN (updT tkt l.length (t1+8)) (.int (iN t) (t0+1)) (.int 1 tk) (sv V tv) ) [0,1,2,3,4,5,6,7,8,9,10,11,12,13,14,15,16] fun x5 => finz [] (x5.a) (x5.o) (x5.v)) (by kernel_rfl)
theorem dt_20 (vl fl fr it td ta : Addr) (e0 e1 e2 e3 e4 e5 e6 e7 e8 e9 e10 : Addr) (g0 g1 g2 g3 g4 g5 g6 g7 g8 g9 g10 : Obj) (vs fs : List Value) (nv nf t m : Nat) (V : List Nat) (l : List (List Nat × Nat × List Nat)) (tkt : Nat → Nat) (k0 k1 k2 : Nat) (tk tv gt : Nat) (k3 k4 k5 : Nat) (v3 v4 v5 : Value) (hv : vs[t]? = some (.ref ta)) (hf : fs[t]? = some (.int (iN 0) gt)) (ht : t < 1000) (hl : ∀ p ∈ l, p.1 ≠ V) (hl2 : l.length ≤ 100) (lo : List (List Nat × Nat × List Nat)) (hN : ∀ (tkt' : Nat → Nat) (v3' v4' v5' : Value), CS w os 420 (forC w 137 [1] it fr) [(vl, lsO vs nv), (fl, lsO fs nf), (fr, fq2 w k0 (.ref vl) k1 (.ref fl) k2 (.ref td) k3 v3' k4 v4' k5 v5'), (td, dcE w (tabL (l ++ [(V, tv, [])]) tkt')), (it, rgI (iN (t+1)) (iN m)), (ta, tupO [.int 2 tk, sv V tv]), (e0, g0), (e1, g1), (e2, g2), (e3, g3), (e4, g4), (e5, g5), (e6, g6), (e7, g7), (e8, g8), (e9, g9), (e10, g10)] 0 rNx (fun x => [lsO vs nv, lsO fs nf, fq2 w k0 (.ref vl) k1 (.ref fl) k2 (.ref td) k3 (x.v 0) k4 (x.v 1) k5 (x.v 2), dcE w (tabL lo (fun j => x.a (j + 3))), x.o 0, tupO [.int 2 tk, sv V tv], g0, g1, g2, g3, g4, g5, g6, g7, g8, g9, g10]) oNl) : CS w os 420 (forC w 137 [1] it fr) [(vl, lsO vs nv), (fl, lsO fs nf), (fr, fq2 w k0 (.ref vl) k1 (.ref fl) k2 (.ref td) k3 v3 k4 v4 k5 v5), (td, dcE w (tabL l tkt)), (it, rgI (iN t) (iN (m+1))), (ta, tupO [.int 2 tk, sv V tv]), (e0, g0), (e1, g1), (e2, g2), (e3, g3), (e4, g4), (e5, g5), (e6, g6), (e7, g7), (e8, g8), (e9, g9), (e10, g10)] 0 rNx (fun x => [lsO vs nv, lsO fs nf, fq2 w k0 (.ref vl) k1 (.ref fl) k2 (.ref td) k3 (x.v 0) k4 (x.v 1) k5 (x.v 2), dcE w (tabL lo (fun j => x.a (j + 3))), x.o 0, tupO [.int 2 tk, sv V tv], g0, g1, g2, g3, g4, g5, g6, g7, g8, g9, g10]) oNl :=
  CB (orS (isForAt [216,217,218,219,220,221,222,223,224,225]) (isB ["list.__getitem__","dict.__setitem__"])) 30000 oq1 (fun b0 t0 => rwv 4 1 (rgN t m) (rgI (iN (t+1)) (iN m)) (rgI_next t m) <| vi (getS (l := vl) (i := t) (u := (t0+1)) (xs := vs) (n := nv) hv ht) [0] fun b1 t1 x1 => vj (getS (l := fl) (i := t) (u := (t0+1)) (xs := fs) (n := nf) hf ht) [1] fun _ => vj (getS (l := (b1+3)) (i := 0) (u := (gt)) (xs := [sv [] (t1+3), sv [99] (t1+5), sv [67] (t1+7), sv [] (t1+8)]) (n := 0) (v := sv [] (t1+3)) rfl (by decide)) [20] fun _ => vj (dnewT (dd := td) (l := l) (tk := tkt) (V := V) (z := tv) (r := []) (t := (t1+3)) hl hl2) [3] fun _ => vx (hN (updT tkt l.length (t1+3)) (.int (iN t) (t0+1)) (.int 2 tk) (sv V tv) ) [0,1,2,3,4,5,6,7,8,9,10,11,12,13,14,15,16] fun x5 => finz [] (x5.a) (x5.o) (x5.v)) (by kernel_rfl)
theorem dt_21 (vl fl fr it td ta : Addr) (e0 e1 e2 e3 e4 e5 e6 e7 e8 e9 e10 : Addr) (g0 g1 g2 g3 g4 g5 g6 g7 g8 g9 g10 : Obj) (vs fs : List Value) (nv nf t m : Nat) (V : List Nat) (l : List (List Nat × Nat × List Nat)) (tkt : Nat → Nat) (k0 k1 k2 : Nat) (tk tv gt : Nat) (k3 k4 k5 : Nat) (v3 v4 v5 : Value) (hv : vs[t]? = some (.ref ta)) (hf : fs[t]? = some (.int (iN 1) gt)) (ht : t < 1000) (hl : ∀ p ∈ l, p.1 ≠ V) (hl2 : l.length ≤ 100) (lo : List (List Nat × Nat × List Nat)) (hN : ∀ (tkt' : Nat → Nat) (v3' v4' v5' : Value), CS w os 420 (forC w 137 [1] it fr) [(vl, lsO vs nv), (fl, lsO fs nf), (fr, fq2 w k0 (.ref vl) k1 (.ref fl) k2 (.ref td) k3 v3' k4 v4' k5 v5'), (td, dcE w (tabL (l ++ [(V, tv, [99])]) tkt')), (it, rgI (iN (t+1)) (iN m)), (ta, tupO [.int 2 tk, sv V tv]), (e0, g0), (e1, g1), (e2, g2), (e3, g3), (e4, g4), (e5, g5), (e6, g6), (e7, g7), (e8, g8), (e9, g9), (e10, g10)] 0 rNx (fun x => [lsO vs nv, lsO fs nf, fq2 w k0 (.ref vl) k1 (.ref fl) k2 (.ref td) k3 (x.v 0) k4 (x.v 1) k5 (x.v 2), dcE w (tabL lo (fun j => x.a (j + 3))), x.o 0, tupO [.int 2 tk, sv V tv], g0, g1, g2, g3, g4, g5, g6, g7, g8, g9, g10]) oNl) : CS w os 420 (forC w 137 [1] it fr) [(vl, lsO vs nv), (fl, lsO fs nf), (fr, fq2 w k0 (.ref vl) k1 (.ref fl) k2 (.ref td) k3 v3 k4 v4 k5 v5), (td, dcE w (tabL l tkt)), (it, rgI (iN t) (iN (m+1))), (ta, tupO [.int 2 tk, sv V tv]), (e0, g0), (e1, g1), (e2, g2), (e3, g3), (e4, g4), (e5, g5), (e6, g6), (e7, g7), (e8, g8), (e9, g9), (e10, g10)] 0 rNx (fun x => [lsO vs nv, lsO fs nf, fq2 w k0 (.ref vl) k1 (.ref fl) k2 (.ref td) k3 (x.v 0) k4 (x.v 1) k5 (x.v 2), dcE w (tabL lo (fun j => x.a (j + 3))), x.o 0, tupO [.int 2 tk, sv V tv], g0, g1, g2, g3, g4, g5, g6, g7, g8, g9, g10]) oNl :=
  CB (orS (isForAt [216,217,218,219,220,221,222,223,224,225]) (isB ["list.__getitem__","dict.__setitem__"])) 30000 oq1 (fun b0 t0 => rwv 4 1 (rgN t m) (rgI (iN (t+1)) (iN m)) (rgI_next t m) <| vi (getS (l := vl) (i := t) (u := (t0+1)) (xs := vs) (n := nv) hv ht) [0] fun b1 t1 x1 => vj (getS (l := fl) (i := t) (u := (t0+1)) (xs := fs) (n := nf) hf ht) [1] fun _ => vj (getS (l := (b1+3)) (i := 1) (u := (gt)) (xs := [sv [] (t1+3), sv [99] (t1+5), sv [67] (t1+7), sv [] (t1+8)]) (n := 0) (v := sv [99] (t1+5)) rfl (by decide)) [20] fun _ => vj (dnewT (dd := td) (l := l) (tk := tkt) (V := V) (z := tv) (r := [99]) (t := (t1+5)) hl hl2) [3] fun _ => vx (hN (updT tkt l.length (t1+5)) (.int (iN t) (t0+1)) (.int 2 tk) (sv V tv) ) [0,1,2,3,4,5,6,7,8,9,10,11,12,13,14,15,16] fun x5 => finz [] (x5.a) (x5.o) (x5.v)) (by kernel_rfl)
theorem dt_22 (vl fl fr it td ta : Addr) (e0 e1 e2 e3 e4 e5 e6 e7 e8 e9 e10 : Addr) (g0 g1 g2 g3 g4 g5 g6 g7 g8 g9 g10 : Obj) (vs fs : List Value) (nv nf t m : Nat) (V : List Nat) (l : List (List Nat × Nat × List Nat)) (tkt : Nat → Nat) (k0 k1 k2 : Nat) (tk tv gt : Nat) (k3 k4 k5 : Nat) (v3 v4 v5 : Value) (hv : vs[t]? = some (.ref ta)) (hf : fs[t]? = some (.int (iN 2) gt)) (ht : t < 1000) (hl : ∀ p ∈ l, p.1 ≠ V) (hl2 : l.length ≤ 100) (lo : List (List Nat × Nat × List Nat)) (hN : ∀ (tkt' : Nat → Nat) (v3' v4' v5' : Value), CS w os 420 (forC w 137 [1] it fr) [(vl, lsO vs nv), (fl, lsO fs nf), (fr, fq2 w k0 (.ref vl) k1 (.ref fl) k2 (.ref td) k3 v3' k4 v4' k5 v5'), (td, dcE w (tabL (l ++ [(V, tv, [67])]) tkt')), (it, rgI (iN (t+1)) (iN m)), (ta, tupO [.int 2 tk, sv V tv]), (e0, g0), (e1, g1), (e2, g2), (e3, g3), (e4, g4), (e5, g5), (e6, g6), (e7, g7), (e8, g8), (e9, g9), (e10, g10)] 0 rNx (fun x => [lsO vs nv, lsO fs nf, fq2 w k0 (.ref vl) k1 (.ref fl) k2 (.ref td) k3 (x.v 0) k4 (x.v 1) k5 (x.v 2), dcE w (tabL lo (fun j => x.a (j + 3))), x.o 0, tupO [.int 2 tk, sv V tv], g0, g1, g2, g3, g4, g5, g6, g7, g8, g9, g10]) oNl) : CS w os 420 (forC w 137 [1] it fr) [(vl, lsO vs nv), (fl, lsO fs nf), (fr, fq2 w k0 (.ref vl) k1 (.ref fl) k2 (.ref td) k3 v3 k4 v4 k5 v5), (td, dcE w (tabL l tkt)), (it, rgI (iN t) (iN (m+1))), (ta, tupO [.int 2 tk, sv V tv]), (e0, g0), (e1, g1), (e2, g2), (e3, g3), (e4, g4), (e5, g5), (e6, g6), (e7, g7), (e8, g8), (e9, g9), (e10, g10)] 0 rNx (fun x => [lsO vs nv, lsO fs nf, fq2 w k0 (.ref vl) k1 (.ref fl) k2 (.ref td) k3 (x.v 0) k4 (x.v 1) k5 (x.v 2), dcE w (tabL lo (fun j => x.a (j + 3))), x.o 0, tupO [.int 2 tk, sv V tv], g0, g1, g2, g3, g4, g5, g6, g7, g8, g9, g10]) oNl :=
  CB (orS (isForAt [216,217,218,219,220,221,222,223,224,225]) (isB ["list.__getitem__","dict.__setitem__"])) 30000 oq1 (fun b0 t0 => rwv 4 1 (rgN t m) (rgI (iN (t+1)) (iN m)) (rgI_next t m) <| vi (getS (l := vl) (i := t) (u := (t0+1)) (xs := vs) (n := nv) hv ht) [0] fun b1 t1 x1 => vj (getS (l := fl) (i := t) (u := (t0+1)) (xs := fs) (n := nf) hf ht) [1] fun _ => vj (getS (l := (b1+3)) (i := 2) (u := (gt)) (xs := [sv [] (t1+3), sv [99] (t1+5), sv [67] (t1+7), sv [] (t1+8)]) (n := 0) (v := sv [67] (t1+7)) rfl (by decide)) [20] fun _ => vj (dnewT (dd := td) (l := l) (tk := tkt) (V := V) (z := tv) (r := [67]) (t := (t1+7)) hl hl2) [3] fun _ => vx (hN (updT tkt l.length (t1+7)) (.int (iN t) (t0+1)) (.int 2 tk) (sv V tv) ) [0,1,2,3,4,5,6,7,8,9,10,11,12,13,14,15,16] fun x5 => finz [] (x5.a) (x5.o) (x5.v)) (by kernel_rfl)
theorem dt_23 (vl fl fr it td ta : Addr) (e0 e1 e2 e3 e4 e5 e6 e7 e8 e9 e10 : Addr) (g0 g1 g2 g3 g4 g5 g6 g7 g8 g9 g10 : Obj) (vs fs : List Value) (nv nf t m : Nat) (V : List Nat) (l : List (List Nat × Nat × List Nat)) (tkt : Nat → Nat) (k0 k1 k2 : Nat) (tk tv gt : Nat) (k3 k4 k5 : Nat) (v3 v4 v5 : Value) (hv : vs[t]? = some (.ref ta)) (hf : fs[t]? = some (.int (iN 3) gt)) (ht : t < 1000) (hl : ∀ p ∈ l, p.1 ≠ V) (hl2 : l.length ≤ 100) (lo : List (List Nat × Nat × List Nat)) (hN : ∀ (tkt' : Nat → Nat) (v3' v4' v5' : Value), CS w os 420 (forC w 137 [1] it fr) [(vl, lsO vs nv), (fl, lsO fs nf), (fr, fq2 w k0 (.ref vl) k1 (.ref fl) k2 (.ref td) k3 v3' k4 v4' k5 v5'), (td, dcE w (tabL (l ++ [(V, tv, [])]) tkt')), (it, rgI (iN (t+1)) (iN m)), (ta, tupO [.int 2 tk, sv V tv]), (e0, g0), (e1, g1), (e2, g2), (e3, g3), (e4, g4), (e5, g5), (e6, g6), (e7, g7), (e8, g8), (e9, g9), (e10, g10)] 0 rNx (fun x => [lsO vs nv, lsO fs nf, fq2 w k0 (.ref vl) k1 (.ref fl) k2 (.ref td) k3 (x.v 0) k4 (x.v 1) k5 (x.v 2), dcE w (tabL lo (fun j => x.a (j + 3))), x.o 0, tupO [.int 2 tk, sv V tv], g0, g1, g2, g3, g4, g5, g6, g7, g8, g9, g10]) oNl) : CS w os 420 (forC w 137 [1] it fr) [(vl, lsO vs nv), (fl, lsO fs nf), (fr, fq2 w k0 (.ref vl) k1 (.ref fl) k2 (.ref td) k3 v3 k4 v4 k5 v5), (td, dcE w (tabL l tkt)), (it, rgI (iN t) (iN (m+1))), (ta, tupO [.int 2 tk, sv V tv]), (e0, g0), (e1, g1), (e2, g2), (e3, g3), (e4, g4), (e5, g5), (e6, g6), (e7, g7), (e8, g8), (e9, g9), (e10, g10)] 0 rNx (fun x => [lsO vs nv, lsO fs nf, fq2 w k0 (.ref vl) k1 (.ref fl) k2 (.ref td) k3 (x.v 0) k4 (x.v 1) k5 (x.v 2), dcE w (tabL lo (fun j => x.a (j + 3))), x.o 0, tupO [.int 2 tk, sv V tv], g0, g1, g2, g3, g4, g5, g6, g7, g8, g9, g10]) oNl :=
  CB (orS (isForAt [216,217,218,219,220,221,222,223,224,225]) (isB ["list.__getitem__","dict.__setitem__"])) 30000 oq1 (fun b0 t0 => rwv 4 1 (rgN t m) (rgI (iN (t+1)) (iN m)) (rgI_next t m) <| vi (getS (l := vl) (i := t) (u := (t0+1)) (xs := vs) (n := nv) hv ht) [0] fun b1 t1 x1 => vj (getS (l := fl) (i := t) (u := (t0+1)) (xs := fs) (n := nf) hf ht) [1] fun _ => vj (getS (l := (b1+3)) (i := 3) (u := (gt)) (xs := [sv [] (t1+3), sv [99] (t1+5), sv [67] (t1+7), sv [] (t1+8)]) (n := 0) (v := sv [] (t1+8)) rfl (by decide)) [20] fun _ => vj (dnewT (dd := td) (l := l) (tk := tkt) (V := V) (z := tv) (r := []) (t := (t1+8)) hl hl2) [3] fun _ => vx (hN (updT tkt l.length (t1+8)) (.int (iN t) (t0+1)) (.int 2 tk) (sv V tv) ) [0,1,2,3,4,5,6,7,8,9,10,11,12,13,14,15,16] fun x5 => finz [] (x5.a) (x5.o) (x5.v)) (by kernel_rfl)
theorem dt_end (vl fl fr it td : Addr) (e0 e1 e2 e3 e4 e5 e6 e7 e8 e9 e10 e11 : Addr) (g0 g1 g2 g3 g4 g5 g6 g7 g8 g9 g10 g11 : Obj) (vs fs : List Value) (nv nf : Nat) (k : Int) (l : List (List Nat × Nat × List Nat)) (tkt : Nat → Nat) (k0 k1 k2 k3 k4 k5 : Nat) (v3 v4 v5 : Value) : CS w os 420 (forC w 137 [1] it fr) [(vl, lsO vs nv), (fl, lsO fs nf), (fr, fq2 w k0 (.ref vl) k1 (.ref fl) k2 (.ref td) k3 v3 k4 v4 k5 v5), (td, dcE w (tabL l tkt)), (it, rgI k 0), (e0, g0), (e1, g1), (e2, g2), (e3, g3), (e4, g4), (e5, g5), (e6, g6), (e7, g7), (e8, g8), (e9, g9), (e10, g10), (e11, g11)] 0 rNx (fun x => [lsO vs nv, lsO fs nf, fq2 w k0 (.ref vl) k1 (.ref fl) k2 (.ref td) k3 (x.v 0) k4 (x.v 1) k5 (x.v 2), dcE w (tabL l (fun j => x.a (j + 3))), x.o 0, g0, g1, g2, g3, g4, g5, g6, g7, g8, g9, g10, g11]) oNl :=
  CB (noStop) 30000 [5,5,5,5,5,19] (fun b0 t0 => finz [] (fun j => tkt (j - 3)) (fun _ => rgI k 0) (fun j => match j with | 0 => v3 | 1 => v4 | _ => v5)) (by kernel_rfl)
theorem el_0F (c0 c1 c2 u v : Nat) (h0 : ∀ t u, CS w os 990 (.builtin "str.endswith" ⟨[sv [c0,c1,c2] t, sv [98, 99] u], []⟩) [] 0 (fun _ => rOk (.bool false)) oNl oNl) : CS w os 700 (.call (.ref 50) ⟨[sv [46, 46, 46, 98, 99] u, sv [c0,c1,c2] v], []⟩) [] 0 (fun x => rOk (.bool false)) oNl oNl :=
  CB (isB ["str.startswith","str.endswith"]) 30000 oq2 (fun b0 t0 => vx (h0 (v) (t0+4)) [] fun _ => fin [] []) (by kernel_rfl)
theorem el_0T (c0 c1 c2 u v : Nat) (h0 : ∀ t u, CS w os 990 (.builtin "str.endswith" ⟨[sv [c0,c1,c2] t, sv [98, 99] u], []⟩) [] 0 (fun _ => rOk (.bool true)) oNl oNl) : CS w os 700 (.call (.ref 50) ⟨[sv [46, 46, 46, 98, 99] u, sv [c0,c1,c2] v], []⟩) [] 0 (fun x => rOk (.bool true)) oNl oNl :=
  CB (isB ["str.startswith","str.endswith"]) 30000 oq3 (fun b0 t0 => vx (h0 (v) (t0+4)) [] fun _ => fin [] []) (by kernel_rfl)
theorem el_10F (c0 c1 c2 u v : Nat) (h0 : ∀ t u, CS w os 990 (.builtin "str.startswith" ⟨[sv [c0,c1,c2] t, sv [97, 66] u], []⟩) [] 0 (fun _ => rOk (.bool false)) oNl oNl) : CS w os 700 (.call (.ref 50) ⟨[sv [97, 66, 46, 46, 46] u, sv [c0,c1,c2] v], []⟩) [] 0 (fun x => rOk (.bool false)) oNl oNl :=
  CB (isB ["str.startswith","str.endswith"]) 30000 oq4 (fun b0 t0 => vx (h0 (v) (t0+3)) [] fun _ => fin [] []) (by kernel_rfl)
theorem el_10T (c0 c1 c2 u v : Nat) (h0 : ∀ t u, CS w os 990 (.builtin "str.startswith" ⟨[sv [c0,c1,c2] t, sv [97, 66] u], []⟩) [] 0 (fun _ => rOk (.bool true)) oNl oNl) : CS w os 700 (.call (.ref 50) ⟨[sv [97, 66, 46, 46, 46] u, sv [c0,c1,c2] v], []⟩) [] 0 (fun x => rOk (.bool true)) oNl oNl :=
  CB (isB ["str.startswith","str.endswith"]) 30000 oq5 (fun b0 t0 => vx (h0 (v) (t0+3)) [] fun _ => fin [] []) (by kernel_rfl)
theorem el_11F (c0 c1 c2 u v : Nat) (h0 : ∀ t u, CS w os 990 (.builtin "str.startswith" ⟨[sv [c0,c1,c2] t, sv [65, 66] u], []⟩) [] 0 (fun _ => rOk (.bool false)) oNl oNl) : CS w os 700 (.call (.ref 50) ⟨[sv [65, 66, 46, 46, 46] u, sv [c0,c1,c2] v], []⟩) [] 0 (fun x => rOk (.bool false)) oNl oNl :=
  CB (isB ["str.startswith","str.endswith"]) 30000 oq4 (fun b0 t0 => vx (h0 (v) (t0+3)) [] fun _ => fin [] []) (by kernel_rfl)
theorem el_11T (c0 c1 c2 u v : Nat) (h0 : ∀ t u, CS w os 990 (.builtin "str.startswith" ⟨[sv [c0,c1,c2] t, sv [65, 66] u], []⟩) [] 0 (fun _ => rOk (.bool true)) oNl oNl) : CS w os 700 (.call (.ref 50) ⟨[sv [65, 66, 46, 46, 46] u, sv [c0,c1,c2] v], []⟩) [] 0 (fun x => rOk (.bool true)) oNl oNl :=
  CB (isB ["str.startswith","str.endswith"]) 30000 oq5 (fun b0 t0 => vx (h0 (v) (t0+3)) [] fun _ => fin [] []) (by kernel_rfl)
theorem el_1F (c0 c1 c2 u v : Nat) (h0 : ∀ t u, CS w os 990 (.builtin "str.endswith" ⟨[sv [c0,c1,c2] t, sv [66, 99] u], []⟩) [] 0 (fun _ => rOk (.bool false)) oNl oNl) : CS w os 700 (.call (.ref 50) ⟨[sv [46, 46, 46, 66, 99] u, sv [c0,c1,c2] v], []⟩) [] 0 (fun x => rOk (.bool false)) oNl oNl :=
  CB (isB ["str.startswith","str.endswith"]) 30000 oq2 (fun b0 t0 => vx (h0 (v) (t0+4)) [] fun _ => fin [] []) (by kernel_rfl)
theorem el_1T (c0 c1 c2 u v : Nat) (h0 : ∀ t u, CS w os 990 (.builtin "str.endswith" ⟨[sv [c0,c1,c2] t, sv [66, 99] u], []⟩) [] 0 (fun _ => rOk (.bool true)) oNl oNl) : CS w os 700 (.call (.ref 50) ⟨[sv [46, 46, 46, 66, 99] u, sv [c0,c1,c2] v], []⟩) [] 0 (fun x => rOk (.bool true)) oNl oNl :=
  CB (isB ["str.startswith","str.endswith"]) 30000 oq3 (fun b0 t0 => vx (h0 (v) (t0+4)) [] fun _ => fin [] []) (by kernel_rfl)
theorem el_2F (c0 c1 c2 u v : Nat) (h0 : ∀ t u, CS w os 990 (.builtin "str.endswith" ⟨[sv [c0,c1,c2] t, sv [98, 67] u], []⟩) [] 0 (fun _ => rOk (.bool false)) oNl oNl) : CS w os 700 (.call (.ref 50) ⟨[sv [46, 46, 46, 98, 67] u, sv [c0,c1,c2] v], []⟩) [] 0 (fun x => rOk (.bool false)) oNl oNl :=
  CB (isB ["str.startswith","str.endswith"]) 30000 oq2 (fun b0 t0 => vx (h0 (v) (t0+4)) [] fun _ => fin [] []) (by kernel_rfl)
theorem el_2T (c0 c1 c2 u v : Nat) (h0 : ∀ t u, CS w os 990 (.builtin "str.endswith" ⟨[sv [c0,c1,c2] t, sv [98, 67] u], []⟩) [] 0 (fun _ => rOk (.bool true)) oNl oNl) : CS w os 700 (.call (.ref 50) ⟨[sv [46, 46, 46, 98, 67] u, sv [c0,c1,c2] v], []⟩) [] 0 (fun x => rOk (.bool true)) oNl oNl :=
  CB (isB ["str.startswith","str.endswith"]) 30000 oq3 (fun b0 t0 => vx (h0 (v) (t0+4)) [] fun _ => fin [] []) (by kernel_rfl)
theorem el_3F (c0 c1 c2 u v : Nat) (h0 : ∀ t u, CS w os 990 (.builtin "str.endswith" ⟨[sv [c0,c1,c2] t, sv [66, 67] u], []⟩) [] 0 (fun _ => rOk (.bool false)) oNl oNl) : CS w os 700 (.call (.ref 50) ⟨[sv [46, 46, 46, 66, 67] u, sv [c0,c1,c2] v], []⟩) [] 0 (fun x => rOk (.bool false)) oNl oNl :=
  CB (isB ["str.startswith","str.endswith"]) 30000 oq2 (fun b0 t0 => vx (h0 (v) (t0+4)) [] fun _ => fin [] []) (by kernel_rfl)
theorem el_3T (c0 c1 c2 u v : Nat) (h0 : ∀ t u, CS w os 990 (.builtin "str.endswith" ⟨[sv [c0,c1,c2] t, sv [66, 67] u], []⟩) [] 0 (fun _ => rOk (.bool true)) oNl oNl) : CS w os 700 (.call (.ref 50) ⟨[sv [46, 46, 46, 66, 67] u, sv [c0,c1,c2] v], []⟩) [] 0 (fun x => rOk (.bool true)) oNl oNl :=
  CB (isB ["str.startswith","str.endswith"]) 30000 oq3 (fun b0 t0 => vx (h0 (v) (t0+4)) [] fun _ => fin [] []) (by kernel_rfl)
theorem el_4F (c0 c1 c2 u v : Nat) (h0 : ∀ t u, CS w os 990 (.builtin "str.startswith" ⟨[sv [c0,c1,c2] t, sv [97] u], []⟩) [] 0 (fun _ => rOk (.bool false)) oNl oNl) : CS w os 700 (.call (.ref 50) ⟨[sv [97, 46, 46, 46, 99] u, sv [c0,c1,c2] v], []⟩) [] 0 (fun x => rOk (.bool false)) oNl oNl :=
  CB (isB ["str.startswith","str.endswith"]) 30000 oq4 (fun b0 t0 => vx (h0 (v) (t0+3)) [] fun _ => fin [] []) (by kernel_rfl)
theorem el_4TF (c0 c1 c2 u v : Nat) (h0 : ∀ t u, CS w os 990 (.builtin "str.startswith" ⟨[sv [c0,c1,c2] t, sv [97] u], []⟩) [] 0 (fun _ => rOk (.bool true)) oNl oNl) (h1 : ∀ t u, CS w os 990 (.builtin "str.endswith" ⟨[sv [c0,c1,c2] t, sv [99] u], []⟩) [] 0 (fun _ => rOk (.bool false)) oNl oNl) : CS w os 700 (.call (.ref 50) ⟨[sv [97, 46, 46, 46, 99] u, sv [c0,c1,c2] v], []⟩) [] 0 (fun x => rOk (.bool false)) oNl oNl :=
  CB (isB ["str.startswith","str.endswith"]) 30000 oq6 (fun b0 t0 => vx (h0 (v) (t0+3)) [] fun _ => vx (h1 (v) (t0+4)) [] fun _ => fin [] []) (by kernel_rfl)
theorem el_4TT (c0 c1 c2 u v : Nat) (h0 : ∀ t u, CS w os 990 (.builtin "str.startswith" ⟨[sv [c0,c1,c2] t, sv [97] u], []⟩) [] 0 (fun _ => rOk (.bool true)) oNl oNl) (h1 : ∀ t u, CS w os 990 (.builtin "str.endswith" ⟨[sv [c0,c1,c2] t, sv [99] u], []⟩) [] 0 (fun _ => rOk (.bool true)) oNl oNl) : CS w os 700 (.call (.ref 50) ⟨[sv [97, 46, 46, 46, 99] u, sv [c0,c1,c2] v], []⟩) [] 0 (fun x => rOk (.bool true)) oNl oNl :=
  CB (isB ["str.startswith","str.endswith"]) 30000 oq7 (fun b0 t0 => vx (h0 (v) (t0+3)) [] fun _ => vx (h1 (v) (t0+4)) [] fun _ => fin [] []) (by kernel_rfl)
theorem el_5F (c0 c1 c2 u v : Nat) (h0 : ∀ t u, CS w os 990 (.builtin "str.startswith" ⟨[sv [c0,c1,c2] t, sv [65] u], []⟩) [] 0 (fun _ => rOk (.bool false)) oNl oNl) : CS w os 700 (.call (.ref 50) ⟨[sv [65, 46, 46, 46, 99] u, sv [c0,c1,c2] v], []⟩) [] 0 (fun x => rOk (.bool false)) oNl oNl :=
  CB (isB ["str.startswith","str.endswith"]) 30000 oq4 (fun b0 t0 => vx (h0 (v) (t0+3)) [] fun _ => fin [] []) (by kernel_rfl)
theorem el_5TF (c0 c1 c2 u v : Nat) (h0 : ∀ t u, CS w os 990 (.builtin "str.startswith" ⟨[sv [c0,c1,c2] t, sv [65] u], []⟩) [] 0 (fun _ => rOk (.bool true)) oNl oNl) (h1 : ∀ t u, CS w os 990 (.builtin "str.endswith" ⟨[sv [c0,c1,c2] t, sv [99] u], []⟩) [] 0 (fun _ => rOk (.bool false)) oNl oNl) : CS w os 700 (.call (.ref 50) ⟨[sv [65, 46, 46, 46, 99] u, sv [c0,c1,c2] v], []⟩) [] 0 (fun x => rOk (.bool false)) oNl oNl :=
  CB (isB ["str.startswith","str.endswith"]) 30000 oq6 (fun b0 t0 => vx (h0 (v) (t0+3)) [] fun _ => vx (h1 (v) (t0+4)) [] fun _ => fin [] []) (by kernel_rfl)
theorem el_5TT (c0 c1 c2 u v : Nat) (h0 : ∀ t u, CS w os 990 (.builtin "str.startswith" ⟨[sv [c0,c1,c2] t, sv [65] u], []⟩) [] 0 (fun _ => rOk (.bool true)) oNl oNl) (h1 : ∀ t u, CS w os 990 (.builtin "str.endswith" ⟨[sv [c0,c1,c2] t, sv [99] u], []⟩) [] 0 (fun _ => rOk (.bool true)) oNl oNl) : CS w os 700 (.call (.ref 50) ⟨[sv [65, 46, 46, 46, 99] u, sv [c0,c1,c2] v], []⟩) [] 0 (fun x => rOk (.bool true)) oNl oNl :=
  CB (isB ["str.startswith","str.endswith"]) 30000 oq7 (fun b0 t0 => vx (h0 (v) (t0+3)) [] fun _ => vx (h1 (v) (t0+4)) [] fun _ => fin [] []) (by kernel_rfl)
theorem el_6F (c0 c1 c2 u v : Nat) (h0 : ∀ t u, CS w os 990 (.builtin "str.startswith" ⟨[sv [c0,c1,c2] t, sv [97] u], []⟩) [] 0 (fun _ => rOk (.bool false)) oNl oNl) : CS w os 700 (.call (.ref 50) ⟨[sv [97, 46, 46, 46, 67] u, sv [c0,c1,c2] v], []⟩) [] 0 (fun x => rOk (.bool false)) oNl oNl :=
  CB (isB ["str.startswith","str.endswith"]) 30000 oq4 (fun b0 t0 => vx (h0 (v) (t0+3)) [] fun _ => fin [] []) (by kernel_rfl)
theorem el_6TF (c0 c1 c2 u v : Nat) (h0 : ∀ t u, CS w os 990 (.builtin "str.startswith" ⟨[sv [c0,c1,c2] t, sv [97] u], []⟩) [] 0 (fun _ => rOk (.bool true)) oNl oNl) (h1 : ∀ t u, CS w os 990 (.builtin "str.endswith" ⟨[sv [c0,c1,c2] t, sv [67] u], []⟩) [] 0 (fun _ => rOk (.bool false)) oNl oNl) : CS w os 700 (.call (.ref 50) ⟨[sv [97, 46, 46, 46, 67] u, sv [c0,c1,c2] v], []⟩) [] 0 (fun x => rOk (.bool false)) oNl oNl :=
  CB (isB ["str.startswith","str.endswith"]) 30000 oq6 (fun b0 t0 => vx (h0 (v) (t0+3)) [] fun _ => vx (h1 (v) (t0+4)) [] fun _ => fin [] []) (by kernel_rfl)
theorem el_6TT (c0 c1 c2 u v : Nat) (h0 : ∀ t u, CS w os 990 (.builtin "str.startswith" ⟨[sv [c0,c1,c2] t, sv [97] u], []⟩) [] 0 (fun _ => rOk (.bool true)) oNl oNl) (h1 : ∀ t u, CS w os 990 (.builtin "str.endswith" ⟨[sv [c0,c1,c2] t, sv [67] u], []⟩) [] 0 (fun _ => rOk (.bool true)) oNl oNl) : CS w os 700 (.call (.ref 50) ⟨[sv [97, 46, 46, 46, 67] u, sv [c0,c1,c2] v], []⟩) [] 0 (fun x => rOk (.bool true)) oNl oNl :=
  CB (isB ["str.startswith","str.endswith"]) 30000 oq7 (fun b0 t0 => vx (h0 (v) (t0+3)) [] fun _ => vx (h1 (v) (t0+4)) [] fun _ => fin [] []) (by kernel_rfl)
theorem el_7F (c0 c1 c2 u v : Nat) (h0 : ∀ t u, CS w os 990 (.builtin "str.startswith" ⟨[sv [c0,c1,c2] t, sv [65] u], []⟩) [] 0 (fun _ => rOk (.bool false)) oNl oNl) : CS w os 700 (.call (.ref 50) ⟨[sv [65, 46, 46, 46, 67] u, sv [c0,c1,c2] v], []⟩) [] 0 (fun x => rOk (.bool false)) oNl oNl :=
  CB (isB ["str.startswith","str.endswith"]) 30000 oq4 (fun b0 t0 => vx (h0 (v) (t0+3)) [] fun _ => fin [] []) (by kernel_rfl)
theorem el_7TF (c0 c1 c2 u v : Nat) (h0 : ∀ t u, CS w os 990 (.builtin "str.startswith" ⟨[sv [c0,c1,c2] t, sv [65] u], []⟩) [] 0 (fun _ => rOk (.bool true)) oNl oNl) (h1 : ∀ t u, CS w os 990 (.builtin "str.endswith" ⟨[sv [c0,c1,c2] t, sv [67] u], []⟩) [] 0 (fun _ => rOk (.bool false)) oNl oNl) : CS w os 700 (.call (.ref 50) ⟨[sv [65, 46, 46, 46, 67] u, sv [c0,c1,c2] v], []⟩) [] 0 (fun x => rOk (.bool false)) oNl oNl :=
  CB (isB ["str.startswith","str.endswith"]) 30000 oq6 (fun b0 t0 => vx (h0 (v) (t0+3)) [] fun _ => vx (h1 (v) (t0+4)) [] fun _ => fin [] []) (by kernel_rfl)
theorem el_7TT (c0 c1 c2 u v : Nat) (h0 : ∀ t u, CS w os 990 (.builtin "str.startswith" ⟨[sv [c0,c1,c2] t, sv [65] u], []⟩) [] 0 (fun _ => rOk (.bool true)) oNl oNl) (h1 : ∀ t u, CS w os 990 (.builtin "str.endswith" ⟨[sv [c0,c1,c2] t, sv [67] u], []⟩) [] 0 (fun _ => rOk (.bool true)) oNl oNl) : CS w os 700 (.call (.ref 50) ⟨[sv [65, 46, 46, 46, 67] u, sv [c0,c1,c2] v], []⟩) [] 0 (fun x => rOk (.bool true)) oNl oNl :=
  CB (isB ["str.startswith","str.endswith"]) 30000 oq7 (fun b0 t0 => vx (h0 (v) (t0+3)) [] fun _ => vx (h1 (v) (t0+4)) [] fun _ => fin [] []) (by kernel_rfl)
theorem el_8F (c0 c1 c2 u v : Nat) (h0 : ∀ t u, CS w os 990 (.builtin "str.startswith" ⟨[sv [c0,c1,c2] t, sv [97, 98] u], []⟩) [] 0 (fun _ => rOk (.bool false)) oNl oNl) : CS w os 700 (.call (.ref 50) ⟨[sv [97, 98, 46, 46, 46] u, sv [c0,c1,c2] v], []⟩) [] 0 (fun x => rOk (.bool false)) oNl oNl :=
  CB (isB ["str.startswith","str.endswith"]) 30000 oq4 (fun b0 t0 => vx (h0 (v) (t0+3)) [] fun _ => fin [] []) (by kernel_rfl)
theorem el_8T (c0 c1 c2 u v : Nat) (h0 : ∀ t u, CS w os 990 (.builtin "str.startswith" ⟨[sv [c0,c1,c2] t, sv [97, 98] u], []⟩) [] 0 (fun _ => rOk (.bool true)) oNl oNl) : CS w os 700 (.call (.ref 50) ⟨[sv [97, 98, 46, 46, 46] u, sv [c0,c1,c2] v], []⟩) [] 0 (fun x => rOk (.bool true)) oNl oNl :=
  CB (isB ["str.startswith","str.endswith"]) 30000 oq5 (fun b0 t0 => vx (h0 (v) (t0+3)) [] fun _ => fin [] []) (by kernel_rfl)
theorem el_9F (c0 c1 c2 u v : Nat) (h0 : ∀ t u, CS w os 990 (.builtin "str.startswith" ⟨[sv [c0,c1,c2] t, sv [65, 98] u], []⟩) [] 0 (fun _ => rOk (.bool false)) oNl oNl) : CS w os 700 (.call (.ref 50) ⟨[sv [65, 98, 46, 46, 46] u, sv [c0,c1,c2] v], []⟩) [] 0 (fun x => rOk (.bool false)) oNl oNl :=
  CB (isB ["str.startswith","str.endswith"]) 30000 oq4 (fun b0 t0 => vx (h0 (v) (t0+3)) [] fun _ => fin [] []) (by kernel_rfl)
theorem el_9T (c0 c1 c2 u v : Nat) (h0 : ∀ t u, CS w os 990 (.builtin "str.startswith" ⟨[sv [c0,c1,c2] t, sv [65, 98] u], []⟩) [] 0 (fun _ => rOk (.bool true)) oNl oNl) : CS w os 700 (.call (.ref 50) ⟨[sv [65, 98, 46, 46, 46] u, sv [c0,c1,c2] v], []⟩) [] 0 (fun x => rOk (.bool true)) oNl oNl :=
  CB (isB ["str.startswith","str.endswith"]) 30000 oq5 (fun b0 t0 => vx (h0 (v) (t0+3)) [] fun _ => fin [] []) (by kernel_rfl)
theorem far_b (wl ml : Addr) (ws ms : List Value) (nw n : Nat) (out : List Value) (nn : Nat) (hT : ∀ (it fr fl cw k0 k1 k2 : Nat), CS w os 440 (forCC w 154 [1] it fr [(⟨Zad⟩, cw)]) [(wl, lsO ws nw), (ml, lsO ms n), (fr, fq3 w k0 (.ref wl) k1 (.ref ml) k2 (.ref fl)), (cw, cNo), (fl, lsO [] 0), (it, itO wl 0)] 0 rNx (fun x => [lsO ws nw, lsO ms n, fq3 w k0 (.ref wl) k1 (.ref ml) k2 (.ref fl), (⟨.type "cell", none, .cell (some (x.v 0)), #[]⟩ : Obj), lsO out nn, x.o 0]) oNl) : CS w os 430 (.call (.ref 154) ⟨[.ref wl, .ref ml], []⟩) [(wl, lsO ws nw), (ml, lsO ms n)] 1 (fun x => rOk (.ref (x.a 0))) (fun _ => [lsO ws nw, lsO ms n]) (fun x => [lsO out nn]) :=
  CB (isFor) 30000 [1,0,3,3,3,3,3,3,3,1,1,1,6,3] (fun b0 t0 => vx (hT (b0+3) (b0+0) (b0+2) (b0+1) (t0+1) (t0+2) (t0+3)) [0,1,2,3,4,5] fun _ => fin [4] []) (by kernel_rfl)
theorem fc_F (it ml acc loc fr cw : Addr) (ms xs : List Value) (n nx i : Nat) (c0 c1 c2 u d0 d1 d2 tw : Nat) (hx : xs.length ≤ 100) (k0 : Nat) (v0 : Value) (hv : ms[i]? = some (sv [c0,c1,c2] u)) (r : Nat) (hE : LevC w os [c0,c1,c2] [d0,d1,d2] (iN r)) (hr : decide (iN r ≤ 1) = false) (out : List Value) (nn : Nat) (hX : ∀ (v0' : Value), CS w os 560 (compC w 154 [1, 0, 0] it acc loc fr [(⟨Zad⟩, cw)]) [(it, itO ml (i+1)), (ml, lsO ms n), (acc, lsO xs nx), (loc, dq4 w k0 v0'), (cw, cellO (sv [d0,d1,d2] tw))] 0 rNx (fun x => [x.o 0, lsO ms n, lsO out nn, dq4 w k0 (x.v 0), cellO (sv [d0,d1,d2] tw)]) oNl) : CS w os 560 (compC w 154 [1, 0, 0] it acc loc fr [(⟨Zad⟩, cw)]) [(it, itO ml i), (ml, lsO ms n), (acc, lsO xs nx), (loc, dq4 w k0 v0), (cw, cellO (sv [d0,d1,d2] tw))] 0 rNx (fun x => [x.o 0, lsO ms n, lsO out nn, dq4 w k0 (x.v 0), cellO (sv [d0,d1,d2] tw)]) oNl :=
  CB (orS isFor (orS (isCallTo [106]) (isB ["list_iterator.__next__","list.append","int.__le__"]))) 30000 [1,1,4,4,0,4,5,0] (fun b0 t0 => vi (next_s (it := it) (l := ml) (i := i) (xs := ms) (n := n) hv) [0,1] fun b1 t1 x1 => via (hE u tw (t1+2)) [] fun b2 t2 x2 => vj (leI (m := iN r) (n := 1) (u := (x2.a 0)) (v := (t2+1)) hr) [] fun _ => vx (hX (sv [c0,c1,c2] u) ) [0,1,2,3,4] fun x4 => finz [] (fun j => j) (x4.o) (x4.v)) (by kernel_rfl)
theorem fc_Ff (it ml acc loc fr cw : Addr) (ms xs : List Value) (n nx i : Nat) (c0 c1 c2 u d0 d1 d2 tw : Nat) (hx : xs.length ≤ 100) (hv : ms[i]? = some (sv [c0,c1,c2] u)) (r : Nat) (hE : LevC w os [c0,c1,c2] [d0,d1,d2] (iN r)) (hr : decide (iN r ≤ 1) = false) (out : List Value) (nn : Nat) (hX : ∀ (v0' : Value) (k0' : Nat), CS w os 560 (compC w 154 [1, 0, 0] it acc loc fr [(⟨Zad⟩, cw)]) [(it, itO ml (i+1)), (ml, lsO ms n), (acc, lsO xs nx), (loc, dq4 w k0' v0'), (cw, cellO (sv [d0,d1,d2] tw))] 0 rNx (fun x => [x.o 0, lsO ms n, lsO out nn, dq4 w k0' (x.v 0), cellO (sv [d0,d1,d2] tw)]) oNl) : CS w os 560 (compC w 154 [1, 0, 0] it acc loc fr [(⟨Zad⟩, cw)]) [(it, itO ml i), (ml, lsO ms n), (acc, lsO xs nx), (loc, dcE w []), (cw, cellO (sv [d0,d1,d2] tw))] 0 rNx (fun x => [x.o 0, lsO ms n, lsO out nn, dq4 w (x.a 0) (x.v 0), cellO (sv [d0,d1,d2] tw)]) oNl :=
  CB (orS isFor (orS (isCallTo [106]) (isB ["list_iterator.__next__","list.append","int.__le__"]))) 30000 [1,1,4,4,0,4,5,0] (fun b0 t0 => vi (next_s (it := it) (l := ml) (i := i) (xs := ms) (n := n) hv) [0,1] fun b1 t1 x1 => via (hE u tw (t1+2)) [] fun b2 t2 x2 => vj (leI (m := iN r) (n := 1) (u := (x2.a 0)) (v := (t2+1)) hr) [] fun _ => vx (hX (sv [c0,c1,c2] u) (t1+1)) [0,1,2,3,4] fun x4 => finz [] (nth [(t1+1)]) (x4.o) (x4.v)) (by kernel_rfl)
theorem fc_T (it ml acc loc fr cw : Addr) (ms xs : List Value) (n nx i : Nat) (c0 c1 c2 u d0 d1 d2 tw : Nat) (hx : xs.length ≤ 100) (k0 : Nat) (v0 : Value) (hv : ms[i]? = some (sv [c0,c1,c2] u)) (r : Nat) (hE : LevC w os [c0,c1,c2] [d0,d1,d2] (iN r)) (hr : decide (iN r ≤ 1) = true) (out : List Value) (nn : Nat) (hX : ∀ (v0' : Value), CS w os 560 (compC w 154 [1, 0, 0] it acc loc fr [(⟨Zad⟩, cw)]) [(it, itO ml (i+1)), (ml, lsO ms n), (acc, lsO (xs ++ [sv [c0,c1,c2] u]) (nx + 1)), (loc, dq4 w k0 v0'), (cw, cellO (sv [d0,d1,d2] tw))] 0 rNx (fun x => [x.o 0, lsO ms n, lsO out nn, dq4 w k0 (x.v 0), cellO (sv [d0,d1,d2] tw)]) oNl) : CS w os 560 (compC w 154 [1, 0, 0] it acc loc fr [(⟨Zad⟩, cw)]) [(it, itO ml i), (ml, lsO ms n), (acc, lsO xs nx), (loc, dq4 w k0 v0), (cw, cellO (sv [d0,d1,d2] tw))] 0 rNx (fun x => [x.o 0, lsO ms n, lsO out nn, dq4 w k0 (x.v 0), cellO (sv [d0,d1,d2] tw)]) oNl :=
  CB (orS isFor (orS (isCallTo [106]) (isB ["list_iterator.__next__","list.append","int.__le__"]))) 30000 [1,1,4,4,0,4,5,0,4,3] (fun b0 t0 => vi (next_s (it := it) (l := ml) (i := i) (xs := ms) (n := n) hv) [0,1] fun b1 t1 x1 => via (hE u tw (t1+2)) [] fun b2 t2 x2 => vj (leI (m := iN r) (n := 1) (u := (x2.a 0)) (v := (t2+1)) hr) [] fun _ => vj (append_s (l := acc) (xs := xs) (n := nx) (v := sv [c0,c1,c2] u) hx) [2] fun _ => vx (hX (sv [c0,c1,c2] u) ) [0,1,2,3,4] fun x5 => finz [] (fun j => j) (x5.o) (x5.v)) (by kernel_rfl)
theorem fc_Tf (it ml acc loc fr cw : Addr) (ms xs : List Value) (n nx i : Nat) (c0 c1 c2 u d0 d1 d2 tw : Nat) (hx : xs.length ≤ 100) (hv : ms[i]? = some (sv [c0,c1,c2] u)) (r : Nat) (hE : LevC w os [c0,c1,c2] [d0,d1,d2] (iN r)) (hr : decide (iN r ≤ 1) = true) (out : List Value) (nn : Nat) (hX : ∀ (v0' : Value) (k0' : Nat), CS w os 560 (compC w 154 [1, 0, 0] it acc loc fr [(⟨Zad⟩, cw)]) [(it, itO ml (i+1)), (ml, lsO ms n), (acc, lsO (xs ++ [sv [c0,c1,c2] u]) (nx + 1)), (loc, dq4 w k0' v0'), (cw, cellO (sv [d0,d1,d2] tw))] 0 rNx (fun x => [x.o 0, lsO ms n, lsO out nn, dq4 w k0' (x.v 0), cellO (sv [d0,d1,d2] tw)]) oNl) : CS w os 560 (compC w 154 [1, 0, 0] it acc loc fr [(⟨Zad⟩, cw)]) [(it, itO ml i), (ml, lsO ms n), (acc, lsO xs nx), (loc, dcE w []), (cw, cellO (sv [d0,d1,d2] tw))] 0 rNx (fun x => [x.o 0, lsO ms n, lsO out nn, dq4 w (x.a 0) (x.v 0), cellO (sv [d0,d1,d2] tw)]) oNl :=
  CB (orS isFor (orS (isCallTo [106]) (isB ["list_iterator.__next__","list.append","int.__le__"]))) 30000 [1,1,4,4,0,4,5,0,4,3] (fun b0 t0 => vi (next_s (it := it) (l := ml) (i := i) (xs := ms) (n := n) hv) [0,1] fun b1 t1 x1 => via (hE u tw (t1+2)) [] fun b2 t2 x2 => vj (leI (m := iN r) (n := 1) (u := (x2.a 0)) (v := (t2+1)) hr) [] fun _ => vj (append_s (l := acc) (xs := xs) (n := nx) (v := sv [c0,c1,c2] u) hx) [2] fun _ => vx (hX (sv [c0,c1,c2] u) (t1+1)) [0,1,2,3,4] fun x5 => finz [] (nth [(t1+1)]) (x5.o) (x5.v)) (by kernel_rfl)
theorem fc_end (it ml acc loc fr cw : Addr) (ms xs : List Value) (n nx i : Nat) (vw : Value) (k0 : Nat) (v0 : Value) (hv : ms[i]? = none) : CS w os 560 (compC w 154 [1, 0, 0] it acc loc fr [(⟨Zad⟩, cw)]) [(it, itO ml i), (ml, lsO ms n), (acc, lsO xs nx), (loc, dq4 w k0 v0), (cw, cellO vw)] 0 rNx (fun x => [x.o 0, lsO ms n, lsO xs nx, dq4 w k0 (x.v 0), cellO vw]) oNl :=
  CB (isB ["list_iterator.__next__"]) 30000 [1,1,7] (fun b0 t0 => vj (nextE_s (it := it) (l := ml) (i := i) (xs := ms) (n := n) hv) [0,1] fun _ => finz [] (fun j => j) (fun _ => itE i) (fun _ => v0)) (by kernel_rfl)
theorem fc_endf (it ml acc loc fr cw : Addr) (ms xs : List Value) (n nx i : Nat) (vw : Value) (hv : ms[i]? = none) : CS w os 560 (compC w 154 [1, 0, 0] it acc loc fr [(⟨Zad⟩, cw)]) [(it, itO ml i), (ml, lsO ms n), (acc, lsO xs nx), (loc, dcE w []), (cw, cellO vw)] 0 rNx (fun x => [x.o 0, lsO ms n, lsO xs nx, dcE w [], cellO vw]) oNl :=
  CB (isB ["list_iterator.__next__"]) 30000 [1,1,7] (fun b0 t0 => vj (nextE_s (it := it) (l := ml) (i := i) (xs := ms) (n := n) hv) [0,1] fun _ => finz [] (fun j => j) (fun _ => itE i) (fun _ => (.none))) (by kernel_rfl)
theorem ft_A (wl ml fr it fl cw : Addr) (ws ms xs : List Value) (nw n nx i : Nat) (d0 d1 d2 tw k0 k1 k2 : Nat) (co : Option Value)  (hv : ws[i]? = some (sv [d0,d1,d2] tw)) (hx : xs.length ≤ 100) (hI : CS w os 900 (.builtin "list.__contains__" ⟨[.ref ml, sv [d0,d1,d2] tw], []⟩) [(ml, lsO ms n)] 0 (fun _ => rOk (.bool false)) (fun _ => [lsO ms n]) oNl) (nt : Nat) (hC : ∀ (it acc loc : Nat), CS w os 560 (compC w 154 [1, 0, 0] it acc loc fr [(⟨Zad⟩, cw)]) [(it, itO ml 0), (ml, lsO ms n), (acc, lsO [] 0), (loc, dcE w []), (cw, cellO (sv [d0,d1,d2] tw))] 0 rNx (fun x => [x.o 0, lsO ms n, lsO [] nt, dq4 w (x.a 0) (x.v 0), cellO (sv [d0,d1,d2] tw)]) oNl) (out : List Value) (nn : Nat) (hN : CS w os 440 (forCC w 154 [1] it fr [(⟨Zad⟩, cw)]) [(wl, lsO ws nw), (ml, lsO ms n), (fr, fq3 w k0 (.ref wl) k1 (.ref ml) k2 (.ref fl)), (cw, (⟨.type "cell", none, .cell (some (sv [d0,d1,d2] tw)), #[]⟩ : Obj)), (fl, lsO (xs ++ [sv [d0,d1,d2] tw]) (nx + 1)), (it, itO wl (i+1))] 0 rNx (fun x => [lsO ws nw, lsO ms n, fq3 w k0 (.ref wl) k1 (.ref ml) k2 (.ref fl), (⟨.type "cell", none, .cell (some (x.v 0)), #[]⟩ : Obj), lsO out nn, x.o 0]) oNl) : CS w os 440 (forCC w 154 [1] it fr [(⟨Zad⟩, cw)]) [(wl, lsO ws nw), (ml, lsO ms n), (fr, fq3 w k0 (.ref wl) k1 (.ref ml) k2 (.ref fl)), (cw, (⟨.type "cell", none, .cell co, #[]⟩ : Obj)), (fl, lsO xs nx), (it, itO wl i)] 0 rNx (fun x => [lsO ws nw, lsO ms n, fq3 w k0 (.ref wl) k1 (.ref ml) k2 (.ref fl), (⟨.type "cell", none, .cell (some (x.v 0)), #[]⟩ : Obj), lsO out nn, x.o 0]) oNl :=
  far_le (by decide) (TB2 (orS isFor (isB ["list_iterator.__next__","list.append","list.__contains__","list.__eq__"])) 30000 [6,6,4,4,4,3,2,2,2,3,2,2,2,7,9,9,9,8,10,8,8,3,5,5,5,5,4,5] [6,6,4,4,4,3,2,2,2,3,2,2,2,7,7,7,7,7,9,9,9,8,10,8,8,3,5,5,5,5,4,5] (fun b0 t0 => vj (next_s (it := it) (l := wl) (i := i) (xs := ws) (n := nw) hv) [5,0] fun _ => via (hI) [1] fun b2 t2 x2 => via (hC (b2+0) (b2+1) (b2+2)) [6,1,7,8,3] fun b3 t3 x3 => vj (eqL (l := (b2+1)) (b := (b3+0)) (xs := []) (ys := []) (n := nt) (m := 0) (by simp) rfl rfl) [7,9] fun _ => vj (append_s (l := fl) (xs := xs) (n := nx) (v := sv [d0,d1,d2] tw) hx) [4] fun _ => vx (hN) [0,1,2,3,4,5] fun x6 => finz [] (fun j => j) (x6.o) (x6.v)) (by kernel_rfl) (by kernel_rfl))
theorem ft_E (wl ml fr it fl cw : Addr) (ws ms xs : List Value) (nw n nx i : Nat) (d0 d1 d2 tw k0 k1 k2 : Nat) (co : Option Value)  (hv : ws[i]? = some (sv [d0,d1,d2] tw)) (hx : xs.length ≤ 100) (hI : CS w os 900 (.builtin "list.__contains__" ⟨[.ref ml, sv [d0,d1,d2] tw], []⟩) [(ml, lsO ms n)] 0 (fun _ => rOk (.bool false)) (fun _ => [lsO ms n]) oNl) (nt : Nat) (hC : ∀ (it acc loc : Nat), CS w os 560 (compC w 154 [1, 0, 0] it acc loc fr [(⟨Zad⟩, cw)]) [(it, itO ml 0), (ml, lsO ms n), (acc, lsO [] 0), (loc, dcE w []), (cw, cellO (sv [d0,d1,d2] tw))] 0 rNx (fun x => [x.o 0, lsO ms n, lsO [] nt, dcE w [], cellO (sv [d0,d1,d2] tw)]) oNl) (out : List Value) (nn : Nat) (hN : CS w os 440 (forCC w 154 [1] it fr [(⟨Zad⟩, cw)]) [(wl, lsO ws nw), (ml, lsO ms n), (fr, fq3 w k0 (.ref wl) k1 (.ref ml) k2 (.ref fl)), (cw, (⟨.type "cell", none, .cell (some (sv [d0,d1,d2] tw)), #[]⟩ : Obj)), (fl, lsO (xs ++ [sv [d0,d1,d2] tw]) (nx + 1)), (it, itO wl (i+1))] 0 rNx (fun x => [lsO ws nw, lsO ms n, fq3 w k0 (.ref wl) k1 (.ref ml) k2 (.ref fl), (⟨.type "cell", none, .cell (some (x.v 0)), #[]⟩ : Obj), lsO out nn, x.o 0]) oNl) : CS w os 440 (forCC w 154 [1] it fr [(⟨Zad⟩, cw)]) [(wl, lsO ws nw), (ml, lsO ms n), (fr, fq3 w k0 (.ref wl) k1 (.ref ml) k2 (.ref fl)), (cw, (⟨.type "cell", none, .cell co, #[]⟩ : Obj)), (fl, lsO xs nx), (it, itO wl i)] 0 rNx (fun x => [lsO ws nw, lsO ms n, fq3 w k0 (.ref wl) k1 (.ref ml) k2 (.ref fl), (⟨.type "cell", none, .cell (some (x.v 0)), #[]⟩ : Obj), lsO out nn, x.o 0]) oNl :=
  far_le (by decide) (TB2 (orS isFor (isB ["list_iterator.__next__","list.append","list.__contains__","list.__eq__"])) 30000 [6,6,4,4,4,3,2,2,2,3,2,2,2,7,9,8,10,8,8,3,5,5,5,5,4,5] [6,6,4,4,4,3,2,2,2,3,2,2,2,7,7,7,7,7,9,8,10,8,8,3,5,5,5,5,4,5] (fun b0 t0 => vj (next_s (it := it) (l := wl) (i := i) (xs := ws) (n := nw) hv) [5,0] fun _ => via (hI) [1] fun b2 t2 x2 => via (hC (b2+0) (b2+1) (b2+2)) [6,1,7,8,3] fun b3 t3 x3 => vj (eqL (l := (b2+1)) (b := (b3+0)) (xs := []) (ys := []) (n := nt) (m := 0) (by simp) rfl rfl) [7,9] fun _ => vj (append_s (l := fl) (xs := xs) (n := nx) (v := sv [d0,d1,d2] tw) hx) [4] fun _ => vx (hN) [0,1,2,3,4,5] fun x6 => finz [] (fun j => j) (x6.o) (x6.v)) (by kernel_rfl) (by kernel_rfl))
theorem ft_I (wl ml fr it fl cw : Addr) (ws ms xs : List Value) (nw n nx i : Nat) (d0 d1 d2 tw k0 k1 k2 : Nat) (co : Option Value)  (hv : ws[i]? = some (sv [d0,d1,d2] tw)) (hx : xs.length ≤ 100) (hI : CS w os 900 (.builtin "list.__contains__" ⟨[.ref ml, sv [d0,d1,d2] tw], []⟩) [(ml, lsO ms n)] 0 (fun _ => rOk (.bool true)) (fun _ => [lsO ms n]) oNl) (out : List Value) (nn : Nat) (hN : CS w os 440 (forCC w 154 [1] it fr [(⟨Zad⟩, cw)]) [(wl, lsO ws nw), (ml, lsO ms n), (fr, fq3 w k0 (.ref wl) k1 (.ref ml) k2 (.ref fl)), (cw, (⟨.type "cell", none, .cell (some (sv [d0,d1,d2] tw)), #[]⟩ : Obj)), (fl, lsO xs nx), (it, itO wl (i+1))] 0 rNx (fun x => [lsO ws nw, lsO ms n, fq3 w k0 (.ref wl) k1 (.ref ml) k2 (.ref fl), (⟨.type "cell", none, .cell (some (x.v 0)), #[]⟩ : Obj), lsO out nn, x.o 0]) oNl) : CS w os 440 (forCC w 154 [1] it fr [(⟨Zad⟩, cw)]) [(wl, lsO ws nw), (ml, lsO ms n), (fr, fq3 w k0 (.ref wl) k1 (.ref ml) k2 (.ref fl)), (cw, (⟨.type "cell", none, .cell co, #[]⟩ : Obj)), (fl, lsO xs nx), (it, itO wl i)] 0 rNx (fun x => [lsO ws nw, lsO ms n, fq3 w k0 (.ref wl) k1 (.ref ml) k2 (.ref fl), (⟨.type "cell", none, .cell (some (x.v 0)), #[]⟩ : Obj), lsO out nn, x.o 0]) oNl :=
  CB2 (orS isFor (isB ["list_iterator.__next__","list.append","list.__contains__"])) 30000 [6,6,4,4,4,3,2,2,2] [6,6,4,4,4,3,2,2,2] (fun b0 t0 => vj (next_s (it := it) (l := wl) (i := i) (xs := ws) (n := nw) hv) [5,0] fun _ => vx (hI) [1] fun _ => vx (hN) [0,1,2,3,4,5] fun x3 => finz [] (fun j => j) (x3.o) (x3.v)) (by kernel_rfl) (by kernel_rfl)
theorem ft_S (wl ml fr it fl cw : Addr) (ws ms xs : List Value) (nw n nx i : Nat) (d0 d1 d2 tw k0 k1 k2 : Nat) (co : Option Value)  (hv : ws[i]? = some (sv [d0,d1,d2] tw)) (hx : xs.length ≤ 100) (hI : CS w os 900 (.builtin "list.__contains__" ⟨[.ref ml, sv [d0,d1,d2] tw], []⟩) [(ml, lsO ms n)] 0 (fun _ => rOk (.bool false)) (fun _ => [lsO ms n]) oNl) (y : Value) (ys : List Value) (nt : Nat) (hC : ∀ (it acc loc : Nat), CS w os 560 (compC w 154 [1, 0, 0] it acc loc fr [(⟨Zad⟩, cw)]) [(it, itO ml 0), (ml, lsO ms n), (acc, lsO [] 0), (loc, dcE w []), (cw, cellO (sv [d0,d1,d2] tw))] 0 rNx (fun x => [x.o 0, lsO ms n, lsO (y :: ys) nt, dq4 w (x.a 0) (x.v 0), cellO (sv [d0,d1,d2] tw)]) oNl) (out : List Value) (nn : Nat) (hN : CS w os 440 (forCC w 154 [1] it fr [(⟨Zad⟩, cw)]) [(wl, lsO ws nw), (ml, lsO ms n), (fr, fq3 w k0 (.ref wl) k1 (.ref ml) k2 (.ref fl)), (cw, (⟨.type "cell", none, .cell (some (sv [d0,d1,d2] tw)), #[]⟩ : Obj)), (fl, lsO xs nx), (it, itO wl (i+1))] 0 rNx (fun x => [lsO ws nw, lsO ms n, fq3 w k0 (.ref wl) k1 (.ref ml) k2 (.ref fl), (⟨.type "cell", none, .cell (some (x.v 0)), #[]⟩ : Obj), lsO out nn, x.o 0]) oNl) : CS w os 440 (forCC w 154 [1] it fr [(⟨Zad⟩, cw)]) [(wl, lsO ws nw), (ml, lsO ms n), (fr, fq3 w k0 (.ref wl) k1 (.ref ml) k2 (.ref fl)), (cw, (⟨.type "cell", none, .cell co, #[]⟩ : Obj)), (fl, lsO xs nx), (it, itO wl i)] 0 rNx (fun x => [lsO ws nw, lsO ms n, fq3 w k0 (.ref wl) k1 (.ref ml) k2 (.ref fl), (⟨.type "cell", none, .cell (some (x.v 0)), #[]⟩ : Obj), lsO out nn, x.o 0]) oNl :=
  far_le (by decide) (TB2 (orS isFor (isB ["list_iterator.__next__","list.append","list.__contains__","list.__eq__"])) 30000 [6,6,4,4,4,3,2,2,2,3,2,2,2,7,9,9,9,8,10,8,8] [6,6,4,4,4,3,2,2,2,3,2,2,2,7,7,7,7,7,9,9,9,8,10,8,8] (fun b0 t0 => vj (next_s (it := it) (l := wl) (i := i) (xs := ws) (n := nw) hv) [5,0] fun _ => via (hI) [1] fun b2 t2 x2 => via (hC (b2+0) (b2+1) (b2+2)) [6,1,7,8,3] fun b3 t3 x3 => vj (neL (l := (b2+1)) (b := (b3+0)) (xs := y :: ys) (ys := []) (n := nt) (m := 0) (by simp)) [7,9] fun _ => vx (hN) [0,1,2,3,4,5] fun x5 => finz [] (fun j => j) (x5.o) (x5.v)) (by kernel_rfl) (by kernel_rfl))
theorem ft_end (wl ml fr it fl cw : Addr) (ws ms xs : List Value) (nw n nx i : Nat) (k0 k1 k2 : Nat) (vc : Value) (hv : ws[i]? = none) : CS w os 440 (forCC w 154 [1] it fr [(⟨Zad⟩, cw)]) [(wl, lsO ws nw), (ml, lsO ms n), (fr, fq3 w k0 (.ref wl) k1 (.ref ml) k2 (.ref fl)), (cw, (⟨.type "cell", none, .cell (some vc), #[]⟩ : Obj)), (fl, lsO xs nx), (it, itO wl i)] 0 rNx (fun x => [lsO ws nw, lsO ms n, fq3 w k0 (.ref wl) k1 (.ref ml) k2 (.ref fl), (⟨.type "cell", none, .cell (some (x.v 0)), #[]⟩ : Obj), lsO xs nx, x.o 0]) oNl :=
  CB (isB ["list_iterator.__next__"]) 30000 [6,6,8] (fun b0 t0 => vj (nextE_s (it := it) (l := wl) (i := i) (xs := ws) (n := nw) hv) [5,0] fun _ => finz [] (fun j => j) (fun _ => itE i) (fun _ => vc)) (by kernel_rfl)
theorem gO_b (mi md pb st sd rf cd ct ca al tu cl fr bm fi : Addr) (ν : Nat → Nat) (n : Nat) (L : Int) (lt : Nat) (rd : Nat) (a0 : Value) (rest : List Value) (q : Nat) (s : Str) (ts na p tp : Nat) (sl : List Nat) (hsl : sl.length ≤ 900) (tk es k0 k1 k2 : Nat)  (c2 : Nat) (k3 : Nat) (vch : Value) (hc : s.cps[p]? = some 92) (h2 : 2 ≤ s.length) (hp : p + 1 < 1000000) (hc2 : s.cps[p + 1]? = some c2) (e10' : ([c2] == [10]) = false) (hw : ∀ t u, CS w os 990 (.builtin "str.__contains__" ⟨[.str ⟨#[10, 9, 13, 32]⟩ t, sv [92] u], []⟩) [] 0 (fun _ => rOk (.bool false)) oNl oNl) (P : Nat) (L2 : Int) (out : List Nat) (hX : ∀ (tp' lt' : Nat) (ch' : Value) (tk' : Nat), CS w os 520 (forC w 78 [3, 101, 2] fi fr) (gI w mi md pb st sd rf cd ct ca al tu cl ν n rd a0 rest q s ts na L lt' (p+1+1) tp' ++ gJ fr (fq5 w k0 (.ref mi) k1 (sv (sl ++ [c2]) tk') k2 (.ref fi) k3 ch') mi bm fi es) 0 (fun x => rOk (sv out (x.a 0))) (fun x => gO w mi md pb st sd rf cd ct ca al tu cl ν n rd a0 rest q s ts na L2 (x.a 2) P (x.a 1) ++ gP (x.o 0) mi bm es) oNl) : CS w os 480 (forC w 78 [3] fi fr) (gI w mi md pb st sd rf cd ct ca al tu cl ν n rd a0 rest q s ts na L lt p tp ++ gJ fr (fq5 w k0 (.ref mi) k1 (sv sl tk) k2 (.ref fi) k3 vch) mi bm fi es) 0 (fun x => rOk (sv out (x.a 0))) (fun x => gO w mi md pb st sd rf cd ct ca al tu cl ν n rd a0 rest q s ts na L2 (x.a 2) P (x.a 1) ++ gP (x.o 0) mi bm es) oNl :=
  CB (orS isFor (orS isCallM (isB ["str.__eq__","str.__contains__","str.__add__"]))) 30000 oq8 (fun b0 t0 => vx (rc_ch w os mi md pb st sd rf cd ct ca al tu cl ν [] n L lt rd a0 rest q s ts na p tp 92 hc h2 (by omega) (by rfl)) [0,1,2,3,4,5,6,7,8,9] fun x1 => vj (eqS (s := ⟨#[]⟩) (t := ⟨#[92]⟩) (u := (es)) (v := (x1.a 0)) (b := false) (by rfl)) [] fun _ => via (hw (ν 3) (x1.a 0)) [] fun b3 t3 x3 => vi (eqS (s := ⟨#[92]⟩) (t := ⟨#[34]⟩) (u := (x1.a 0)) (v := (t3+1)) (b := false) (by rfl)) [] fun b4 t4 x4 => vj (eqS (s := ⟨#[92]⟩) (t := ⟨#[92]⟩) (u := (x1.a 0)) (v := (t4+1)) (b := true) (by rfl)) [] fun _ => vx (rc_ch w os mi md pb st sd rf cd ct ca al tu cl ν [] n L lt rd a0 rest q s ts na (p+1) (x1.a 1) c2 hc2 h2 (by omega) e10') [0,1,2,3,4,5,6,7,8,9] fun x6 => vj (addS (s := sl) (r := [c2]) (t := (tk)) (u := (x6.a 0)) (by simp; omega)) [] fun x7 => vx (hX (x6.a 1) lt (sv [c2] (x6.a 0)) (x7.a 0) ) [0,1,2,3,4,5,6,7,8,9,10,11,12] fun x8 => finz [] (x8.a) (x8.o) (x8.v)) (by kernel_rfl)
theorem gO_bf (mi md pb st sd rf cd ct ca al tu cl fr bm fi : Addr) (ν : Nat → Nat) (n : Nat) (L : Int) (lt : Nat) (rd : Nat) (a0 : Value) (rest : List Value) (q : Nat) (s : Str) (ts na p tp : Nat) (sl : List Nat) (hsl : sl.length ≤ 900) (tk es k0 k1 k2 : Nat)  (c2 : Nat) (hc : s.cps[p]? = some 92) (h2 : 2 ≤ s.length) (hp : p + 1 < 1000000) (hc2 : s.cps[p + 1]? = some c2) (e10' : ([c2] == [10]) = false) (hw : ∀ t u, CS w os 990 (.builtin "str.__contains__" ⟨[.str ⟨#[10, 9, 13, 32]⟩ t, sv [92] u], []⟩) [] 0 (fun _ => rOk (.bool false)) oNl oNl) (P : Nat) (L2 : Int) (out : List Nat) (hX : ∀ (tp' lt' : Nat) (ch' : Value) (tk' : Nat) (k3' : Nat), CS w os 520 (forC w 78 [3, 101, 2] fi fr) (gI w mi md pb st sd rf cd ct ca al tu cl ν n rd a0 rest q s ts na L lt' (p+1+1) tp' ++ gJ fr (fq5 w k0 (.ref mi) k1 (sv (sl ++ [c2]) tk') k2 (.ref fi) k3' ch') mi bm fi es) 0 (fun x => rOk (sv out (x.a 0))) (fun x => gO w mi md pb st sd rf cd ct ca al tu cl ν n rd a0 rest q s ts na L2 (x.a 2) P (x.a 1) ++ gP (x.o 0) mi bm es) oNl) : CS w os 480 (forC w 78 [3] fi fr) (gI w mi md pb st sd rf cd ct ca al tu cl ν n rd a0 rest q s ts na L lt p tp ++ gJ fr (fq6 w k0 (.ref mi) k1 (sv sl tk) k2 (.ref fi)) mi bm fi es) 0 (fun x => rOk (sv out (x.a 0))) (fun x => gO w mi md pb st sd rf cd ct ca al tu cl ν n rd a0 rest q s ts na L2 (x.a 2) P (x.a 1) ++ gP (x.o 0) mi bm es) oNl :=
  CB (orS isFor (orS isCallM (isB ["str.__eq__","str.__contains__","str.__add__"]))) 30000 oq8 (fun b0 t0 => vx (rc_ch w os mi md pb st sd rf cd ct ca al tu cl ν [] n L lt rd a0 rest q s ts na p tp 92 hc h2 (by omega) (by rfl)) [0,1,2,3,4,5,6,7,8,9] fun x1 => vi (eqS (s := ⟨#[]⟩) (t := ⟨#[92]⟩) (u := (es)) (v := (x1.a 0)) (b := false) (by rfl)) [] fun b2 t2 x2 => via (hw (ν 3) (x1.a 0)) [] fun b3 t3 x3 => vi (eqS (s := ⟨#[92]⟩) (t := ⟨#[34]⟩) (u := (x1.a 0)) (v := (t3+1)) (b := false) (by rfl)) [] fun b4 t4 x4 => vj (eqS (s := ⟨#[92]⟩) (t := ⟨#[92]⟩) (u := (x1.a 0)) (v := (t4+1)) (b := true) (by rfl)) [] fun _ => vx (rc_ch w os mi md pb st sd rf cd ct ca al tu cl ν [] n L lt rd a0 rest q s ts na (p+1) (x1.a 1) c2 hc2 h2 (by omega) e10') [0,1,2,3,4,5,6,7,8,9] fun x6 => vj (addS (s := sl) (r := [c2]) (t := (tk)) (u := (x6.a 0)) (by simp; omega)) [] fun x7 => vx (hX (x6.a 1) lt (sv [c2] (x6.a 0)) (x7.a 0) (t2+1)) [0,1,2,3,4,5,6,7,8,9,10,11,12] fun x8 => finz [] (x8.a) (x8.o) (x8.v)) (by kernel_rfl)
theorem gO_n (mi md pb st sd rf cd ct ca al tu cl fr bm fi : Addr) (ν : Nat → Nat) (n : Nat) (L : Int) (lt : Nat) (rd : Nat) (a0 : Value) (rest : List Value) (q : Nat) (s : Str) (ts na p tp : Nat) (sl : List Nat) (hsl : sl.length ≤ 900) (tk es k0 k1 k2 : Nat)  (c : Nat) (k3 : Nat) (vch : Value) (hc : s.cps[p]? = some (c + 1)) (h2 : 2 ≤ s.length) (hp : p + 1 < 1000000) (e10 : ([c + 1] == [10]) = false) (e34 : ([c + 1] == [34]) = false) (e92 : ([c + 1] == [92]) = false) (hw : ∀ t u, CS w os 990 (.builtin "str.__contains__" ⟨[.str ⟨#[10, 9, 13, 32]⟩ t, sv [(c + 1)] u], []⟩) [] 0 (fun _ => rOk (.bool false)) oNl oNl) (P : Nat) (L2 : Int) (out : List Nat) (hX : ∀ (tp' lt' : Nat) (ch' : Value) (tk' : Nat), CS w os 520 (forC w 78 [3, 101, 2] fi fr) (gI w mi md pb st sd rf cd ct ca al tu cl ν n rd a0 rest q s ts na L lt' (p+1) tp' ++ gJ fr (fq5 w k0 (.ref mi) k1 (sv (sl ++ [(c + 1)]) tk') k2 (.ref fi) k3 ch') mi bm fi es) 0 (fun x => rOk (sv out (x.a 0))) (fun x => gO w mi md pb st sd rf cd ct ca al tu cl ν n rd a0 rest q s ts na L2 (x.a 2) P (x.a 1) ++ gP (x.o 0) mi bm es) oNl) : CS w os 480 (forC w 78 [3] fi fr) (gI w mi md pb st sd rf cd ct ca al tu cl ν n rd a0 rest q s ts na L lt p tp ++ gJ fr (fq5 w k0 (.ref mi) k1 (sv sl tk) k2 (.ref fi) k3 vch) mi bm fi es) 0 (fun x => rOk (sv out (x.a 0))) (fun x => gO w mi md pb st sd rf cd ct ca al tu cl ν n rd a0 rest q s ts na L2 (x.a 2) P (x.a 1) ++ gP (x.o 0) mi bm es) oNl :=
  CB (orS isFor (orS isCallM (isB ["str.__eq__","str.__contains__","str.__add__"]))) 30000 oq9 (fun b0 t0 => vx (rc_ch w os mi md pb st sd rf cd ct ca al tu cl ν [] n L lt rd a0 rest q s ts na p tp (c + 1) hc h2 (by omega) e10) [0,1,2,3,4,5,6,7,8,9] fun x1 => vj (eqS (s := ⟨#[]⟩) (t := ⟨#[(Nat.succ (c))]⟩) (u := (es)) (v := (x1.a 0)) (b := false) (by rfl)) [] fun _ => via (hw (ν 3) (x1.a 0)) [] fun b3 t3 x3 => vi (eqS (s := ⟨#[c + 1]⟩) (t := ⟨#[34]⟩) (u := (x1.a 0)) (v := (t3+1)) e34) [] fun b4 t4 x4 => vj (eqS (s := ⟨#[c + 1]⟩) (t := ⟨#[92]⟩) (u := (x1.a 0)) (v := (t4+1)) e92) [] fun _ => vj (addS (s := sl) (r := [(c + 1)]) (t := (tk)) (u := (x1.a 0)) (by simp; omega)) [] fun x6 => vx (hX (x1.a 1) lt (sv [(c + 1)] (x1.a 0)) (x6.a 0) ) [0,1,2,3,4,5,6,7,8,9,10,11,12] fun x7 => finz [] (x7.a) (x7.o) (x7.v)) (by kernel_rfl)
theorem gO_nf (mi md pb st sd rf cd ct ca al tu cl fr bm fi : Addr) (ν : Nat → Nat) (n : Nat) (L : Int) (lt : Nat) (rd : Nat) (a0 : Value) (rest : List Value) (q : Nat) (s : Str) (ts na p tp : Nat) (sl : List Nat) (hsl : sl.length ≤ 900) (tk es k0 k1 k2 : Nat)  (c : Nat) (hc : s.cps[p]? = some (c + 1)) (h2 : 2 ≤ s.length) (hp : p + 1 < 1000000) (e10 : ([c + 1] == [10]) = false) (e34 : ([c + 1] == [34]) = false) (e92 : ([c + 1] == [92]) = false) (hw : ∀ t u, CS w os 990 (.builtin "str.__contains__" ⟨[.str ⟨#[10, 9, 13, 32]⟩ t, sv [(c + 1)] u], []⟩) [] 0 (fun _ => rOk (.bool false)) oNl oNl) (P : Nat) (L2 : Int) (out : List Nat) (hX : ∀ (tp' lt' : Nat) (ch' : Value) (tk' : Nat) (k3' : Nat), CS w os 520 (forC w 78 [3, 101, 2] fi fr) (gI w mi md pb st sd rf cd ct ca al tu cl ν n rd a0 rest q s ts na L lt' (p+1) tp' ++ gJ fr (fq5 w k0 (.ref mi) k1 (sv (sl ++ [(c + 1)]) tk') k2 (.ref fi) k3' ch') mi bm fi es) 0 (fun x => rOk (sv out (x.a 0))) (fun x => gO w mi md pb st sd rf cd ct ca al tu cl ν n rd a0 rest q s ts na L2 (x.a 2) P (x.a 1) ++ gP (x.o 0) mi bm es) oNl) : CS w os 480 (forC w 78 [3] fi fr) (gI w mi md pb st sd rf cd ct ca al tu cl ν n rd a0 rest q s ts na L lt p tp ++ gJ fr (fq6 w k0 (.ref mi) k1 (sv sl tk) k2 (.ref fi)) mi bm fi es) 0 (fun x => rOk (sv out (x.a 0))) (fun x => gO w mi md pb st sd rf cd ct ca al tu cl ν n rd a0 rest q s ts na L2 (x.a 2) P (x.a 1) ++ gP (x.o 0) mi bm es) oNl :=
  CB (orS isFor (orS isCallM (isB ["str.__eq__","str.__contains__","str.__add__"]))) 30000 oq9 (fun b0 t0 => vx (rc_ch w os mi md pb st sd rf cd ct ca al tu cl ν [] n L lt rd a0 rest q s ts na p tp (c + 1) hc h2 (by omega) e10) [0,1,2,3,4,5,6,7,8,9] fun x1 => vi (eqS (s := ⟨#[]⟩) (t := ⟨#[(Nat.succ (c))]⟩) (u := (es)) (v := (x1.a 0)) (b := false) (by rfl)) [] fun b2 t2 x2 => via (hw (ν 3) (x1.a 0)) [] fun b3 t3 x3 => vi (eqS (s := ⟨#[c + 1]⟩) (t := ⟨#[34]⟩) (u := (x1.a 0)) (v := (t3+1)) e34) [] fun b4 t4 x4 => vj (eqS (s := ⟨#[c + 1]⟩) (t := ⟨#[92]⟩) (u := (x1.a 0)) (v := (t4+1)) e92) [] fun _ => vj (addS (s := sl) (r := [(c + 1)]) (t := (tk)) (u := (x1.a 0)) (by simp; omega)) [] fun x6 => vx (hX (x1.a 1) lt (sv [(c + 1)] (x1.a 0)) (x6.a 0) (t2+1)) [0,1,2,3,4,5,6,7,8,9,10,11,12] fun x7 => finz [] (x7.a) (x7.o) (x7.v)) (by kernel_rfl)
theorem gO_q (mi md pb st sd rf cd ct ca al tu cl fr bm fi : Addr) (ν : Nat → Nat) (n : Nat) (L : Int) (lt : Nat) (rd : Nat) (a0 : Value) (rest : List Value) (q : Nat) (s : Str) (ts na p tp : Nat) (sl : List Nat) (hsl : sl.length ≤ 900) (tk es k0 k1 k2 : Nat)  (k3 : Nat) (vch : Value) (hc : s.cps[p]? = some 34) (h2 : 2 ≤ s.length) (hp : p + 1 < 1000000) (hw : ∀ t u, CS w os 990 (.builtin "str.__contains__" ⟨[.str ⟨#[10, 9, 13, 32]⟩ t, sv [34] u], []⟩) [] 0 (fun _ => rOk (.bool false)) oNl oNl) (P : Nat) (L2 : Int) (out : List Nat) (hX : ∀ (tp' lt' : Nat) (ch' : Value), CS w os 520 (forC w 78 [3, 1, 0] fi fr) (gI w mi md pb st sd rf cd ct ca al tu cl ν n rd a0 rest q s ts na L lt' (p+1) tp' ++ gJ fr (fq5 w k0 (.ref mi) k1 (sv sl tk) k2 (.ref fi) k3 ch') mi bm fi es) 0 (fun x => rOk (sv out (x.a 0))) (fun x => gO w mi md pb st sd rf cd ct ca al tu cl ν n rd a0 rest q s ts na L2 (x.a 2) P (x.a 1) ++ gP (x.o 0) mi bm es) oNl) : CS w os 480 (forC w 78 [3] fi fr) (gI w mi md pb st sd rf cd ct ca al tu cl ν n rd a0 rest q s ts na L lt p tp ++ gJ fr (fq5 w k0 (.ref mi) k1 (sv sl tk) k2 (.ref fi) k3 vch) mi bm fi es) 0 (fun x => rOk (sv out (x.a 0))) (fun x => gO w mi md pb st sd rf cd ct ca al tu cl ν n rd a0 rest q s ts na L2 (x.a 2) P (x.a 1) ++ gP (x.o 0) mi bm es) oNl :=
  CB (orS isFor (orS isCallM (isB ["str.__eq__","str.__contains__","str.__add__"]))) 30000 oq10 (fun b0 t0 => vx (rc_ch w os mi md pb st sd rf cd ct ca al tu cl ν [] n L lt rd a0 rest q s ts na p tp 34 hc h2 (by omega) (by rfl)) [0,1,2,3,4,5,6,7,8,9] fun x1 => vj (eqS (s := ⟨#[]⟩) (t := ⟨#[34]⟩) (u := (es)) (v := (x1.a 0)) (b := false) (by rfl)) [] fun _ => via (hw (ν 3) (x1.a 0)) [] fun b3 t3 x3 => vj (eqS (s := ⟨#[34]⟩) (t := ⟨#[34]⟩) (u := (x1.a 0)) (v := (t3+1)) (b := true) (by rfl)) [] fun _ => vx (hX (x1.a 1) lt (sv [34] (x1.a 0))  ) [0,1,2,3,4,5,6,7,8,9,10,11,12] fun x5 => finz [] (x5.a) (x5.o) (x5.v)) (by kernel_rfl)
theorem gO_qf (mi md pb st sd rf cd ct ca al tu cl fr bm fi : Addr) (ν : Nat → Nat) (n : Nat) (L : Int) (lt : Nat) (rd : Nat) (a0 : Value) (rest : List Value) (q : Nat) (s : Str) (ts na p tp : Nat) (sl : List Nat) (hsl : sl.length ≤ 900) (tk es k0 k1 k2 : Nat)  (hc : s.cps[p]? = some 34) (h2 : 2 ≤ s.length) (hp : p + 1 < 1000000) (hw : ∀ t u, CS w os 990 (.builtin "str.__contains__" ⟨[.str ⟨#[10, 9, 13, 32]⟩ t, sv [34] u], []⟩) [] 0 (fun _ => rOk (.bool false)) oNl oNl) (P : Nat) (L2 : Int) (out : List Nat) (hX : ∀ (tp' lt' : Nat) (ch' : Value) (k3' : Nat), CS w os 520 (forC w 78 [3, 1, 0] fi fr) (gI w mi md pb st sd rf cd ct ca al tu cl ν n rd a0 rest q s ts na L lt' (p+1) tp' ++ gJ fr (fq5 w k0 (.ref mi) k1 (sv sl tk) k2 (.ref fi) k3' ch') mi bm fi es) 0 (fun x => rOk (sv out (x.a 0))) (fun x => gO w mi md pb st sd rf cd ct ca al tu cl ν n rd a0 rest q s ts na L2 (x.a 2) P (x.a 1) ++ gP (x.o 0) mi bm es) oNl) : CS w os 480 (forC w 78 [3] fi fr) (gI w mi md pb st sd rf cd ct ca al tu cl ν n rd a0 rest q s ts na L lt p tp ++ gJ fr (fq6 w k0 (.ref mi) k1 (sv sl tk) k2 (.ref fi)) mi bm fi es) 0 (fun x => rOk (sv out (x.a 0))) (fun x => gO w mi md pb st sd rf cd ct ca al tu cl ν n rd a0 rest q s ts na L2 (x.a 2) P (x.a 1) ++ gP (x.o 0) mi bm es) oNl :=
  CB (orS isFor (orS isCallM (isB ["str.__eq__","str.__contains__","str.__add__"]))) 30000 oq10 (fun b0 t0 => vx (rc_ch w os mi md pb st sd rf cd ct ca al tu cl ν [] n L lt rd a0 rest q s ts na p tp 34 hc h2 (by omega) (by rfl)) [0,1,2,3,4,5,6,7,8,9] fun x1 => vi (eqS (s := ⟨#[]⟩) (t := ⟨#[34]⟩) (u := (es)) (v := (x1.a 0)) (b := false) (by rfl)) [] fun b2 t2 x2 => via (hw (ν 3) (x1.a 0)) [] fun b3 t3 x3 => vj (eqS (s := ⟨#[34]⟩) (t := ⟨#[34]⟩) (u := (x1.a 0)) (v := (t3+1)) (b := true) (by rfl)) [] fun _ => vx (hX (x1.a 1) lt (sv [34] (x1.a 0))  (t2+1)) [0,1,2,3,4,5,6,7,8,9,10,11,12] fun x5 => finz [] (x5.a) (x5.o) (x5.v)) (by kernel_rfl)
theorem gO_wsf (mi md pb st sd rf cd ct ca al tu cl fr bm fi : Addr) (ν : Nat → Nat) (n : Nat) (L : Int) (lt : Nat) (rd : Nat) (a0 : Value) (rest : List Value) (q : Nat) (s : Str) (ts na p tp : Nat) (sl : List Nat) (hsl : sl.length ≤ 900) (tk es k0 k1 k2 : Nat)  (hc : s.cps[p]? = some 10) (h2 : 2 ≤ s.length) (hp : p + 1 < 1000000) (hw : ∀ t u, CS w os 990 (.builtin "str.__contains__" ⟨[.str ⟨#[10, 9, 13, 32]⟩ t, sv [10] u], []⟩) [] 0 (fun _ => rOk (.bool true)) oNl oNl) (P : Nat) (L2 : Int) (out : List Nat) (hX : ∀ (tp' lt' : Nat) (ch' : Value) (k3' : Nat), CS w os 480 (forC w 78 [3] fi fr) (gI w mi md pb st sd rf cd ct ca al tu cl ν n rd a0 rest q s ts na (L + 1) lt' (p+1) tp' ++ gJ fr (fq5 w k0 (.ref mi) k1 (sv sl tk) k2 (.ref fi) k3' ch') mi bm fi es) 0 (fun x => rOk (sv out (x.a 0))) (fun x => gO w mi md pb st sd rf cd ct ca al tu cl ν n rd a0 rest q s ts na L2 (x.a 2) P (x.a 1) ++ gP (x.o 0) mi bm es) oNl) : CS w os 480 (forC w 78 [3] fi fr) (gI w mi md pb st sd rf cd ct ca al tu cl ν n rd a0 rest q s ts na L lt p tp ++ gJ fr (fq6 w k0 (.ref mi) k1 (sv sl tk) k2 (.ref fi)) mi bm fi es) 0 (fun x => rOk (sv out (x.a 0))) (fun x => gO w mi md pb st sd rf cd ct ca al tu cl ν n rd a0 rest q s ts na L2 (x.a 2) P (x.a 1) ++ gP (x.o 0) mi bm es) oNl :=
  CB (orS isFor (orS isCallM (isB ["str.__eq__","str.__contains__","str.__add__"]))) 30000 [13,13,13,13,12,0,0,12,13,13,11,11,11,11,1,0,0,0,1,0,0,0,1,1,0,2] (fun b0 t0 => vx (rc_nl w os mi md pb st sd rf cd ct ca al tu cl ν [] n L lt rd a0 rest q s ts na p tp 10 hc h2 (by omega) (by rfl)) [0,1,2,3,4,5,6,7,8,9] fun x1 => vi (eqS (s := ⟨#[]⟩) (t := ⟨#[10]⟩) (u := (es)) (v := (x1.a 0)) (b := false) (by rfl)) [] fun b2 t2 x2 => vx (hw (ν 3) (x1.a 0)) [] fun _ => vx (hX (x1.a 1) (x1.a 2) (sv [10] (x1.a 0))  (t2+1)) [0,1,2,3,4,5,6,7,8,9,10,11,12] fun x4 => finz [] (x4.a) (x4.o) (x4.v)) (by kernel_rfl)
theorem gQ_e (mi md pb st sd rf cd ct ca al tu cl fr bm fi : Addr) (ν : Nat → Nat) (n : Nat) (L : Int) (lt : Nat) (rd : Nat) (a0 : Value) (rest : List Value) (q : Nat) (s : Str) (ts na p tp : Nat) (sl : List Nat) (hsl : sl.length ≤ 900) (tk es k0 k1 k2 : Nat)  (k3 : Nat) (vch : Value) (hc : s.cps[p]? = some 34) (h2 : 2 ≤ s.length) (hp : p + 1 < 1000000) : CS w os 520 (forC w 78 [3, 1, 0] fi fr) (gI w mi md pb st sd rf cd ct ca al tu cl ν n rd a0 rest q s ts na L lt p tp ++ gJ fr (fq5 w k0 (.ref mi) k1 (sv sl tk) k2 (.ref fi) k3 vch) mi bm fi es) 0 (fun x => rOk (sv sl (x.a 0))) (fun x => gO w mi md pb st sd rf cd ct ca al tu cl ν n rd a0 rest q s ts na L (x.a 2) (p+1) (x.a 1) ++ gP (x.o 0) mi bm es) oNl :=
  CB (orS isFor (orS isCallM (isB ["str.__eq__","str.__contains__","str.__add__"]))) 30000 [13,13,13,13,12,0,0,12,13,13,11,11,11,11] (fun b0 t0 => vx (rc_ch w os mi md pb st sd rf cd ct ca al tu cl ν [] n L lt rd a0 rest q s ts na p tp 34 hc h2 (by omega) (by rfl)) [0,1,2,3,4,5,6,7,8,9] fun x1 => vi (eqS (s := ⟨#[]⟩) (t := ⟨#[34]⟩) (u := (es)) (v := (x1.a 0)) (b := false) (by rfl)) [] fun b2 t2 x2 => vj (eqS (s := ⟨#[34]⟩) (t := ⟨#[34]⟩) (u := (x1.a 0)) (v := (t2+2)) (b := true) (by rfl)) [] fun _ => finz [] (nth [tk, (x1.a 1), lt]) (fun _ => fq5 w k0 (.ref mi) k1 (sv sl tk) k2 (.ref fi) k3 (sv [34] (x1.a 0))) (fun _ => .none)) (by kernel_rfl)
theorem gQ_n (mi md pb st sd rf cd ct ca al tu cl fr bm fi : Addr) (ν : Nat → Nat) (n : Nat) (L : Int) (lt : Nat) (rd : Nat) (a0 : Value) (rest : List Value) (q : Nat) (s : Str) (ts na p tp : Nat) (sl : List Nat) (hsl : sl.length ≤ 900) (tk es k0 k1 k2 : Nat)  (c : Nat) (k3 : Nat) (vch : Value) (hc : s.cps[p]? = some (c + 1)) (h2 : 2 ≤ s.length) (hp : p + 1 < 1000000) (e10 : ([c + 1] == [10]) = false) (e34 : ([c + 1] == [34]) = false) (e92 : ([c + 1] == [92]) = false) (P : Nat) (L2 : Int) (out : List Nat) (hX : ∀ (tp' lt' : Nat) (ch' : Value) (tk' : Nat), CS w os 520 (forC w 78 [3, 1, 0] fi fr) (gI w mi md pb st sd rf cd ct ca al tu cl ν n rd a0 rest q s ts na L lt' (p+1) tp' ++ gJ fr (fq5 w k0 (.ref mi) k1 (sv (sl ++ [(c + 1)]) tk') k2 (.ref fi) k3 ch') mi bm fi es) 0 (fun x => rOk (sv out (x.a 0))) (fun x => gO w mi md pb st sd rf cd ct ca al tu cl ν n rd a0 rest q s ts na L2 (x.a 2) P (x.a 1) ++ gP (x.o 0) mi bm es) oNl) : CS w os 520 (forC w 78 [3, 1, 0] fi fr) (gI w mi md pb st sd rf cd ct ca al tu cl ν n rd a0 rest q s ts na L lt p tp ++ gJ fr (fq5 w k0 (.ref mi) k1 (sv sl tk) k2 (.ref fi) k3 vch) mi bm fi es) 0 (fun x => rOk (sv out (x.a 0))) (fun x => gO w mi md pb st sd rf cd ct ca al tu cl ν n rd a0 rest q s ts na L2 (x.a 2) P (x.a 1) ++ gP (x.o 0) mi bm es) oNl :=
  CB (orS isFor (orS isCallM (isB ["str.__eq__","str.__contains__","str.__add__"]))) 30000 [13,13,13,13,12,0,0,12,13,13,11,11,11,11,11,11,11,11] (fun b0 t0 => vx (rc_ch w os mi md pb st sd rf cd ct ca al tu cl ν [] n L lt rd a0 rest q s ts na p tp (c + 1) hc h2 (by omega) e10) [0,1,2,3,4,5,6,7,8,9] fun x1 => vi (eqS (s := ⟨#[]⟩) (t := ⟨#[(Nat.succ (c))]⟩) (u := (es)) (v := (x1.a 0)) (b := false) (by rfl)) [] fun b2 t2 x2 => vi (eqS (s := ⟨#[c + 1]⟩) (t := ⟨#[34]⟩) (u := (x1.a 0)) (v := (t2+2)) e34) [] fun b3 t3 x3 => vj (eqS (s := ⟨#[c + 1]⟩) (t := ⟨#[92]⟩) (u := (x1.a 0)) (v := (t3+1)) e92) [] fun _ => vj (addS (s := sl) (r := [(c + 1)]) (t := (tk)) (u := (x1.a 0)) (by simp; omega)) [] fun x5 => vx (hX (x1.a 1) lt (sv [(c + 1)] (x1.a 0)) (x5.a 0) ) [0,1,2,3,4,5,6,7,8,9,10,11,12] fun x6 => finz [] (x6.a) (x6.o) (x6.v)) (by kernel_rfl)
theorem gU_b (mi md pb st sd rf cd ct ca al tu cl fr bm fi : Addr) (ν : Nat → Nat) (n : Nat) (L : Int) (lt : Nat) (rd : Nat) (a0 : Value) (rest : List Value) (q : Nat) (s : Str) (ts na p tp : Nat) (sl : List Nat) (hsl : sl.length ≤ 900) (tk es k0 k1 k2 : Nat)  (c2 : Nat) (k3 : Nat) (vch : Value) (hc : s.cps[p]? = some 92) (h2 : 2 ≤ s.length) (hp : p + 1 < 1000000) (hc2 : s.cps[p + 1]? = some c2) (e10' : ([c2] == [10]) = false) (hw : ∀ t u, CS w os 990 (.builtin "str.__contains__" ⟨[.str ⟨#[10, 9, 13, 32]⟩ t, sv [92] u], []⟩) [] 0 (fun _ => rOk (.bool false)) oNl oNl) (P : Nat) (L2 : Int) (out : List Nat) (hX : ∀ (tp' lt' : Nat) (ch' : Value) (tk' : Nat), CS w os 520 (forC w 78 [3, 101, 2] fi fr) (gI w mi md pb st sd rf cd ct ca al tu cl ν n rd a0 rest q s ts na L lt' (p+1+1) tp' ++ gJ fr (fq5 w k0 (.ref mi) k1 (sv (sl ++ [c2]) tk') k2 (.ref fi) k3 ch') mi bm fi es) 0 (fun x => rOk (sv out (x.a 0))) (fun x => gO w mi md pb st sd rf cd ct ca al tu cl ν n rd a0 rest q s ts na L2 (x.a 2) P (x.a 1) ++ gP (x.o 0) mi bm es) oNl) : CS w os 520 (forC w 78 [3, 101, 2] fi fr) (gI w mi md pb st sd rf cd ct ca al tu cl ν n rd a0 rest q s ts na L lt p tp ++ gJ fr (fq5 w k0 (.ref mi) k1 (sv sl tk) k2 (.ref fi) k3 vch) mi bm fi es) 0 (fun x => rOk (sv out (x.a 0))) (fun x => gO w mi md pb st sd rf cd ct ca al tu cl ν n rd a0 rest q s ts na L2 (x.a 2) P (x.a 1) ++ gP (x.o 0) mi bm es) oNl :=
  CB (orS isFor (orS isCallM (isB ["str.__eq__","str.__contains__","str.__add__"]))) 30000 [13,13,13,13,12,0,0,12,13,13,11,11,11,11,1,0,0,0,1,0,0,0,1,1,0,2,11,11,1,0,0,0,1,0,0,0,1,0,0,0,0,1,2,0,11,11,11,11,11,11] (fun b0 t0 => vx (rc_ch w os mi md pb st sd rf cd ct ca al tu cl ν [] n L lt rd a0 rest q s ts na p tp 92 hc h2 (by omega) (by rfl)) [0,1,2,3,4,5,6,7,8,9] fun x1 => vj (eqS (s := ⟨#[]⟩) (t := ⟨#[92]⟩) (u := (es)) (v := (x1.a 0)) (b := false) (by rfl)) [] fun _ => via (hw (ν 3) (x1.a 0)) [] fun b3 t3 x3 => vj (eqS (s := ⟨#[92]⟩) (t := ⟨#[92]⟩) (u := (x1.a 0)) (v := (t3+1)) (b := true) (by rfl)) [] fun _ => vx (rc_ch w os mi md pb st sd rf cd ct ca al tu cl ν [] n L lt rd a0 rest q s ts na (p+1) (x1.a 1) c2 hc2 h2 (by omega) e10') [0,1,2,3,4,5,6,7,8,9] fun x5 => vj (addS (s := sl) (r := [c2]) (t := (tk)) (u := (x5.a 0)) (by simp; omega)) [] fun x6 => vx (hX (x5.a 1) lt (sv [c2] (x5.a 0)) (x6.a 0) ) [0,1,2,3,4,5,6,7,8,9,10,11,12] fun x7 => finz [] (x7.a) (x7.o) (x7.v)) (by kernel_rfl)
theorem gU_e (mi md pb st sd rf cd ct ca al tu cl fr bm fi : Addr) (ν : Nat → Nat) (n : Nat) (L : Int) (lt : Nat) (rd : Nat) (a0 : Value) (rest : List Value) (q : Nat) (s : Str) (ts na p tp : Nat) (sl : List Nat) (hsl : sl.length ≤ 900) (tk es k0 k1 k2 : Nat)  (k3 : Nat) (vch : Value) (hc : s.cps[p]? = some 10) (h2 : 2 ≤ s.length) (hp : p + 1 < 1000000) (hw : ∀ t u, CS w os 990 (.builtin "str.__contains__" ⟨[.str ⟨#[10, 9, 13, 32]⟩ t, sv [10] u], []⟩) [] 0 (fun _ => rOk (.bool true)) oNl oNl) : CS w os 520 (forC w 78 [3, 101, 2] fi fr) (gI w mi md pb st sd rf cd ct ca al tu cl ν n rd a0 rest q s ts na L lt p tp ++ gJ fr (fq5 w k0 (.ref mi) k1 (sv sl tk) k2 (.ref fi) k3 vch) mi bm fi es) 0 (fun x => rOk (sv sl (x.a 0))) (fun x => gO w mi md pb st sd rf cd ct ca al tu cl ν n rd a0 rest q s ts na (L + 1) (x.a 2) (p+1) (x.a 1) ++ gP (x.o 0) mi bm es) oNl :=
  CB (orS isFor (orS isCallM (isB ["str.__eq__","str.__contains__","str.__add__"]))) 30000 [13,13,13,13,12,0,0,12,13,13,11,11,11,11,1,0,0,0,1,0,0,0,1,1,0,2,11] (fun b0 t0 => vx (rc_nl w os mi md pb st sd rf cd ct ca al tu cl ν [] n L lt rd a0 rest q s ts na p tp 10 hc h2 (by omega) (by rfl)) [0,1,2,3,4,5,6,7,8,9] fun x1 => vj (eqS (s := ⟨#[]⟩) (t := ⟨#[10]⟩) (u := (es)) (v := (x1.a 0)) (b := false) (by rfl)) [] fun _ => vx (hw (ν 3) (x1.a 0)) [] fun _ => finz [] (nth [tk, (x1.a 1), (x1.a 2)]) (fun _ => fq5 w k0 (.ref mi) k1 (sv sl tk) k2 (.ref fi) k3 (sv [10] (x1.a 0))) (fun _ => .none)) (by kernel_rfl)
theorem gU_n (mi md pb st sd rf cd ct ca al tu cl fr bm fi : Addr) (ν : Nat → Nat) (n : Nat) (L : Int) (lt : Nat) (rd : Nat) (a0 : Value) (rest : List Value) (q : Nat) (s : Str) (ts na p tp : Nat) (sl : List Nat) (hsl : sl.length ≤ 900) (tk es k0 k1 k2 : Nat)  (c : Nat) (k3 : Nat) (vch : Value) (hc : s.cps[p]? = some (c + 1)) (h2 : 2 ≤ s.length) (hp : p + 1 < 1000000) (e10 : ([c + 1] == [10]) = false) (e34 : ([c + 1] == [34]) = false) (e92 : ([c + 1] == [92]) = false) (hw : ∀ t u, CS w os 990 (.builtin "str.__contains__" ⟨[.str ⟨#[10, 9, 13, 32]⟩ t, sv [(c + 1)] u], []⟩) [] 0 (fun _ => rOk (.bool false)) oNl oNl) (P : Nat) (L2 : Int) (out : List Nat) (hX : ∀ (tp' lt' : Nat) (ch' : Value) (tk' : Nat), CS w os 520 (forC w 78 [3, 101, 2] fi fr) (gI w mi md pb st sd rf cd ct ca al tu cl ν n rd a0 rest q s ts na L lt' (p+1) tp' ++ gJ fr (fq5 w k0 (.ref mi) k1 (sv (sl ++ [(c + 1)]) tk') k2 (.ref fi) k3 ch') mi bm fi es) 0 (fun x => rOk (sv out (x.a 0))) (fun x => gO w mi md pb st sd rf cd ct ca al tu cl ν n rd a0 rest q s ts na L2 (x.a 2) P (x.a 1) ++ gP (x.o 0) mi bm es) oNl) : CS w os 520 (forC w 78 [3, 101, 2] fi fr) (gI w mi md pb st sd rf cd ct ca al tu cl ν n rd a0 rest q s ts na L lt p tp ++ gJ fr (fq5 w k0 (.ref mi) k1 (sv sl tk) k2 (.ref fi) k3 vch) mi bm fi es) 0 (fun x => rOk (sv out (x.a 0))) (fun x => gO w mi md pb st sd rf cd ct ca al tu cl ν n rd a0 rest q s ts na L2 (x.a 2) P (x.a 1) ++ gP (x.o 0) mi bm es) oNl :=
  CB (orS isFor (orS isCallM (isB ["str.__eq__","str.__contains__","str.__add__"]))) 30000 [13,13,13,13,12,0,0,12,13,13,11,11,11,11,1,0,0,0,1,0,0,0,1,1,0,2,11,11,11,11,11] (fun b0 t0 => vx (rc_ch w os mi md pb st sd rf cd ct ca al tu cl ν [] n L lt rd a0 rest q s ts na p tp (c + 1) hc h2 (by omega) e10) [0,1,2,3,4,5,6,7,8,9] fun x1 => vj (eqS (s := ⟨#[]⟩) (t := ⟨#[(Nat.succ (c))]⟩) (u := (es)) (v := (x1.a 0)) (b := false) (by rfl)) [] fun _ => via (hw (ν 3) (x1.a 0)) [] fun b3 t3 x3 => vj (eqS (s := ⟨#[c + 1]⟩) (t := ⟨#[92]⟩) (u := (x1.a 0)) (v := (t3+1)) e92) [] fun _ => vj (addS (s := sl) (r := [(c + 1)]) (t := (tk)) (u := (x1.a 0)) (by simp; omega)) [] fun x5 => vx (hX (x1.a 1) lt (sv [(c + 1)] (x1.a 0)) (x5.a 0) ) [0,1,2,3,4,5,6,7,8,9,10,11,12] fun x6 => finz [] (x6.a) (x6.o) (x6.v)) (by kernel_rfl)
theorem gt_b (mi md pb st sd rf cd ct ca al tu cl : Addr) (ν : Nat → Nat) (n : Nat) (L : Int) (lt : Nat) (rd : Nat) (a0 : Value) (rest : List Value) (q : Nat) (s : Str) (ts na p tp : Nat)  (P : Nat) (L2 : Int) (out : List Nat) (hT : ∀ (fr bm fi es tk k0 k1 k2 : Nat), CS w os 480 (forC w 78 [3] fi fr) (gI w mi md pb st sd rf cd ct ca al tu cl ν n rd a0 rest q s ts na L lt p tp ++ gJ fr (fq6 w k0 (.ref mi) k1 (sv [] tk) k2 (.ref fi)) mi bm fi es) 0 (fun x => rOk (sv out (x.a 0))) (fun x => gO w mi md pb st sd rf cd ct ca al tu cl ν n rd a0 rest q s ts na L2 (x.a 2) P (x.a 1) ++ gP (x.o 0) mi bm es) oNl) : CS w os 470 (.call (.ref 78) ⟨[.ref mi], []⟩) (gI w mi md pb st sd rf cd ct ca al tu cl ν n rd a0 rest q s ts na L lt p tp) 0 (fun x => rOk (sv out (x.a 0))) (fun x => gO w mi md pb st sd rf cd ct ca al tu cl ν n rd a0 rest q s ts na L2 (x.a 2) P (x.a 1)) oNl :=
  CB (isFor) 30000 [1,0,11,11,11,1,0,0,0,1,0,0,0,1,1,0,2,3,3,3,3,3,11,11,0,0,11,1,0,0,0,1,0,0,0,0,0,0,1,1,0,2,0,0,0,0,12,11,11,11,13,13,13,13] (fun b0 t0 => vx (hT (b0+0) (b0+1) (b0+2) (t0+8) (t0+5) (t0+1) (t0+6) (t0+9)) [0,1,2,3,4,5,6,7,8,9,10,11,12] fun x1 => fin [] [(x1.a 0), (x1.a 1), (x1.a 2)]) (by kernel_rfl)
theorem id_1f (A u v : Nat) (G : List Nat) (cd0 : Addr) (a0 : Value) (q : Nat) (rest : List Value) (hbl : Builtin.Int.intBits (iN (A + 1)) = 9) (hI : ∀ (f cd cn ca ci dl tu : Nat) (a0 : Value) (q : Nat) (rest : List Value) (tn m tx tl tr : Nat) (tk : Nat → Nat), CS w os 620 (.call (.ref f) ⟨[.int (iN (A + 1)) tx, .int (iN 0) tl, .int (iN 9) tr], []⟩) [(f, idO w [(⟨#[110]⟩, cn), (⟨Zab⟩, ci), (⟨Zac⟩, ca)] cd tu), (cd, cdG a0 idQ q rest), (cn, cellO (.int (iN 1) tn)), (ca, cellO (.ref dl)), (ci, cellO (.ref f)), (dl, lsO (DL [0, 0, 0, 0, 0, 0, 0, 0, 0] tk) m)] 0 (fun _ => rOk .none) (fun x => [idO w [(⟨#[110]⟩, cn), (⟨Zab⟩, ci), (⟨Zac⟩, ca)] cd tu, cdG a0 idQ q rest, cellO (.int (iN 1) tn), cellO (.ref dl), cellO (.ref f), lsO (DL G x.a) m]) oNl) : CS w os 440 (.call (.ref 43) ⟨[.int (iN (A + 1)) u, .int 1 v], []⟩) [(38, tableObj #[.int 59 0, .int 4 0, .ref cd0]), (cd0, cdG a0 idQ q rest)] 1 (fun x => rOk (.ref (x.a 0))) (fun x => [tableObj #[.int 59 0, .int 4 0, .ref cd0], cdG a0 idQ q rest]) (fun x => [lsO (DL G (fun j => x.a (j + 20))) 0]) :=
  CB (orS isCall3 (isB ["int.bit_length"])) 30000 [1,0,3,3,4,4,3,4,4,7,7,7,7,7,5,5,0,1,0,0,0,6,6,3,6,3,0,0,5,8,8,8,10,5] (fun b0 t0 => vi (blE (a := A + 1) (u := (u)) (c := 9) hbl) [] fun b1 t1 x1 => vx (hI (b1+2) cd0 (b0+1) (b0+2) (b0+3) (b1+0) (b1+1) (a0) q rest v 0 (u) (t1+5) (t1+7) (fun _ => (t0+2))) [9,1,3,4,5,7] fun x2 => finz [7] (fun j => x2.a (j - 19)) (fun _ => default) (fun _ => .none)) (by kernel_rfl)
theorem id_2e (A u v : Nat) (G : List Nat) (hbl : Builtin.Int.intBits (iN (A + 1)) = 25) (hI : ∀ (f cd cn ca ci dl tu : Nat) (a0 : Value) (q : Nat) (rest : List Value) (tn m tx tl tr : Nat) (tk : Nat → Nat), CS w os 620 (.call (.ref f) ⟨[.int (iN (A + 1)) tx, .int (iN 0) tl, .int (iN 13) tr], []⟩) [(f, idO w [(⟨#[110]⟩, cn), (⟨Zab⟩, ci), (⟨Zac⟩, ca)] cd tu), (cd, cdG a0 idQ q rest), (cn, cellO (.int (iN 2) tn)), (ca, cellO (.ref dl)), (ci, cellO (.ref f)), (dl, lsO (DL [0, 0, 0, 0, 0, 0, 0, 0, 0, 0, 0, 0, 0] tk) m)] 0 (fun _ => rOk .none) (fun x => [idO w [(⟨#[110]⟩, cn), (⟨Zab⟩, ci), (⟨Zac⟩, ca)] cd tu, cdG a0 idQ q rest, cellO (.int (iN 2) tn), cellO (.ref dl), cellO (.ref f), lsO (DL G x.a) m]) oNl) : CS w os 440 (.call (.ref 43) ⟨[.int (iN (A + 1)) u, .int 2 v], []⟩) [(38, tableObj #[])] 2 (fun x => rOk (.ref (x.a 0))) (fun x => [tableObj #[.int 59 0, .int 4 0, .ref (x.a 1)]]) (fun x => [lsO (DL G (fun j => x.a (j + 20))) 0, cdG (x.v 0) idQ (x.a 2) [x.v 1, x.v 2, x.v 3, x.v 4, x.v 5, x.v 6, x.v 7, x.v 8, x.v 9, x.v 10, x.v 11, x.v 12, x.v 13, x.v 14, x.v 15, x.v 16, x.v 17]]) :=
  CB (orS isCall3 (isB ["int.bit_length"])) 30000 [1,0,2,2,3,3,2,3,3,6,6,6,6,6,4,4,0,1,1,1,1,0,0,0,5,5,2,5,2,0,0,4,7,7,7,15,4] (fun b0 t0 => vi (blE (a := A + 1) (u := (u)) (c := 25) hbl) [] fun b1 t1 x1 => vx (hI (b1+8) (b1+7) (b0+1) (b0+2) (b0+3) (b1+0) (b1+1) ((PySem.Value.str (PySem.Str.mk Zab) (t1+5))) (t1+6) [(PySem.Value.str (PySem.Str.mk Zaf) (t1+7)), (PySem.Value.int (iN 59) 0), (PySem.Value.int (iN 3) 0), (PySem.Value.int (iN 0) 0), (PySem.Value.int (iN 0) 0), (PySem.Value.int (iN 19) 0), (PySem.Value.ref (b1+2)), (PySem.Value.bool true), (PySem.Value.int (iN 181) 0), (PySem.Value.ref (b1+3)), PySem.Value.none, (PySem.Value.ref (b1+4)), (PySem.Value.ref (b1+5)), (PySem.Value.ref (b1+6)), (PySem.Value.int (iN (t1+18)) 0), (PySem.Value.int (iN 59) 0), (PySem.Value.str (PySem.Str.mk Zaf) (t1+19))] v 0 (u) (t1+20) (t1+22) (fun _ => (t0+2))) [14,13,2,3,4,6] fun x2 => finz [6,13] (fun j => match j with | 0 => (t1+6) | j + 1 => x2.a (j - 17)) (fun _ => default) (fun j => match j with | 0 => (PySem.Value.str (PySem.Str.mk Zab) (t1+5)) | 1 => (PySem.Value.str (PySem.Str.mk Zaf) (t1+7)) | 2 => (PySem.Value.int (iN 59) 0) | 3 => (PySem.Value.int (iN 3) 0) | 4 => (PySem.Value.int (iN 0) 0) | 5 => (PySem.Value.int (iN 0) 0) | 6 => (PySem.Value.int (iN 19) 0) | 7 => (PySem.Value.ref (b1+2)) | 8 => (PySem.Value.bool true) | 9 => (PySem.Value.int (iN 181) 0) | 10 => (PySem.Value.ref (b1+3)) | 11 => PySem.Value.none | 12 => (PySem.Value.ref (b1+4)) | 13 => (PySem.Value.ref (b1+5)) | 14 => (PySem.Value.ref (b1+6)) | 15 => (PySem.Value.int (iN (t1+18)) 0) | 16 => (PySem.Value.int (iN 59) 0) | _ => (PySem.Value.str (PySem.Str.mk Zaf) (t1+19)))) (by kernel_rfl)
theorem ifs_e (s s1 ds : List Nat) (t0' : Nat) (N : Int) (hI : ∀ t, CS w os 440 (.call (.ref 29) ⟨[sv ds t], []⟩) [(24, tableObj #[])] 1 (fun x => rOk (.int N (x.a 1))) (fun x => [tableObj #[.int 46 0, .int 4 0, .ref (x.a 0)]]) (fun x => [cdG (x.v 0) siQ (x.a 2) [x.v 1, x.v 2, x.v 3, x.v 4, x.v 5, x.v 6, x.v 7, x.v 8, x.v 9, x.v 10, x.v 11, x.v 12, x.v 13, x.v 14, x.v 15, x.v 16, x.v 17]])) (hR : ∀ t, CS w os 900 (.builtin "str.rstrip" ⟨[sv s t], []⟩) [] 0 (fun x => rOk (sv s1 (x.a 0))) oNl oNl) (hP : ∀ t u v, u ≠ 0 → v ≠ 0 → u ≠ v → CS w os 900 (.builtin "str.replace" ⟨[sv s1 t, sv [95] u, sv [] v], []⟩) [] 0 (fun x => rOk (sv ds (x.a 0))) oNl oNl) : CS w os 430 (.call (.ref 36) ⟨[sv s t0'], []⟩) [(24, tableObj #[])] 1 (fun x => rOk (.int N (x.a 1))) (fun x => [tableObj #[.int 46 0, .int 4 0, .ref (x.a 0)]]) (fun x => [cdG (x.v 0) siQ (x.a 2) [x.v 1, x.v 2, x.v 3, x.v 4, x.v 5, x.v 6, x.v 7, x.v 8, x.v 9, x.v 10, x.v 11, x.v 12, x.v 13, x.v 14, x.v 15, x.v 16, x.v 17]]) :=
  CB (orS (isCallTo [29]) (isB ["str.rstrip","str.replace"])) 30000 [1,0,2,2,2,2,2,0,2,0] (fun b0 t0 => via (hR (t0')) [] fun b1 t1 x1 => vx (hP (x1.a 0) (t1+1) (t1+2) (by omega) (by omega) (by omega)) [] fun x2 => vx (hI (x2.a 0)) [0] fun x3 => finz [2] (fun j => x3.a (j + 1)) (fun _ => default) (x3.v)) (by kernel_rfl)
theorem ifs_f (s s1 ds : List Nat) (t0' : Nat) (N : Int) (cd : Addr) (a0 : Value) (q : Nat) (rest : List Value) (hI : ∀ t, CS w os 440 (.call (.ref 29) ⟨[sv ds t], []⟩) [(24, tableObj #[.int 46 0, .int 4 0, .ref cd]), (cd, cdG a0 siQ q rest)] 0 (fun x => rOk (.int N (x.a 0))) (fun x => [tableObj #[.int 46 0, .int 4 0, .ref cd], cdG a0 siQ q rest]) oNl) (hR : ∀ t, CS w os 900 (.builtin "str.rstrip" ⟨[sv s t], []⟩) [] 0 (fun x => rOk (sv s1 (x.a 0))) oNl oNl) (hP : ∀ t u v, u ≠ 0 → v ≠ 0 → u ≠ v → CS w os 900 (.builtin "str.replace" ⟨[sv s1 t, sv [95] u, sv [] v], []⟩) [] 0 (fun x => rOk (sv ds (x.a 0))) oNl oNl) : CS w os 430 (.call (.ref 36) ⟨[sv s t0'], []⟩) [(24, tableObj #[.int 46 0, .int 4 0, .ref cd]), (cd, cdG a0 siQ q rest)] 0 (fun x => rOk (.int N (x.a 0))) (fun x => [tableObj #[.int 46 0, .int 4 0, .ref cd], cdG a0 siQ q rest]) oNl :=
  CB (orS (isCallTo [29]) (isB ["str.rstrip","str.replace"])) 30000 [1,0,3,3,3,3,3,0,3,0] (fun b0 t0 => via (hR (t0')) [] fun b1 t1 x1 => vx (hP (x1.a 0) (t1+1) (t1+2) (by omega) (by omega) (by omega)) [] fun x2 => vx (hI (x2.a 0)) [0,1] fun x3 => finz [] (x3.a) (fun _ => default) (fun _ => .none)) (by kernel_rfl)
theorem in_leaf (f cd cn ca ci dl tu : Addr) (a0 : Value) (q : Nat) (rest : List Value) (nn tn m : Nat) (X tx l tl r tr : Nat) (g : List Nat) (tk : Nat → Nat) (he : (iN (l + 1) == iN r) = true) (hl : l < g.length) (hg : g.length ≤ 100) : CS w os 700 (.call (.ref f) ⟨[.int (iN X) tx, .int (iN l) tl, .int (iN r) tr], []⟩) [(f, idO w [(⟨#[110]⟩, cn), (⟨Zab⟩, ci), (⟨Zac⟩, ca)] cd tu), (cd, cdG a0 idQ q rest), (cn, cellO (.int (iN nn) tn)), (ca, cellO (.ref dl)), (ci, cellO (.ref f)), (dl, lsO (DL g tk) m)] 0 (fun _ => rOk .none) (fun x => [idO w [(⟨#[110]⟩, cn), (⟨Zab⟩, ci), (⟨Zac⟩, ca)] cd tu, cdG a0 idQ q rest, cellO (.int (iN nn) tn), cellO (.ref dl), cellO (.ref f), lsO (DL (g.set l X) x.a) m]) oNl :=
  CB (isB ["int.__eq__","list.__setitem__"]) 30000 [2,2,7,7,7,7,7,7,7,7,7,4,7,6,6,6] (fun b0 t0 => vj (eqI (m := iN (l + 1)) (n := iN r) (u := (t0+5)) (v := (tr)) he) [] fun _ => vj (setD (l := dl) (i := l) (u := (tl)) (v := X) (t := (tx)) (g := g) (tk := tk) (n := m) hl hg) [5] fun _ => finz [] (updT tk l tx) (fun _ => default) (fun _ => .none)) (by kernel_rfl)
theorem in_node1 (f cd cn ca ci dl tu : Addr) (a0 : Value) (q : Nat) (rest : List Value) (nn tn m : Nat) (X tx l tl r tr : Nat) (g : List Nat) (tk : Nat → Nat) (he : (iN (l + 1) == iN r) = false) (mid k sf up sh lo : Nat) (hm : (l + r) / 2 ^ 1 = mid) (hk : l + k = mid) (hs : k * nn = sf) (hnn : nn < 2 ^ 60) (hup : X / 2 ^ sf = up) (hsh : up * 2 ^ sf = sh) (hub : up < 2 ^ 60) (hsb : sf < 60) (hlo : Builtin.bitXor (iN X) (iN sh) = iN lo) (g1 g2 : List Nat) (hA : ∀ t1 t2 t3, CS w os 700 (.call (.ref f) ⟨[.int (iN lo) t1, .int (iN l) t2, .int (iN mid) t3], []⟩) [(f, idO w [(⟨#[110]⟩, cn), (⟨Zab⟩, ci), (⟨Zac⟩, ca)] cd tu), (cd, cdG a0 idQ q rest), (cn, cellO (.int (iN nn) tn)), (ca, cellO (.ref dl)), (ci, cellO (.ref f)), (dl, lsO (DL g tk) m)] 0 (fun _ => rOk .none) (fun x => [idO w [(⟨#[110]⟩, cn), (⟨Zab⟩, ci), (⟨Zac⟩, ca)] cd tu, cdG a0 idQ q rest, cellO (.int (iN nn) tn), cellO (.ref dl), cellO (.ref f), lsO (DL g1 x.a) m]) oNl) (hB : ∀ t1 t2 t3 tk', CS w os 700 (.call (.ref f) ⟨[.int (iN up) t1, .int (iN mid) t2, .int (iN r) t3], []⟩) [(f, idO w [(⟨#[110]⟩, cn), (⟨Zab⟩, ci), (⟨Zac⟩, ca)] cd tu), (cd, cdG a0 idQ q rest), (cn, cellO (.int (iN nn) tn)), (ca, cellO (.ref dl)), (ci, cellO (.ref f)), (dl, lsO (DL g1 tk') m)] 0 (fun _ => rOk .none) (fun x => [idO w [(⟨#[110]⟩, cn), (⟨Zab⟩, ci), (⟨Zac⟩, ca)] cd tu, cdG a0 idQ q rest, cellO (.int (iN nn) tn), cellO (.ref dl), cellO (.ref f), lsO (DL g2 x.a) m]) oNl) : CS w os 680 (.call (.ref f) ⟨[.int (iN X) tx, .int (iN l) tl, .int (iN r) tr], []⟩) [(f, idO w [(⟨#[110]⟩, cn), (⟨Zab⟩, ci), (⟨Zac⟩, ca)] cd tu), (cd, cdG a0 idQ q rest), (cn, cellO (.int (iN nn) tn)), (ca, cellO (.ref dl)), (ci, cellO (.ref f)), (dl, lsO (DL g tk) m)] 0 (fun _ => rOk .none) (fun x => [idO w [(⟨#[110]⟩, cn), (⟨Zab⟩, ci), (⟨Zac⟩, ca)] cd tu, cdG a0 idQ q rest, cellO (.int (iN nn) tn), cellO (.ref dl), cellO (.ref f), lsO (DL g2 x.a) m]) oNl :=
  CB (orS isCall3 (isB ["int.__eq__","int.__rshift__","int.__sub__","int.__mul__","int.__lshift__","int.__xor__"])) 30000 oq11 (fun b0 t0 => vi (eqI (m := iN (l + 1)) (n := iN r) (u := (t0+5)) (v := (tr)) he) [] fun b1 t1 x1 => vj (rsE (a := l + r) (s := 1) (c := mid) (u := (t1+1)) (v := (t1+2)) hm) [] fun x2 => vj (subE (a := mid) (b := l) (c := k) (u := (x2.a 0)) (v := (tl)) hk) [] fun x3 => vj (mulE (a := k) (b := nn) (c := sf) (u := (x3.a 0)) (v := (tn)) hs hnn) [] fun x4 => vj (rsE (a := X) (s := sf) (c := up) (u := (tx)) (v := (x4.a 0)) hup) [] fun x5 => vj (lsE (a := up) (s := sf) (c := sh) (u := (x5.a 0)) (v := (x4.a 0)) hsh hub hsb) [] fun x6 => vj (xorE (a := X) (b := sh) (c := lo) (u := (tx)) (v := (x6.a 0)) hlo) [] fun x7 => vx (hA (x7.a 0) (tl) (x2.a 0)) [0,1,2,3,4,5] fun x8 => vx (hB (x5.a 0) (x2.a 0) (tr) (x8.a)) [0,1,2,3,4,5] fun x9 => finz [] (x9.a) (fun _ => default) (fun _ => .none)) (by kernel_rfl)
theorem in_node2 (f cd cn ca ci dl tu : Addr) (a0 : Value) (q : Nat) (rest : List Value) (nn tn m : Nat) (X tx l tl r tr : Nat) (g : List Nat) (tk : Nat → Nat) (he : (iN (l + 1) == iN r) = false) (mid k sf up sh lo : Nat) (hm : (l + r) / 2 ^ 1 = mid) (hk : l + k = mid) (hs : k * nn = sf) (hnn : nn < 2 ^ 60) (hup : X / 2 ^ sf = up) (hsh : up * 2 ^ sf = sh) (hub : up < 2 ^ 60) (hsb : sf < 60) (hlo : Builtin.bitXor (iN X) (iN sh) = iN lo) (g1 g2 : List Nat) (hA : ∀ t1 t2 t3, CS w os 680 (.call (.ref f) ⟨[.int (iN lo) t1, .int (iN l) t2, .int (iN mid) t3], []⟩) [(f, idO w [(⟨#[110]⟩, cn), (⟨Zab⟩, ci), (⟨Zac⟩, ca)] cd tu), (cd, cdG a0 idQ q rest), (cn, cellO (.int (iN nn) tn)), (ca, cellO (.ref dl)), (ci, cellO (.ref f)), (dl, lsO (DL g tk) m)] 0 (fun _ => rOk .none) (fun x => [idO w [(⟨#[110]⟩, cn), (⟨Zab⟩, ci), (⟨Zac⟩, ca)] cd tu, cdG a0 idQ q rest, cellO (.int (iN nn) tn), cellO (.ref dl), cellO (.ref f), lsO (DL g1 x.a) m]) oNl) (hB : ∀ t1 t2 t3 tk', CS w os 680 (.call (.ref f) ⟨[.int (iN up) t1, .int (iN mid) t2, .int (iN r) t3], []⟩) [(f, idO w [(⟨#[110]⟩, cn), (⟨Zab⟩, ci), (⟨Zac⟩, ca)] cd tu), (cd, cdG a0 idQ q rest), (cn, cellO (.int (iN nn) tn)), (ca, cellO (.ref dl)), (ci, cellO (.ref f)), (dl, lsO (DL g1 tk') m)] 0 (fun _ => rOk .none) (fun x => [idO w [(⟨#[110]⟩, cn), (⟨Zab⟩, ci), (⟨Zac⟩, ca)] cd tu, cdG a0 idQ q rest, cellO (.int (iN nn) tn), cellO (.ref dl), cellO (.ref f), lsO (DL g2 x.a) m]) oNl) : CS w os 660 (.call (.ref f) ⟨[.int (iN X) tx, .int (iN l) tl, .int (iN r) tr], []⟩) [(f, idO w [(⟨#[110]⟩, cn), (⟨Zab⟩, ci), (⟨Zac⟩, ca)] cd tu), (cd, cdG a0 idQ q rest), (cn, cellO (.int (iN nn) tn)), (ca, cellO (.ref dl)), (ci, cellO (.ref f)), (dl, lsO (DL g tk) m)] 0 (fun _ => rOk .none) (fun x => [idO w [(⟨#[110]⟩, cn), (⟨Zab⟩, ci), (⟨Zac⟩, ca)] cd tu, cdG a0 idQ q rest, cellO (.int (iN nn) tn), cellO (.ref dl), cellO (.ref f), lsO (DL g2 x.a) m]) oNl :=
  CB (orS isCall3 (isB ["int.__eq__","int.__rshift__","int.__sub__","int.__mul__","int.__lshift__","int.__xor__"])) 30000 oq11 (fun b0 t0 => vi (eqI (m := iN (l + 1)) (n := iN r) (u := (t0+5)) (v := (tr)) he) [] fun b1 t1 x1 => vj (rsE (a := l + r) (s := 1) (c := mid) (u := (t1+1)) (v := (t1+2)) hm) [] fun x2 => vj (subE (a := mid) (b := l) (c := k) (u := (x2.a 0)) (v := (tl)) hk) [] fun x3 => vj (mulE (a := k) (b := nn) (c := sf) (u := (x3.a 0)) (v := (tn)) hs hnn) [] fun x4 => vj (rsE (a := X) (s := sf) (c := up) (u := (tx)) (v := (x4.a 0)) hup) [] fun x5 => vj (lsE (a := up) (s := sf) (c := sh) (u := (x5.a 0)) (v := (x4.a 0)) hsh hub hsb) [] fun x6 => vj (xorE (a := X) (b := sh) (c := lo) (u := (tx)) (v := (x6.a 0)) hlo) [] fun x7 => vx (hA (x7.a 0) (tl) (x2.a 0)) [0,1,2,3,4,5] fun x8 => vx (hB (x5.a 0) (x2.a 0) (tr) (x8.a)) [0,1,2,3,4,5] fun x9 => finz [] (x9.a) (fun _ => default) (fun _ => .none)) (by kernel_rfl)
theorem in_node3 (f cd cn ca ci dl tu : Addr) (a0 : Value) (q : Nat) (rest : List Value) (nn tn m : Nat) (X tx l tl r tr : Nat) (g : List Nat) (tk : Nat → Nat) (he : (iN (l + 1) == iN r) = false) (mid k sf up sh lo : Nat) (hm : (l + r) / 2 ^ 1 = mid) (hk : l + k = mid) (hs : k * nn = sf) (hnn : nn < 2 ^ 60) (hup : X / 2 ^ sf = up) (hsh : up * 2 ^ sf = sh) (hub : up < 2 ^ 60) (hsb : sf < 60) (hlo : Builtin.bitXor (iN X) (iN sh) = iN lo) (g1 g2 : List Nat) (hA : ∀ t1 t2 t3, CS w os 660 (.call (.ref f) ⟨[.int (iN lo) t1, .int (iN l) t2, .int (iN mid) t3], []⟩) [(f, idO w [(⟨#[110]⟩, cn), (⟨Zab⟩, ci), (⟨Zac⟩, ca)] cd tu), (cd, cdG a0 idQ q rest), (cn, cellO (.int (iN nn) tn)), (ca, cellO (.ref dl)), (ci, cellO (.ref f)), (dl, lsO (DL g tk) m)] 0 (fun _ => rOk .none) (fun x => [idO w [(⟨#[110]⟩, cn), (⟨Zab⟩, ci), (⟨Zac⟩, ca)] cd tu, cdG a0 idQ q rest, cellO (.int (iN nn) tn), cellO (.ref dl), cellO (.ref f), lsO (DL g1 x.a) m]) oNl) (hB : ∀ t1 t2 t3 tk', CS w os 660 (.call (.ref f) ⟨[.int (iN up) t1, .int (iN mid) t2, .int (iN r) t3], []⟩) [(f, idO w [(⟨#[110]⟩, cn), (⟨Zab⟩, ci), (⟨Zac⟩, ca)] cd tu), (cd, cdG a0 idQ q rest), (cn, cellO (.int (iN nn) tn)), (ca, cellO (.ref dl)), (ci, cellO (.ref f)), (dl, lsO (DL g1 tk') m)] 0 (fun _ => rOk .none) (fun x => [idO w [(⟨#[110]⟩, cn), (⟨Zab⟩, ci), (⟨Zac⟩, ca)] cd tu, cdG a0 idQ q rest, cellO (.int (iN nn) tn), cellO (.ref dl), cellO (.ref f), lsO (DL g2 x.a) m]) oNl) : CS w os 640 (.call (.ref f) ⟨[.int (iN X) tx, .int (iN l) tl, .int (iN r) tr], []⟩) [(f, idO w [(⟨#[110]⟩, cn), (⟨Zab⟩, ci), (⟨Zac⟩, ca)] cd tu), (cd, cdG a0 idQ q rest), (cn, cellO (.int (iN nn) tn)), (ca, cellO (.ref dl)), (ci, cellO (.ref f)), (dl, lsO (DL g tk) m)] 0 (fun _ => rOk .none) (fun x => [idO w [(⟨#[110]⟩, cn), (⟨Zab⟩, ci), (⟨Zac⟩, ca)] cd tu, cdG a0 idQ q rest, cellO (.int (iN nn) tn), cellO (.ref dl), cellO (.ref f), lsO (DL g2 x.a) m]) oNl :=
  CB (orS isCall3 (isB ["int.__eq__","int.__rshift__","int.__sub__","int.__mul__","int.__lshift__","int.__xor__"])) 30000 oq11 (fun b0 t0 => vi (eqI (m := iN (l + 1)) (n := iN r) (u := (t0+5)) (v := (tr)) he) [] fun b1 t1 x1 => vj (rsE (a := l + r) (s := 1) (c := mid) (u := (t1+1)) (v := (t1+2)) hm) [] fun x2 => vj (subE (a := mid) (b := l) (c := k) (u := (x2.a 0)) (v := (tl)) hk) [] fun x3 => vj (mulE (a := k) (b := nn) (c := sf) (u := (x3.a 0)) (v := (tn)) hs hnn) [] fun x4 => vj (rsE (a := X) (s := sf) (c := up) (u := (tx)) (v := (x4.a 0)) hup) [] fun x5 => vj (lsE (a := up) (s := sf) (c := sh) (u := (x5.a 0)) (v := (x4.a 0)) hsh hub hsb) [] fun x6 => vj (xorE (a := X) (b := sh) (c := lo) (u := (tx)) (v := (x6.a 0)) hlo) [] fun x7 => vx (hA (x7.a 0) (tl) (x2.a 0)) [0,1,2,3,4,5] fun x8 => vx (hB (x5.a 0) (x2.a 0) (tr) (x8.a)) [0,1,2,3,4,5] fun x9 => finz [] (x9.a) (fun _ => default) (fun _ => .none)) (by kernel_rfl)
theorem in_node4 (f cd cn ca ci dl tu : Addr) (a0 : Value) (q : Nat) (rest : List Value) (nn tn m : Nat) (X tx l tl r tr : Nat) (g : List Nat) (tk : Nat → Nat) (he : (iN (l + 1) == iN r) = false) (mid k sf up sh lo : Nat) (hm : (l + r) / 2 ^ 1 = mid) (hk : l + k = mid) (hs : k * nn = sf) (hnn : nn < 2 ^ 60) (hup : X / 2 ^ sf = up) (hsh : up * 2 ^ sf = sh) (hub : up < 2 ^ 60) (hsb : sf < 60) (hlo : Builtin.bitXor (iN X) (iN sh) = iN lo) (g1 g2 : List Nat) (hA : ∀ t1 t2 t3, CS w os 640 (.call (.ref f) ⟨[.int (iN lo) t1, .int (iN l) t2, .int (iN mid) t3], []⟩) [(f, idO w [(⟨#[110]⟩, cn), (⟨Zab⟩, ci), (⟨Zac⟩, ca)] cd tu), (cd, cdG a0 idQ q rest), (cn, cellO (.int (iN nn) tn)), (ca, cellO (.ref dl)), (ci, cellO (.ref f)), (dl, lsO (DL g tk) m)] 0 (fun _ => rOk .none) (fun x => [idO w [(⟨#[110]⟩, cn), (⟨Zab⟩, ci), (⟨Zac⟩, ca)] cd tu, cdG a0 idQ q rest, cellO (.int (iN nn) tn), cellO (.ref dl), cellO (.ref f), lsO (DL g1 x.a) m]) oNl) (hB : ∀ t1 t2 t3 tk', CS w os 640 (.call (.ref f) ⟨[.int (iN up) t1, .int (iN mid) t2, .int (iN r) t3], []⟩) [(f, idO w [(⟨#[110]⟩, cn), (⟨Zab⟩, ci), (⟨Zac⟩, ca)] cd tu), (cd, cdG a0 idQ q rest), (cn, cellO (.int (iN nn) tn)), (ca, cellO (.ref dl)), (ci, cellO (.ref f)), (dl, lsO (DL g1 tk') m)] 0 (fun _ => rOk .none) (fun x => [idO w [(⟨#[110]⟩, cn), (⟨Zab⟩, ci), (⟨Zac⟩, ca)] cd tu, cdG a0 idQ q rest, cellO (.int (iN nn) tn), cellO (.ref dl), cellO (.ref f), lsO (DL g2 x.a) m]) oNl) : CS w os 620 (.call (.ref f) ⟨[.int (iN X) tx, .int (iN l) tl, .int (iN r) tr], []⟩) [(f, idO w [(⟨#[110]⟩, cn), (⟨Zab⟩, ci), (⟨Zac⟩, ca)] cd tu), (cd, cdG a0 idQ q rest), (cn, cellO (.int (iN nn) tn)), (ca, cellO (.ref dl)), (ci, cellO (.ref f)), (dl, lsO (DL g tk) m)] 0 (fun _ => rOk .none) (fun x => [idO w [(⟨#[110]⟩, cn), (⟨Zab⟩, ci), (⟨Zac⟩, ca)] cd tu, cdG a0 idQ q rest, cellO (.int (iN nn) tn), cellO (.ref dl), cellO (.ref f), lsO (DL g2 x.a) m]) oNl :=
  CB (orS isCall3 (isB ["int.__eq__","int.__rshift__","int.__sub__","int.__mul__","int.__lshift__","int.__xor__"])) 30000 oq11 (fun b0 t0 => vi (eqI (m := iN (l + 1)) (n := iN r) (u := (t0+5)) (v := (tr)) he) [] fun b1 t1 x1 => vj (rsE (a := l + r) (s := 1) (c := mid) (u := (t1+1)) (v := (t1+2)) hm) [] fun x2 => vj (subE (a := mid) (b := l) (c := k) (u := (x2.a 0)) (v := (tl)) hk) [] fun x3 => vj (mulE (a := k) (b := nn) (c := sf) (u := (x3.a 0)) (v := (tn)) hs hnn) [] fun x4 => vj (rsE (a := X) (s := sf) (c := up) (u := (tx)) (v := (x4.a 0)) hup) [] fun x5 => vj (lsE (a := up) (s := sf) (c := sh) (u := (x5.a 0)) (v := (x4.a 0)) hsh hub hsb) [] fun x6 => vj (xorE (a := X) (b := sh) (c := lo) (u := (tx)) (v := (x6.a 0)) hlo) [] fun x7 => vx (hA (x7.a 0) (tl) (x2.a 0)) [0,1,2,3,4,5] fun x8 => vx (hB (x5.a 0) (x2.a 0) (tr) (x8.a)) [0,1,2,3,4,5] fun x9 => finz [] (x9.a) (fun _ => default) (fun _ => .none)) (by kernel_rfl)
theorem kt_0R (mi wl td fr it : Addr) (es : Array DictEntry) (tn : Nat) (c0 c1 c2 u : Nat) (k0 k1 k2 k3 k4 k5 k6 k7 k8 : Nat) (v4 v7 v8 : Value) (r q t5 t6 : Nat) (s : Str) (us : Nat) (hG : ∀ z, CS w os 900 (.builtin "dict.__getitem__" ⟨[.ref td, sv [46,46,46,c1,c2] z], []⟩) [(td, (dOb es tn))] 0 (fun _ => rOk (.str s us)) (fun _ => [(dOb es tn)]) oNl) (hE : (s.cps.toList == [c0]) = true) (R Q : Nat) (hX : ∀ (t5' t6' kt : Nat), CS w os 600 (cL244 w it fr) [(fr, fq7 w k0 (.ref mi) k1 (.ref wl) k2 (.ref td) k3 (sv [c0,c1,c2] u) k4 v4 k5 (.int (iN (r+1)) t5') k6 (.int (iN q) t6') k7 (.int 0 kt) k8 (.str s us)), (td, (dOb es tn)), (it, rgI 1 2)] 0 rNx (fun x => [fq7 w k0 (.ref mi) k1 (.ref wl) k2 (.ref td) k3 (sv [c0,c1,c2] u) k4 v4 k5 (.int (iN R) (x.a 0)) k6 (.int (iN Q) (x.a 1)) k7 (x.v 0) k8 (x.v 1), (dOb es tn), x.o 0]) oNl) : CS w os 600 (cL244 w it fr) [(fr, fq7 w k0 (.ref mi) k1 (.ref wl) k2 (.ref td) k3 (sv [c0,c1,c2] u) k4 v4 k5 (.int (iN r) t5) k6 (.int (iN q) t6) k7 v7 k8 v8), (td, (dOb es tn)), (it, rgI 0 3)] 0 rNx (fun x => [fq7 w k0 (.ref mi) k1 (.ref wl) k2 (.ref td) k3 (sv [c0,c1,c2] u) k4 v4 k5 (.int (iN R) (x.a 0)) k6 (.int (iN Q) (x.a 1)) k7 (x.v 0) k8 (x.v 1), (dOb es tn), x.o 0]) oNl :=
  CB (orS (isForAt [244]) (isB ["dict.__getitem__","str.__eq__","str.__ne__"])) 30000 oq12 (fun b0 t0 => via (hG (t0+8)) [1] fun b1 t1 x1 => vi (eqS (s := s) (t := ⟨#[c0]⟩) (u := us) (v := (t1+2)) hE) [] fun b2 t2 x2 => vx (hX (t2+2) (t6) (t0+1)) [0,1,2] fun x3 => finz [] (x3.a) (x3.o) (x3.v)) (by kernel_rfl)
theorem kt_0Rf (mi wl td fr it : Addr) (es : Array DictEntry) (tn : Nat) (c0 c1 c2 u : Nat) (k0 k1 k2 k3 k4 k5 k6 k7 k8 : Nat) (v4 v7 v8 : Value) (r q t5 t6 : Nat) (s : Str) (us : Nat) (hG : ∀ z, CS w os 900 (.builtin "dict.__getitem__" ⟨[.ref td, sv [46,46,46,c1,c2] z], []⟩) [(td, (dOb es tn))] 0 (fun _ => rOk (.str s us)) (fun _ => [(dOb es tn)]) oNl) (hE : (s.cps.toList == [c0]) = true) (R Q : Nat) (hX : ∀ (t5' t6' kt k7' k8' : Nat), CS w os 600 (cL244 w it fr) [(fr, fq7 w k0 (.ref mi) k1 (.ref wl) k2 (.ref td) k3 (sv [c0,c1,c2] u) k4 v4 k5 (.int (iN (r+1)) t5') k6 (.int (iN q) t6') k7' (.int 0 kt) k8' (.str s us)), (td, (dOb es tn)), (it, rgI 1 2)] 0 rNx (fun x => [fq7 w k0 (.ref mi) k1 (.ref wl) k2 (.ref td) k3 (sv [c0,c1,c2] u) k4 v4 k5 (.int (iN R) (x.a 0)) k6 (.int (iN Q) (x.a 1)) k7' (x.v 0) k8' (x.v 1), (dOb es tn), x.o 0]) oNl) : CS w os 600 (cL244 w it fr) [(fr, fq8 w k0 (.ref mi) k1 (.ref wl) k2 (.ref td) k3 (sv [c0,c1,c2] u) k4 v4 k5 (.int (iN r) t5) k6 (.int (iN q) t6)), (td, (dOb es tn)), (it, rgI 0 3)] 0 rNx (fun x => [fq7 w k0 (.ref mi) k1 (.ref wl) k2 (.ref td) k3 (sv [c0,c1,c2] u) k4 v4 k5 (.int (iN R) (x.a 0)) k6 (.int (iN Q) (x.a 1)) (x.a 2) (x.v 0) (x.a 3) (x.v 1), (dOb es tn), x.o 0]) oNl :=
  CB (orS (isForAt [244]) (isB ["dict.__getitem__","str.__eq__","str.__ne__"])) 30000 oq12 (fun b0 t0 => via (hG (t0+8)) [1] fun b1 t1 x1 => vi (eqS (s := s) (t := ⟨#[c0]⟩) (u := us) (v := (t1+2)) hE) [] fun b2 t2 x2 => vx (hX (t2+2) (t6) (t0+1) (t0+2) (t1+1)) [0,1,2] fun x3 => finz [] (fun j => match j with | 2 => (t0+2) | 3 => (t1+1) | j => x3.a j) (x3.o) (x3.v)) (by kernel_rfl)
theorem kt_0S (mi wl td fr it : Addr) (es : Array DictEntry) (tn : Nat) (c0 c1 c2 u : Nat) (k0 k1 k2 k3 k4 k5 k6 k7 k8 : Nat) (v4 v7 v8 : Value) (r q t5 t6 : Nat) (s : Str) (us : Nat) (hG : ∀ z, CS w os 900 (.builtin "dict.__getitem__" ⟨[.ref td, sv [46,46,46,c1,c2] z], []⟩) [(td, (dOb es tn))] 0 (fun _ => rOk (.str s us)) (fun _ => [(dOb es tn)]) oNl) (hE : (s.cps.toList == [c0]) = false) (hN : (s.cps.toList != []) = false) (R Q : Nat) (hX : ∀ (t5' t6' kt : Nat), CS w os 600 (cL244 w it fr) [(fr, fq7 w k0 (.ref mi) k1 (.ref wl) k2 (.ref td) k3 (sv [c0,c1,c2] u) k4 v4 k5 (.int (iN r) t5') k6 (.int (iN q) t6') k7 (.int 0 kt) k8 (.str s us)), (td, (dOb es tn)), (it, rgI 1 2)] 0 rNx (fun x => [fq7 w k0 (.ref mi) k1 (.ref wl) k2 (.ref td) k3 (sv [c0,c1,c2] u) k4 v4 k5 (.int (iN R) (x.a 0)) k6 (.int (iN Q) (x.a 1)) k7 (x.v 0) k8 (x.v 1), (dOb es tn), x.o 0]) oNl) : CS w os 600 (cL244 w it fr) [(fr, fq7 w k0 (.ref mi) k1 (.ref wl) k2 (.ref td) k3 (sv [c0,c1,c2] u) k4 v4 k5 (.int (iN r) t5) k6 (.int (iN q) t6) k7 v7 k8 v8), (td, (dOb es tn)), (it, rgI 0 3)] 0 rNx (fun x => [fq7 w k0 (.ref mi) k1 (.ref wl) k2 (.ref td) k3 (sv [c0,c1,c2] u) k4 v4 k5 (.int (iN R) (x.a 0)) k6 (.int (iN Q) (x.a 1)) k7 (x.v 0) k8 (x.v 1), (dOb es tn), x.o 0]) oNl :=
  CB (orS (isForAt [244]) (isB ["dict.__getitem__","str.__eq__","str.__ne__"])) 30000 oq13 (fun b0 t0 => via (hG (t0+8)) [1] fun b1 t1 x1 => vi (eqS (s := s) (t := ⟨#[c0]⟩) (u := us) (v := (t1+2)) hE) [] fun b2 t2 x2 => vj (neS (s := s) (t := ⟨#[]⟩) (u := us) (v := (t2+1)) hN) [] fun _ => vx (hX (t5) (t6) (t0+1)) [0,1,2] fun x4 => finz [] (x4.a) (x4.o) (x4.v)) (by kernel_rfl)
theorem kt_0Sf (mi wl td fr it : Addr) (es : Array DictEntry) (tn : Nat) (c0 c1 c2 u : Nat) (k0 k1 k2 k3 k4 k5 k6 k7 k8 : Nat) (v4 v7 v8 : Value) (r q t5 t6 : Nat) (s : Str) (us : Nat) (hG : ∀ z, CS w os 900 (.builtin "dict.__getitem__" ⟨[.ref td, sv [46,46,46,c1,c2] z], []⟩) [(td, (dOb es tn))] 0 (fun _ => rOk (.str s us)) (fun _ => [(dOb es tn)]) oNl) (hE : (s.cps.toList == [c0]) = false) (hN : (s.cps.toList != []) = false) (R Q : Nat) (hX : ∀ (t5' t6' kt k7' k8' : Nat), CS w os 600 (cL244 w it fr) [(fr, fq7 w k0 (.ref mi) k1 (.ref wl) k2 (.ref td) k3 (sv [c0,c1,c2] u) k4 v4 k5 (.int (iN r) t5') k6 (.int (iN q) t6') k7' (.int 0 kt) k8' (.str s us)), (td, (dOb es tn)), (it, rgI 1 2)] 0 rNx (fun x => [fq7 w k0 (.ref mi) k1 (.ref wl) k2 (.ref td) k3 (sv [c0,c1,c2] u) k4 v4 k5 (.int (iN R) (x.a 0)) k6 (.int (iN Q) (x.a 1)) k7' (x.v 0) k8' (x.v 1), (dOb es tn), x.o 0]) oNl) : CS w os 600 (cL244 w it fr) [(fr, fq8 w k0 (.ref mi) k1 (.ref wl) k2 (.ref td) k3 (sv [c0,c1,c2] u) k4 v4 k5 (.int (iN r) t5) k6 (.int (iN q) t6)), (td, (dOb es tn)), (it, rgI 0 3)] 0 rNx (fun x => [fq7 w k0 (.ref mi) k1 (.ref wl) k2 (.ref td) k3 (sv [c0,c1,c2] u) k4 v4 k5 (.int (iN R) (x.a 0)) k6 (.int (iN Q) (x.a 1)) (x.a 2) (x.v 0) (x.a 3) (x.v 1), (dOb es tn), x.o 0]) oNl :=
  CB (orS (isForAt [244]) (isB ["dict.__getitem__","str.__eq__","str.__ne__"])) 30000 oq13 (fun b0 t0 => via (hG (t0+8)) [1] fun b1 t1 x1 => vi (eqS (s := s) (t := ⟨#[c0]⟩) (u := us) (v := (t1+2)) hE) [] fun b2 t2 x2 => vj (neS (s := s) (t := ⟨#[]⟩) (u := us) (v := (t2+1)) hN) [] fun _ => vx (hX (t5) (t6) (t0+1) (t0+2) (t1+1)) [0,1,2] fun x4 => finz [] (fun j => match j with | 2 => (t0+2) | 3 => (t1+1) | j => x4.a j) (x4.o) (x4.v)) (by kernel_rfl)
theorem kt_0W (mi wl td fr it : Addr) (es : Array DictEntry) (tn : Nat) (c0 c1 c2 u : Nat) (k0 k1 k2 k3 k4 k5 k6 k7 k8 : Nat) (v4 v7 v8 : Value) (r q t5 t6 : Nat) (s : Str) (us : Nat) (hG : ∀ z, CS w os 900 (.builtin "dict.__getitem__" ⟨[.ref td, sv [46,46,46,c1,c2] z], []⟩) [(td, (dOb es tn))] 0 (fun _ => rOk (.str s us)) (fun _ => [(dOb es tn)]) oNl) (hE : (s.cps.toList == [c0]) = false) (hN : (s.cps.toList != []) = true) (R Q : Nat) (hX : ∀ (t5' t6' kt : Nat), CS w os 600 (cL244 w it fr) [(fr, fq7 w k0 (.ref mi) k1 (.ref wl) k2 (.ref td) k3 (sv [c0,c1,c2] u) k4 v4 k5 (.int (iN r) t5') k6 (.int (iN (q+1)) t6') k7 (.int 0 kt) k8 (.str s us)), (td, (dOb es tn)), (it, rgI 1 2)] 0 rNx (fun x => [fq7 w k0 (.ref mi) k1 (.ref wl) k2 (.ref td) k3 (sv [c0,c1,c2] u) k4 v4 k5 (.int (iN R) (x.a 0)) k6 (.int (iN Q) (x.a 1)) k7 (x.v 0) k8 (x.v 1), (dOb es tn), x.o 0]) oNl) : CS w os 600 (cL244 w it fr) [(fr, fq7 w k0 (.ref mi) k1 (.ref wl) k2 (.ref td) k3 (sv [c0,c1,c2] u) k4 v4 k5 (.int (iN r) t5) k6 (.int (iN q) t6) k7 v7 k8 v8), (td, (dOb es tn)), (it, rgI 0 3)] 0 rNx (fun x => [fq7 w k0 (.ref mi) k1 (.ref wl) k2 (.ref td) k3 (sv [c0,c1,c2] u) k4 v4 k5 (.int (iN R) (x.a 0)) k6 (.int (iN Q) (x.a 1)) k7 (x.v 0) k8 (x.v 1), (dOb es tn), x.o 0]) oNl :=
  CB (orS (isForAt [244]) (isB ["dict.__getitem__","str.__eq__","str.__ne__"])) 30000 oq14 (fun b0 t0 => via (hG (t0+8)) [1] fun b1 t1 x1 => vi (eqS (s := s) (t := ⟨#[c0]⟩) (u := us) (v := (t1+2)) hE) [] fun b2 t2 x2 => vi (neS (s := s) (t := ⟨#[]⟩) (u := us) (v := (t2+1)) hN) [] fun b3 t3 x3 => vx (hX (t5) (t3+2) (t0+1)) [0,1,2] fun x4 => finz [] (x4.a) (x4.o) (x4.v)) (by kernel_rfl)
theorem kt_0Wf (mi wl td fr it : Addr) (es : Array DictEntry) (tn : Nat) (c0 c1 c2 u : Nat) (k0 k1 k2 k3 k4 k5 k6 k7 k8 : Nat) (v4 v7 v8 : Value) (r q t5 t6 : Nat) (s : Str) (us : Nat) (hG : ∀ z, CS w os 900 (.builtin "dict.__getitem__" ⟨[.ref td, sv [46,46,46,c1,c2] z], []⟩) [(td, (dOb es tn))] 0 (fun _ => rOk (.str s us)) (fun _ => [(dOb es tn)]) oNl) (hE : (s.cps.toList == [c0]) = false) (hN : (s.cps.toList != []) = true) (R Q : Nat) (hX : ∀ (t5' t6' kt k7' k8' : Nat), CS w os 600 (cL244 w it fr) [(fr, fq7 w k0 (.ref mi) k1 (.ref wl) k2 (.ref td) k3 (sv [c0,c1,c2] u) k4 v4 k5 (.int (iN r) t5') k6 (.int (iN (q+1)) t6') k7' (.int 0 kt) k8' (.str s us)), (td, (dOb es tn)), (it, rgI 1 2)] 0 rNx (fun x => [fq7 w k0 (.ref mi) k1 (.ref wl) k2 (.ref td) k3 (sv [c0,c1,c2] u) k4 v4 k5 (.int (iN R) (x.a 0)) k6 (.int (iN Q) (x.a 1)) k7' (x.v 0) k8' (x.v 1), (dOb es tn), x.o 0]) oNl) : CS w os 600 (cL244 w it fr) [(fr, fq8 w k0 (.ref mi) k1 (.ref wl) k2 (.ref td) k3 (sv [c0,c1,c2] u) k4 v4 k5 (.int (iN r) t5) k6 (.int (iN q) t6)), (td, (dOb es tn)), (it, rgI 0 3)] 0 rNx (fun x => [fq7 w k0 (.ref mi) k1 (.ref wl) k2 (.ref td) k3 (sv [c0,c1,c2] u) k4 v4 k5 (.int (iN R) (x.a 0)) k6 (.int (iN Q) (x.a 1)) (x.a 2) (x.v 0) (x.a 3) (x.v 1), (dOb es tn), x.o 0]) oNl :=
  CB (orS (isForAt [244]) (isB ["dict.__getitem__","str.__eq__","str.__ne__"])) 30000 oq14 (fun b0 t0 => via (hG (t0+8)) [1] fun b1 t1 x1 => vi (eqS (s := s) (t := ⟨#[c0]⟩) (u := us) (v := (t1+2)) hE) [] fun b2 t2 x2 => vi (neS (s := s) (t := ⟨#[]⟩) (u := us) (v := (t2+1)) hN) [] fun b3 t3 x3 => vx (hX (t5) (t3+2) (t0+1) (t0+2) (t1+1)) [0,1,2] fun x4 => finz [] (fun j => match j with | 2 => (t0+2) | 3 => (t1+1) | j => x4.a j) (x4.o) (x4.v)) (by kernel_rfl)
theorem kt_1R (mi wl td fr it : Addr) (es : Array DictEntry) (tn : Nat) (c0 c1 c2 u : Nat) (k0 k1 k2 k3 k4 k5 k6 k7 k8 : Nat) (v4 v7 v8 : Value) (r q t5 t6 : Nat) (s : Str) (us : Nat) (hG : ∀ z, CS w os 900 (.builtin "dict.__getitem__" ⟨[.ref td, sv [c0,46,46,46,c2] z], []⟩) [(td, (dOb es tn))] 0 (fun _ => rOk (.str s us)) (fun _ => [(dOb es tn)]) oNl) (hE : (s.cps.toList == [c1]) = true) (R Q : Nat) (hX : ∀ (t5' t6' kt : Nat), CS w os 600 (cL244 w it fr) [(fr, fq7 w k0 (.ref mi) k1 (.ref wl) k2 (.ref td) k3 (sv [c0,c1,c2] u) k4 v4 k5 (.int (iN (r+1)) t5') k6 (.int (iN q) t6') k7 (.int 1 kt) k8 (.str s us)), (td, (dOb es tn)), (it, rgI 2 1)] 0 rNx (fun x => [fq7 w k0 (.ref mi) k1 (.ref wl) k2 (.ref td) k3 (sv [c0,c1,c2] u) k4 v4 k5 (.int (iN R) (x.a 0)) k6 (.int (iN Q) (x.a 1)) k7 (x.v 0) k8 (x.v 1), (dOb es tn), x.o 0]) oNl) : CS w os 600 (cL244 w it fr) [(fr, fq7 w k0 (.ref mi) k1 (.ref wl) k2 (.ref td) k3 (sv [c0,c1,c2] u) k4 v4 k5 (.int (iN r) t5) k6 (.int (iN q) t6) k7 v7 k8 v8), (td, (dOb es tn)), (it, rgI 1 2)] 0 rNx (fun x => [fq7 w k0 (.ref mi) k1 (.ref wl) k2 (.ref td) k3 (sv [c0,c1,c2] u) k4 v4 k5 (.int (iN R) (x.a 0)) k6 (.int (iN Q) (x.a 1)) k7 (x.v 0) k8 (x.v 1), (dOb es tn), x.o 0]) oNl :=
  CB (orS (isForAt [244]) (isB ["dict.__getitem__","str.__eq__","str.__ne__"])) 30000 oq12 (fun b0 t0 => via (hG (t0+9)) [1] fun b1 t1 x1 => vi (eqS (s := s) (t := ⟨#[c1]⟩) (u := us) (v := (t1+2)) hE) [] fun b2 t2 x2 => vx (hX (t2+2) (t6) (t0+1)) [0,1,2] fun x3 => finz [] (x3.a) (x3.o) (x3.v)) (by kernel_rfl)
theorem kt_1S (mi wl td fr it : Addr) (es : Array DictEntry) (tn : Nat) (c0 c1 c2 u : Nat) (k0 k1 k2 k3 k4 k5 k6 k7 k8 : Nat) (v4 v7 v8 : Value) (r q t5 t6 : Nat) (s : Str) (us : Nat) (hG : ∀ z, CS w os 900 (.builtin "dict.__getitem__" ⟨[.ref td, sv [c0,46,46,46,c2] z], []⟩) [(td, (dOb es tn))] 0 (fun _ => rOk (.str s us)) (fun _ => [(dOb es tn)]) oNl) (hE : (s.cps.toList == [c1]) = false) (hN : (s.cps.toList != []) = false) (R Q : Nat) (hX : ∀ (t5' t6' kt : Nat), CS w os 600 (cL244 w it fr) [(fr, fq7 w k0 (.ref mi) k1 (.ref wl) k2 (.ref td) k3 (sv [c0,c1,c2] u) k4 v4 k5 (.int (iN r) t5') k6 (.int (iN q) t6') k7 (.int 1 kt) k8 (.str s us)), (td, (dOb es tn)), (it, rgI 2 1)] 0 rNx (fun x => [fq7 w k0 (.ref mi) k1 (.ref wl) k2 (.ref td) k3 (sv [c0,c1,c2] u) k4 v4 k5 (.int (iN R) (x.a 0)) k6 (.int (iN Q) (x.a 1)) k7 (x.v 0) k8 (x.v 1), (dOb es tn), x.o 0]) oNl) : CS w os 600 (cL244 w it fr) [(fr, fq7 w k0 (.ref mi) k1 (.ref wl) k2 (.ref td) k3 (sv [c0,c1,c2] u) k4 v4 k5 (.int (iN r) t5) k6 (.int (iN q) t6) k7 v7 k8 v8), (td, (dOb es tn)), (it, rgI 1 2)] 0 rNx (fun x => [fq7 w k0 (.ref mi) k1 (.ref wl) k2 (.ref td) k3 (sv [c0,c1,c2] u) k4 v4 k5 (.int (iN R) (x.a 0)) k6 (.int (iN Q) (x.a 1)) k7 (x.v 0) k8 (x.v 1), (dOb es tn), x.o 0]) oNl :=
  CB (orS (isForAt [244]) (isB ["dict.__getitem__","str.__eq__","str.__ne__"])) 30000 oq13 (fun b0 t0 => via (hG (t0+9)) [1] fun b1 t1 x1 => vi (eqS (s := s) (t := ⟨#[c1]⟩) (u := us) (v := (t1+2)) hE) [] fun b2 t2 x2 => vj (neS (s := s) (t := ⟨#[]⟩) (u := us) (v := (t2+1)) hN) [] fun _ => vx (hX (t5) (t6) (t0+1)) [0,1,2] fun x4 => finz [] (x4.a) (x4.o) (x4.v)) (by kernel_rfl)
theorem kt_1W (mi wl td fr it : Addr) (es : Array DictEntry) (tn : Nat) (c0 c1 c2 u : Nat) (k0 k1 k2 k3 k4 k5 k6 k7 k8 : Nat) (v4 v7 v8 : Value) (r q t5 t6 : Nat) (s : Str) (us : Nat) (hG : ∀ z, CS w os 900 (.builtin "dict.__getitem__" ⟨[.ref td, sv [c0,46,46,46,c2] z], []⟩) [(td, (dOb es tn))] 0 (fun _ => rOk (.str s us)) (fun _ => [(dOb es tn)]) oNl) (hE : (s.cps.toList == [c1]) = false) (hN : (s.cps.toList != []) = true) (R Q : Nat) (hX : ∀ (t5' t6' kt : Nat), CS w os 600 (cL244 w it fr) [(fr, fq7 w k0 (.ref mi) k1 (.ref wl) k2 (.ref td) k3 (sv [c0,c1,c2] u) k4 v4 k5 (.int (iN r) t5') k6 (.int (iN (q+1)) t6') k7 (.int 1 kt) k8 (.str s us)), (td, (dOb es tn)), (it, rgI 2 1)] 0 rNx (fun x => [fq7 w k0 (.ref mi) k1 (.ref wl) k2 (.ref td) k3 (sv [c0,c1,c2] u) k4 v4 k5 (.int (iN R) (x.a 0)) k6 (.int (iN Q) (x.a 1)) k7 (x.v 0) k8 (x.v 1), (dOb es tn), x.o 0]) oNl) : CS w os 600 (cL244 w it fr) [(fr, fq7 w k0 (.ref mi) k1 (.ref wl) k2 (.ref td) k3 (sv [c0,c1,c2] u) k4 v4 k5 (.int (iN r) t5) k6 (.int (iN q) t6) k7 v7 k8 v8), (td, (dOb es tn)), (it, rgI 1 2)] 0 rNx (fun x => [fq7 w k0 (.ref mi) k1 (.ref wl) k2 (.ref td) k3 (sv [c0,c1,c2] u) k4 v4 k5 (.int (iN R) (x.a 0)) k6 (.int (iN Q) (x.a 1)) k7 (x.v 0) k8 (x.v 1), (dOb es tn), x.o 0]) oNl :=
  CB (orS (isForAt [244]) (isB ["dict.__getitem__","str.__eq__","str.__ne__"])) 30000 oq14 (fun b0 t0 => via (hG (t0+9)) [1] fun b1 t1 x1 => vi (eqS (s := s) (t := ⟨#[c1]⟩) (u := us) (v := (t1+2)) hE) [] fun b2 t2 x2 => vi (neS (s := s) (t := ⟨#[]⟩) (u := us) (v := (t2+1)) hN) [] fun b3 t3 x3 => vx (hX (t5) (t3+2) (t0+1)) [0,1,2] fun x4 => finz [] (x4.a) (x4.o) (x4.v)) (by kernel_rfl)
theorem kt_2R (mi wl td fr it : Addr) (es : Array DictEntry) (tn : Nat) (c0 c1 c2 u : Nat) (k0 k1 k2 k3 k4 k5 k6 k7 k8 : Nat) (v4 v7 v8 : Value) (r q t5 t6 : Nat) (s : Str) (us : Nat) (hG : ∀ z, CS w os 900 (.builtin "dict.__getitem__" ⟨[.ref td, sv [c0,c1,46,46,46] z], []⟩) [(td, (dOb es tn))] 0 (fun _ => rOk (.str s us)) (fun _ => [(dOb es tn)]) oNl) (hE : (s.cps.toList == [c2]) = true) (R Q : Nat) (hX : ∀ (t5' t6' kt : Nat), CS w os 600 (cL244 w it fr) [(fr, fq7 w k0 (.ref mi) k1 (.ref wl) k2 (.ref td) k3 (sv [c0,c1,c2] u) k4 v4 k5 (.int (iN (r+1)) t5') k6 (.int (iN q) t6') k7 (.int 2 kt) k8 (.str s us)), (td, (dOb es tn)), (it, rgI 3 0)] 0 rNx (fun x => [fq7 w k0 (.ref mi) k1 (.ref wl) k2 (.ref td) k3 (sv [c0,c1,c2] u) k4 v4 k5 (.int (iN R) (x.a 0)) k6 (.int (iN Q) (x.a 1)) k7 (x.v 0) k8 (x.v 1), (dOb es tn), x.o 0]) oNl) : CS w os 600 (cL244 w it fr) [(fr, fq7 w k0 (.ref mi) k1 (.ref wl) k2 (.ref td) k3 (sv [c0,c1,c2] u) k4 v4 k5 (.int (iN r) t5) k6 (.int (iN q) t6) k7 v7 k8 v8), (td, (dOb es tn)), (it, rgI 2 1)] 0 rNx (fun x => [fq7 w k0 (.ref mi) k1 (.ref wl) k2 (.ref td) k3 (sv [c0,c1,c2] u) k4 v4 k5 (.int (iN R) (x.a 0)) k6 (.int (iN Q) (x.a 1)) k7 (x.v 0) k8 (x.v 1), (dOb es tn), x.o 0]) oNl :=
  CB (orS (isForAt [244]) (isB ["dict.__getitem__","str.__eq__","str.__ne__"])) 30000 oq12 (fun b0 t0 => via (hG (t0+5)) [1] fun b1 t1 x1 => vi (eqS (s := s) (t := ⟨#[c2]⟩) (u := us) (v := (t1+2)) hE) [] fun b2 t2 x2 => vx (hX (t2+2) (t6) (t0+1)) [0,1,2] fun x3 => finz [] (x3.a) (x3.o) (x3.v)) (by kernel_rfl)
theorem kt_2S (mi wl td fr it : Addr) (es : Array DictEntry) (tn : Nat) (c0 c1 c2 u : Nat) (k0 k1 k2 k3 k4 k5 k6 k7 k8 : Nat) (v4 v7 v8 : Value) (r q t5 t6 : Nat) (s : Str) (us : Nat) (hG : ∀ z, CS w os 900 (.builtin "dict.__getitem__" ⟨[.ref td, sv [c0,c1,46,46,46] z], []⟩) [(td, (dOb es tn))] 0 (fun _ => rOk (.str s us)) (fun _ => [(dOb es tn)]) oNl) (hE : (s.cps.toList == [c2]) = false) (hN : (s.cps.toList != []) = false) (R Q : Nat) (hX : ∀ (t5' t6' kt : Nat), CS w os 600 (cL244 w it fr) [(fr, fq7 w k0 (.ref mi) k1 (.ref wl) k2 (.ref td) k3 (sv [c0,c1,c2] u) k4 v4 k5 (.int (iN r) t5') k6 (.int (iN q) t6') k7 (.int 2 kt) k8 (.str s us)), (td, (dOb es tn)), (it, rgI 3 0)] 0 rNx (fun x => [fq7 w k0 (.ref mi) k1 (.ref wl) k2 (.ref td) k3 (sv [c0,c1,c2] u) k4 v4 k5 (.int (iN R) (x.a 0)) k6 (.int (iN Q) (x.a 1)) k7 (x.v 0) k8 (x.v 1), (dOb es tn), x.o 0]) oNl) : CS w os 600 (cL244 w it fr) [(fr, fq7 w k0 (.ref mi) k1 (.ref wl) k2 (.ref td) k3 (sv [c0,c1,c2] u) k4 v4 k5 (.int (iN r) t5) k6 (.int (iN q) t6) k7 v7 k8 v8), (td, (dOb es tn)), (it, rgI 2 1)] 0 rNx (fun x => [fq7 w k0 (.ref mi) k1 (.ref wl) k2 (.ref td) k3 (sv [c0,c1,c2] u) k4 v4 k5 (.int (iN R) (x.a 0)) k6 (.int (iN Q) (x.a 1)) k7 (x.v 0) k8 (x.v 1), (dOb es tn), x.o 0]) oNl :=
  CB (orS (isForAt [244]) (isB ["dict.__getitem__","str.__eq__","str.__ne__"])) 30000 oq13 (fun b0 t0 => via (hG (t0+5)) [1] fun b1 t1 x1 => vi (eqS (s := s) (t := ⟨#[c2]⟩) (u := us) (v := (t1+2)) hE) [] fun b2 t2 x2 => vj (neS (s := s) (t := ⟨#[]⟩) (u := us) (v := (t2+1)) hN) [] fun _ => vx (hX (t5) (t6) (t0+1)) [0,1,2] fun x4 => finz [] (x4.a) (x4.o) (x4.v)) (by kernel_rfl)
theorem kt_2W (mi wl td fr it : Addr) (es : Array DictEntry) (tn : Nat) (c0 c1 c2 u : Nat) (k0 k1 k2 k3 k4 k5 k6 k7 k8 : Nat) (v4 v7 v8 : Value) (r q t5 t6 : Nat) (s : Str) (us : Nat) (hG : ∀ z, CS w os 900 (.builtin "dict.__getitem__" ⟨[.ref td, sv [c0,c1,46,46,46] z], []⟩) [(td, (dOb es tn))] 0 (fun _ => rOk (.str s us)) (fun _ => [(dOb es tn)]) oNl) (hE : (s.cps.toList == [c2]) = false) (hN : (s.cps.toList != []) = true) (R Q : Nat) (hX : ∀ (t5' t6' kt : Nat), CS w os 600 (cL244 w it fr) [(fr, fq7 w k0 (.ref mi) k1 (.ref wl) k2 (.ref td) k3 (sv [c0,c1,c2] u) k4 v4 k5 (.int (iN r) t5') k6 (.int (iN (q+1)) t6') k7 (.int 2 kt) k8 (.str s us)), (td, (dOb es tn)), (it, rgI 3 0)] 0 rNx (fun x => [fq7 w k0 (.ref mi) k1 (.ref wl) k2 (.ref td) k3 (sv [c0,c1,c2] u) k4 v4 k5 (.int (iN R) (x.a 0)) k6 (.int (iN Q) (x.a 1)) k7 (x.v 0) k8 (x.v 1), (dOb es tn), x.o 0]) oNl) : CS w os 600 (cL244 w it fr) [(fr, fq7 w k0 (.ref mi) k1 (.ref wl) k2 (.ref td) k3 (sv [c0,c1,c2] u) k4 v4 k5 (.int (iN r) t5) k6 (.int (iN q) t6) k7 v7 k8 v8), (td, (dOb es tn)), (it, rgI 2 1)] 0 rNx (fun x => [fq7 w k0 (.ref mi) k1 (.ref wl) k2 (.ref td) k3 (sv [c0,c1,c2] u) k4 v4 k5 (.int (iN R) (x.a 0)) k6 (.int (iN Q) (x.a 1)) k7 (x.v 0) k8 (x.v 1), (dOb es tn), x.o 0]) oNl :=
  CB (orS (isForAt [244]) (isB ["dict.__getitem__","str.__eq__","str.__ne__"])) 30000 oq14 (fun b0 t0 => via (hG (t0+5)) [1] fun b1 t1 x1 => vi (eqS (s := s) (t := ⟨#[c2]⟩) (u := us) (v := (t1+2)) hE) [] fun b2 t2 x2 => vi (neS (s := s) (t := ⟨#[]⟩) (u := us) (v := (t2+1)) hN) [] fun b3 t3 x3 => vx (hX (t5) (t3+2) (t0+1)) [0,1,2] fun x4 => finz [] (x4.a) (x4.o) (x4.v)) (by kernel_rfl)
theorem kt_endF (mi wl td fr it : Addr) (es : Array DictEntry) (tn : Nat) (c0 c1 c2 u : Nat) (k0 k1 k2 k3 k4 k5 k6 k7 k8 : Nat) (v4 v7 v8 : Value) (R Q tr tq : Nat) (k : Int) : CS w os 600 (cL244 w it fr) [(fr, fq7 w k0 (.ref mi) k1 (.ref wl) k2 (.ref td) k3 (sv [c0,c1,c2] u) k4 v4 k5 (.int (iN R) tr) k6 (.int (iN Q) tq) k7 v7 k8 v8), (td, (dOb es tn)), (it, rgI k 0)] 0 rNx (fun x => [fq7 w k0 (.ref mi) k1 (.ref wl) k2 (.ref td) k3 (sv [c0,c1,c2] u) k4 v4 k5 (.int (iN R) (x.a 0)) k6 (.int (iN Q) (x.a 1)) k7 (x.v 0) k8 (x.v 1), (dOb es tn), x.o 0]) oNl :=
  CB (noStop) 30000 [3,3,3,3,3,5] (fun b0 t0 => finz [] (fun j => match j with | 0 => tr | _ => tq) (fun _ => rgI k 0) (fun j => match j with | 0 => v7 | _ => v8)) (by kernel_rfl)
theorem law_c (vs : List Value) (hL : ∀ (fr cp cw cb cc cf : Addr) (k0 : Nat), CS w os 330 (lawFn w fr [(⟨Zag⟩, cf), (⟨Zah⟩, cc), (⟨Zai⟩, cb), (⟨Zae⟩, cw), (⟨Zaj⟩, cp)]) [(167, lsO vs 0), (108, tableObj #[]), (38, tableObj #[]), (24, tableObj #[]), (fr, fq9 w k0 (.ref 167)), (cp, cNo), (cw, cNo), (cb, cNo), (cc, cNo), (cf, cNo)] 0 (fun _ => rOk (.bool true)) (fun x => [lsO vs 0, tableObj #[.int (iN 198) 0, .int (iN 4) 0, .ref (x.a 0), .int (iN 202) 0, .int (iN 13) 0, .ref (x.a 1)], tableObj #[.int 59 0, .int 4 0, .ref (x.a 2)], tableObj #[.int 46 0, .int 4 0, .ref (x.a 3)], x.o 0, x.o 1, x.o 2, x.o 3, x.o 4, x.o 5]) oNl) : CS w os 320 (.call (.ref 166) ⟨[.ref 167], []⟩) [(167, lsO vs 0), (108, tableObj #[]), (38, tableObj #[]), (24, tableObj #[])] 0 (fun _ => rOk (.bool true)) (fun x => [lsO vs 0, tableObj #[.int (iN 198) 0, .int (iN 4) 0, .ref (x.a 0), .int (iN 202) 0, .int (iN 13) 0, .ref (x.a 1)], tableObj #[.int 59 0, .int 4 0, .ref (x.a 2)], tableObj #[.int 46 0, .int 4 0, .ref (x.a 3)]]) oNl :=
  CB ((fun c => match c with | .func _ _ => true | _ => false)) 30000 [1,0,5,5] (fun b0 t0 => vx (hL (b0+0) (b0+1) (b0+2) (b0+3) (b0+4) (b0+5) (t0+1)) [0,1,2,3,4,5,6,7,8,9] fun x1 => finz [] (x1.a) (x1.o) (fun _ => .none)) (by kernel_rfl)
theorem lc_F (it acc loc fr cw cp wl : Addr) (ws xs : List Value) (nw nx t m : Nat) (v : Value) (P z : Nat) (hx : xs.length ≤ 100) (k0 : Nat) (v0 : Value) (hv : ws[t]? = some v) (ht : t < 1000) (p q g : Nat) (h1 : 2 ^ t = p) (h2 : P / p = q) (h3 : q % 2 = g) (hp0 : 0 < p) (hp1 : p < 2 ^ 60) (he : (iN g == 1) = false) (out : List Value) (nn : Nat) (hX : ∀ (v0' : Value), CS w os 560 (compC w 166 [10] it acc loc fr [(⟨Zae⟩, cw), (⟨Zaj⟩, cp)]) [(it, rgI (iN (t+1)) (iN m)), (acc, lsO xs nx), (loc, dq10 w k0 v0'), (cw, cellO (.ref wl)), (cp, cellO (.int (iN P) z)), (wl, lsO ws nw)] 0 rNx (fun x => [x.o 0, lsO out nn, dq10 w k0 (x.v 0), cellO (.ref wl), cellO (.int (iN P) z), lsO ws nw]) oNl) : CS w os 560 (compC w 166 [10] it acc loc fr [(⟨Zae⟩, cw), (⟨Zaj⟩, cp)]) [(it, rgI (iN t) (iN (m+1))), (acc, lsO xs nx), (loc, dq10 w k0 v0), (cw, cellO (.ref wl)), (cp, cellO (.int (iN P) z)), (wl, lsO ws nw)] 0 rNx (fun x => [x.o 0, lsO out nn, dq10 w k0 (x.v 0), cellO (.ref wl), cellO (.int (iN P) z), lsO ws nw]) oNl :=
  CB (orS isFor (isB ["list.__getitem__","list.append","int.__eq__","int.__pow__","int.__mod__","int.__floordiv__"])) 30000 [1,1,1,1,1,1,1,1,1000001,3,3,5,3] (fun b0 t0 => rwv 0 1 (rgN t m) (rgI (iN (t+1)) (iN m)) (rgI_next t m) <| vj (powE (b := 2) (e := t) (c := p) (u := (t0+3)) (v := (t0+1)) h1 (by omega) (by omega) (by omega)) [] fun x1 => vi (fdE (a := P) (b := p) (c := q) (u := (z)) (v := (x1.a 0)) h2 hp0 hp1) [] fun b2 t2 x2 => vi (mdE (a := q) (b := 2) (c := g) (u := (x2.a 0)) (v := (t2+1)) h3 (by decide)) [] fun b3 t3 x3 => vj (eqI (m := iN g) (n := 1) (u := (x3.a 0)) (v := (t3+1)) he) [] fun _ => vx (hX ((PySem.Value.int (iN (t)) (t0+1))) ) [0,1,2,3,4,5] fun x5 => finz [] (fun j => j) (x5.o) (x5.v)) (by kernel_rfl)
theorem lc_Ff (it acc loc fr cw cp wl : Addr) (ws xs : List Value) (nw nx t m : Nat) (v : Value) (P z : Nat) (hx : xs.length ≤ 100) (hv : ws[t]? = some v) (ht : t < 1000) (p q g : Nat) (h1 : 2 ^ t = p) (h2 : P / p = q) (h3 : q % 2 = g) (hp0 : 0 < p) (hp1 : p < 2 ^ 60) (he : (iN g == 1) = false) (out : List Value) (nn : Nat) (hX : ∀ (v0' : Value) (k0' : Nat), CS w os 560 (compC w 166 [10] it acc loc fr [(⟨Zae⟩, cw), (⟨Zaj⟩, cp)]) [(it, rgI (iN (t+1)) (iN m)), (acc, lsO xs nx), (loc, dq10 w k0' v0'), (cw, cellO (.ref wl)), (cp, cellO (.int (iN P) z)), (wl, lsO ws nw)] 0 rNx (fun x => [x.o 0, lsO out nn, dq10 w k0' (x.v 0), cellO (.ref wl), cellO (.int (iN P) z), lsO ws nw]) oNl) : CS w os 560 (compC w 166 [10] it acc loc fr [(⟨Zae⟩, cw), (⟨Zaj⟩, cp)]) [(it, rgI (iN t) (iN (m+1))), (acc, lsO xs nx), (loc, dcE w []), (cw, cellO (.ref wl)), (cp, cellO (.int (iN P) z)), (wl, lsO ws nw)] 0 rNx (fun x => [x.o 0, lsO out nn, dq10 w (x.a 0) (x.v 0), cellO (.ref wl), cellO (.int (iN P) z), lsO ws nw]) oNl :=
  CB (orS isFor (isB ["list.__getitem__","list.append","int.__eq__","int.__pow__","int.__mod__","int.__floordiv__"])) 30000 [1,1,1,1,1,1,1,1,1000001,3,3,5,3] (fun b0 t0 => rwv 0 1 (rgN t m) (rgI (iN (t+1)) (iN m)) (rgI_next t m) <| vj (powE (b := 2) (e := t) (c := p) (u := (t0+3)) (v := (t0+1)) h1 (by omega) (by omega) (by omega)) [] fun x1 => vi (fdE (a := P) (b := p) (c := q) (u := (z)) (v := (x1.a 0)) h2 hp0 hp1) [] fun b2 t2 x2 => vi (mdE (a := q) (b := 2) (c := g) (u := (x2.a 0)) (v := (t2+1)) h3 (by decide)) [] fun b3 t3 x3 => vj (eqI (m := iN g) (n := 1) (u := (x3.a 0)) (v := (t3+1)) he) [] fun _ => vx (hX ((PySem.Value.int (iN (t)) (t0+1))) (t0+2)) [0,1,2,3,4,5] fun x5 => finz [] (nth [(t0+2)]) (x5.o) (x5.v)) (by kernel_rfl)
theorem lc_T (it acc loc fr cw cp wl : Addr) (ws xs : List Value) (nw nx t m : Nat) (v : Value) (P z : Nat) (hx : xs.length ≤ 100) (k0 : Nat) (v0 : Value) (hv : ws[t]? = some v) (ht : t < 1000) (p q g : Nat) (h1 : 2 ^ t = p) (h2 : P / p = q) (h3 : q % 2 = g) (hp0 : 0 < p) (hp1 : p < 2 ^ 60) (he : (iN g == 1) = true) (out : List Value) (nn : Nat) (hX : ∀ (v0' : Value), CS w os 560 (compC w 166 [10] it acc loc fr [(⟨Zae⟩, cw), (⟨Zaj⟩, cp)]) [(it, rgI (iN (t+1)) (iN m)), (acc, lsO (xs ++ [v]) (nx + 1)), (loc, dq10 w k0 v0'), (cw, cellO (.ref wl)), (cp, cellO (.int (iN P) z)), (wl, lsO ws nw)] 0 rNx (fun x => [x.o 0, lsO out nn, dq10 w k0 (x.v 0), cellO (.ref wl), cellO (.int (iN P) z), lsO ws nw]) oNl) : CS w os 560 (compC w 166 [10] it acc loc fr [(⟨Zae⟩, cw), (⟨Zaj⟩, cp)]) [(it, rgI (iN t) (iN (m+1))), (acc, lsO xs nx), (loc, dq10 w k0 v0), (cw, cellO (.ref wl)), (cp, cellO (.int (iN P) z)), (wl, lsO ws nw)] 0 rNx (fun x => [x.o 0, lsO out nn, dq10 w k0 (x.v 0), cellO (.ref wl), cellO (.int (iN P) z), lsO ws nw]) oNl :=
  CB (orS isFor (isB ["list.__getitem__","list.append","int.__eq__","int.__pow__","int.__mod__","int.__floordiv__"])) 30000 [1,1,1,1,1,1,1,1,1000001,3,3,5,3,4,3,6,6,6,6,2] (fun b0 t0 => rwv 0 1 (rgN t m) (rgI (iN (t+1)) (iN m)) (rgI_next t m) <| vj (powE (b := 2) (e := t) (c := p) (u := (t0+3)) (v := (t0+1)) h1 (by omega) (by omega) (by omega)) [] fun x1 => vi (fdE (a := P) (b := p) (c := q) (u := (z)) (v := (x1.a 0)) h2 hp0 hp1) [] fun b2 t2 x2 => vi (mdE (a := q) (b := 2) (c := g) (u := (x2.a 0)) (v := (t2+1)) h3 (by decide)) [] fun b3 t3 x3 => vj (eqI (m := iN g) (n := 1) (u := (x3.a 0)) (v := (t3+1)) he) [] fun _ => vj (getS (l := wl) (i := t) (u := (t0+1)) (xs := ws) (n := nw) hv ht) [5] fun _ => vj (append_s (l := acc) (xs := xs) (n := nx) (v := v) hx) [1] fun _ => vx (hX ((PySem.Value.int (iN (t)) (t0+1))) ) [0,1,2,3,4,5] fun x7 => finz [] (fun j => j) (x7.o) (x7.v)) (by kernel_rfl)
theorem lc_Tf (it acc loc fr cw cp wl : Addr) (ws xs : List Value) (nw nx t m : Nat) (v : Value) (P z : Nat) (hx : xs.length ≤ 100) (hv : ws[t]? = some v) (ht : t < 1000) (p q g : Nat) (h1 : 2 ^ t = p) (h2 : P / p = q) (h3 : q % 2 = g) (hp0 : 0 < p) (hp1 : p < 2 ^ 60) (he : (iN g == 1) = true) (out : List Value) (nn : Nat) (hX : ∀ (v0' : Value) (k0' : Nat), CS w os 560 (compC w 166 [10] it acc loc fr [(⟨Zae⟩, cw), (⟨Zaj⟩, cp)]) [(it, rgI (iN (t+1)) (iN m)), (acc, lsO (xs ++ [v]) (nx + 1)), (loc, dq10 w k0' v0'), (cw, cellO (.ref wl)), (cp, cellO (.int (iN P) z)), (wl, lsO ws nw)] 0 rNx (fun x => [x.o 0, lsO out nn, dq10 w k0' (x.v 0), cellO (.ref wl), cellO (.int (iN P) z), lsO ws nw]) oNl) : CS w os 560 (compC w 166 [10] it acc loc fr [(⟨Zae⟩, cw), (⟨Zaj⟩, cp)]) [(it, rgI (iN t) (iN (m+1))), (acc, lsO xs nx), (loc, dcE w []), (cw, cellO (.ref wl)), (cp, cellO (.int (iN P) z)), (wl, lsO ws nw)] 0 rNx (fun x => [x.o 0, lsO out nn, dq10 w (x.a 0) (x.v 0), cellO (.ref wl), cellO (.int (iN P) z), lsO ws nw]) oNl :=
  CB (orS isFor (isB ["list.__getitem__","list.append","int.__eq__","int.__pow__","int.__mod__","int.__floordiv__"])) 30000 [1,1,1,1,1,1,1,1,1000001,3,3,5,3,4,3,6,6,6,6,2] (fun b0 t0 => rwv 0 1 (rgN t m) (rgI (iN (t+1)) (iN m)) (rgI_next t m) <| vj (powE (b := 2) (e := t) (c := p) (u := (t0+3)) (v := (t0+1)) h1 (by omega) (by omega) (by omega)) [] fun x1 => vi (fdE (a := P) (b := p) (c := q) (u := (z)) (v := (x1.a 0)) h2 hp0 hp1) [] fun b2 t2 x2 => vi (mdE (a := q) (b := 2) (c := g) (u := (x2.a 0)) (v := (t2+1)) h3 (by decide)) [] fun b3 t3 x3 => vj (eqI (m := iN g) (n := 1) (u := (x3.a 0)) (v := (t3+1)) he) [] fun _ => vj (getS (l := wl) (i := t) (u := (t0+1)) (xs := ws) (n := nw) hv ht) [5] fun _ => vj (append_s (l := acc) (xs := xs) (n := nx) (v := v) hx) [1] fun _ => vx (hX ((PySem.Value.int (iN (t)) (t0+1))) (t0+2)) [0,1,2,3,4,5] fun x7 => finz [] (nth [(t0+2)]) (x7.o) (x7.v)) (by kernel_rfl)
theorem lc_end (it acc loc fr cw cp wl : Addr) (ws xs : List Value) (nw nx : Nat) (P z : Nat) (k : Int) (k0 : Nat) (v0 : Value) : CS w os 560 (compC w 166 [10] it acc loc fr [(⟨Zae⟩, cw), (⟨Zaj⟩, cp)]) [(it, rgI k 0), (acc, lsO xs nx), (loc, dq10 w k0 v0), (cw, cellO (.ref wl)), (cp, cellO (.int (iN P) z)), (wl, lsO ws nw)] 0 rNx (fun x => [x.o 0, lsO xs nx, dq10 w k0 (x.v 0), cellO (.ref wl), cellO (.int (iN P) z), lsO ws nw]) oNl :=
  CB (isFor) 30000 [1,1,1,1,1,8] (fun b0 t0 => finz [] (nth []) (fun _ => rgI k 0) (fun _ => v0)) (by kernel_rfl)
theorem ld_C (it acc loc fr wl cc cf chl fal : Addr) (ws xs cs fs : List Value) (nw nx nc nf t : Nat) (v : List Nat) (vt : Nat) (hx : xs.length ≤ 100) (k0 : Nat) (v0 : Value) (hv : ws[t]? = some (sv v vt)) (h1 : CS w os 900 (.builtin "list.__contains__" ⟨[.ref chl, sv v vt], []⟩) [(chl, lsO cs nc)] 0 (fun _ => rOk (.bool true)) (fun _ => [lsO cs nc]) oNl) (out : List Value) (nn : Nat) (hX : ∀ (v0' : Value), CS w os 560 (compC w 166 [15] it acc loc fr [(⟨Zag⟩, cf), (⟨Zah⟩, cc)]) [(it, itO wl (t+1)), (wl, lsO ws nw), (acc, lsO (xs ++ [sv v vt]) (nx + 1)), (loc, dq11 w k0 v0'), (cc, cellO (.ref chl)), (cf, cellO (.ref fal)), (chl, lsO cs nc), (fal, lsO fs nf)] 0 rNx (fun x => [x.o 0, lsO ws nw, lsO out nn, dq11 w k0 (x.v 0), cellO (.ref chl), cellO (.ref fal), lsO cs nc, lsO fs nf]) oNl) : CS w os 560 (compC w 166 [15] it acc loc fr [(⟨Zag⟩, cf), (⟨Zah⟩, cc)]) [(it, itO wl t), (wl, lsO ws nw), (acc, lsO xs nx), (loc, dq11 w k0 v0), (cc, cellO (.ref chl)), (cf, cellO (.ref fal)), (chl, lsO cs nc), (fal, lsO fs nf)] 0 rNx (fun x => [x.o 0, lsO ws nw, lsO out nn, dq11 w k0 (x.v 0), cellO (.ref chl), cellO (.ref fal), lsO cs nc, lsO fs nf]) oNl :=
  CB (orS isFor (isB ["list.__contains__","list.append","list_iterator.__next__"])) 30000 [1,1,4,4,4,5,7,7,7,4,3] (fun b0 t0 => vj (next_s (it := it) (l := wl) (i := t) (xs := ws) (n := nw) hv) [0,1] fun _ => vx (h1) [6] fun _ => vj (append_s (l := acc) (xs := xs) (n := nx) (v := sv v vt) hx) [2] fun _ => vx (hX (sv v vt) ) [0,1,2,3,4,5,6,7] fun x4 => finz [] (fun j => j) (x4.o) (x4.v)) (by kernel_rfl)
theorem ld_Cf (it acc loc fr wl cc cf chl fal : Addr) (ws xs cs fs : List Value) (nw nx nc nf t : Nat) (v : List Nat) (vt : Nat) (hx : xs.length ≤ 100) (hv : ws[t]? = some (sv v vt)) (h1 : CS w os 900 (.builtin "list.__contains__" ⟨[.ref chl, sv v vt], []⟩) [(chl, lsO cs nc)] 0 (fun _ => rOk (.bool true)) (fun _ => [lsO cs nc]) oNl) (out : List Value) (nn : Nat) (hX : ∀ (v0' : Value) (k0' : Nat), CS w os 560 (compC w 166 [15] it acc loc fr [(⟨Zag⟩, cf), (⟨Zah⟩, cc)]) [(it, itO wl (t+1)), (wl, lsO ws nw), (acc, lsO (xs ++ [sv v vt]) (nx + 1)), (loc, dq11 w k0' v0'), (cc, cellO (.ref chl)), (cf, cellO (.ref fal)), (chl, lsO cs nc), (fal, lsO fs nf)] 0 rNx (fun x => [x.o 0, lsO ws nw, lsO out nn, dq11 w k0' (x.v 0), cellO (.ref chl), cellO (.ref fal), lsO cs nc, lsO fs nf]) oNl) : CS w os 560 (compC w 166 [15] it acc loc fr [(⟨Zag⟩, cf), (⟨Zah⟩, cc)]) [(it, itO wl t), (wl, lsO ws nw), (acc, lsO xs nx), (loc, dcE w []), (cc, cellO (.ref chl)), (cf, cellO (.ref fal)), (chl, lsO cs nc), (fal, lsO fs nf)] 0 rNx (fun x => [x.o 0, lsO ws nw, lsO out nn, dq11 w (x.a 0) (x.v 0), cellO (.ref chl), cellO (.ref fal), lsO cs nc, lsO fs nf]) oNl :=
  CB (orS isFor (isB ["list.__contains__","list.append","list_iterator.__next__"])) 30000 [1,1,4,4,4,5,7,7,7,4,3] (fun b0 t0 => vi (next_s (it := it) (l := wl) (i := t) (xs := ws) (n := nw) hv) [0,1] fun b1 t1 x1 => vx (h1) [6] fun _ => vj (append_s (l := acc) (xs := xs) (n := nx) (v := sv v vt) hx) [2] fun _ => vx (hX (sv v vt) (t1+1)) [0,1,2,3,4,5,6,7] fun x4 => finz [] (nth [(t1+1)]) (x4.o) (x4.v)) (by kernel_rfl)
theorem ld_F (it acc loc fr wl cc cf chl fal : Addr) (ws xs cs fs : List Value) (nw nx nc nf t : Nat) (v : List Nat) (vt : Nat) (hx : xs.length ≤ 100) (k0 : Nat) (v0 : Value) (hv : ws[t]? = some (sv v vt)) (h1 : CS w os 900 (.builtin "list.__contains__" ⟨[.ref chl, sv v vt], []⟩) [(chl, lsO cs nc)] 0 (fun _ => rOk (.bool false)) (fun _ => [lsO cs nc]) oNl) (h2 : CS w os 900 (.builtin "list.__contains__" ⟨[.ref fal, sv v vt], []⟩) [(fal, lsO fs nf)] 0 (fun _ => rOk (.bool true)) (fun _ => [lsO fs nf]) oNl) (out : List Value) (nn : Nat) (hX : ∀ (v0' : Value), CS w os 560 (compC w 166 [15] it acc loc fr [(⟨Zag⟩, cf), (⟨Zah⟩, cc)]) [(it, itO wl (t+1)), (wl, lsO ws nw), (acc, lsO (xs ++ [sv v vt]) (nx + 1)), (loc, dq11 w k0 v0'), (cc, cellO (.ref chl)), (cf, cellO (.ref fal)), (chl, lsO cs nc), (fal, lsO fs nf)] 0 rNx (fun x => [x.o 0, lsO ws nw, lsO out nn, dq11 w k0 (x.v 0), cellO (.ref chl), cellO (.ref fal), lsO cs nc, lsO fs nf]) oNl) : CS w os 560 (compC w 166 [15] it acc loc fr [(⟨Zag⟩, cf), (⟨Zah⟩, cc)]) [(it, itO wl t), (wl, lsO ws nw), (acc, lsO xs nx), (loc, dq11 w k0 v0), (cc, cellO (.ref chl)), (cf, cellO (.ref fal)), (chl, lsO cs nc), (fal, lsO fs nf)] 0 rNx (fun x => [x.o 0, lsO ws nw, lsO out nn, dq11 w k0 (x.v 0), cellO (.ref chl), cellO (.ref fal), lsO cs nc, lsO fs nf]) oNl :=
  CB (orS isFor (isB ["list.__contains__","list.append","list_iterator.__next__"])) 30000 [1,1,4,4,4,5,7,7,7,4,6,8,8,8,4,3] (fun b0 t0 => vj (next_s (it := it) (l := wl) (i := t) (xs := ws) (n := nw) hv) [0,1] fun _ => vx (h1) [6] fun _ => vx (h2) [7] fun _ => vj (append_s (l := acc) (xs := xs) (n := nx) (v := sv v vt) hx) [2] fun _ => vx (hX (sv v vt) ) [0,1,2,3,4,5,6,7] fun x5 => finz [] (fun j => j) (x5.o) (x5.v)) (by kernel_rfl)
theorem ld_Ff (it acc loc fr wl cc cf chl fal : Addr) (ws xs cs fs : List Value) (nw nx nc nf t : Nat) (v : List Nat) (vt : Nat) (hx : xs.length ≤ 100) (hv : ws[t]? = some (sv v vt)) (h1 : CS w os 900 (.builtin "list.__contains__" ⟨[.ref chl, sv v vt], []⟩) [(chl, lsO cs nc)] 0 (fun _ => rOk (.bool false)) (fun _ => [lsO cs nc]) oNl) (h2 : CS w os 900 (.builtin "list.__contains__" ⟨[.ref fal, sv v vt], []⟩) [(fal, lsO fs nf)] 0 (fun _ => rOk (.bool true)) (fun _ => [lsO fs nf]) oNl) (out : List Value) (nn : Nat) (hX : ∀ (v0' : Value) (k0' : Nat), CS w os 560 (compC w 166 [15] it acc loc fr [(⟨Zag⟩, cf), (⟨Zah⟩, cc)]) [(it, itO wl (t+1)), (wl, lsO ws nw), (acc, lsO (xs ++ [sv v vt]) (nx + 1)), (loc, dq11 w k0' v0'), (cc, cellO (.ref chl)), (cf, cellO (.ref fal)), (chl, lsO cs nc), (fal, lsO fs nf)] 0 rNx (fun x => [x.o 0, lsO ws nw, lsO out nn, dq11 w k0' (x.v 0), cellO (.ref chl), cellO (.ref fal), lsO cs nc, lsO fs nf]) oNl) : CS w os 560 (compC w 166 [15] it acc loc fr [(⟨Zag⟩, cf), (⟨Zah⟩, cc)]) [(it, itO wl t), (wl, lsO ws nw), (acc, lsO xs nx), (loc, dcE w []), (cc, cellO (.ref chl)), (cf, cellO (.ref fal)), (chl, lsO cs nc), (fal, lsO fs nf)] 0 rNx (fun x => [x.o 0, lsO ws nw, lsO out nn, dq11 w (x.a 0) (x.v 0), cellO (.ref chl), cellO (.ref fal), lsO cs nc, lsO fs nf]) oNl :=
  CB (orS isFor (isB ["list.__contains__","list.append","list_iterator.__next__"])) 30000 [1,1,4,4,4,5,7,7,7,4,6,8,8,8,4,3] (fun b0 t0 => vi (next_s (it := it) (l := wl) (i := t) (xs := ws) (n := nw) hv) [0,1] fun b1 t1 x1 => vx (h1) [6] fun _ => vx (h2) [7] fun _ => vj (append_s (l := acc) (xs := xs) (n := nx) (v := sv v vt) hx) [2] fun _ => vx (hX (sv v vt) (t1+1)) [0,1,2,3,4,5,6,7] fun x5 => finz [] (nth [(t1+1)]) (x5.o) (x5.v)) (by kernel_rfl)
theorem ld_N (it acc loc fr wl cc cf chl fal : Addr) (ws xs cs fs : List Value) (nw nx nc nf t : Nat) (v : List Nat) (vt : Nat) (hx : xs.length ≤ 100) (k0 : Nat) (v0 : Value) (hv : ws[t]? = some (sv v vt)) (h1 : CS w os 900 (.builtin "list.__contains__" ⟨[.ref chl, sv v vt], []⟩) [(chl, lsO cs nc)] 0 (fun _ => rOk (.bool false)) (fun _ => [lsO cs nc]) oNl) (h2 : CS w os 900 (.builtin "list.__contains__" ⟨[.ref fal, sv v vt], []⟩) [(fal, lsO fs nf)] 0 (fun _ => rOk (.bool false)) (fun _ => [lsO fs nf]) oNl) (out : List Value) (nn : Nat) (hX : ∀ (v0' : Value), CS w os 560 (compC w 166 [15] it acc loc fr [(⟨Zag⟩, cf), (⟨Zah⟩, cc)]) [(it, itO wl (t+1)), (wl, lsO ws nw), (acc, lsO xs nx), (loc, dq11 w k0 v0'), (cc, cellO (.ref chl)), (cf, cellO (.ref fal)), (chl, lsO cs nc), (fal, lsO fs nf)] 0 rNx (fun x => [x.o 0, lsO ws nw, lsO out nn, dq11 w k0 (x.v 0), cellO (.ref chl), cellO (.ref fal), lsO cs nc, lsO fs nf]) oNl) : CS w os 560 (compC w 166 [15] it acc loc fr [(⟨Zag⟩, cf), (⟨Zah⟩, cc)]) [(it, itO wl t), (wl, lsO ws nw), (acc, lsO xs nx), (loc, dq11 w k0 v0), (cc, cellO (.ref chl)), (cf, cellO (.ref fal)), (chl, lsO cs nc), (fal, lsO fs nf)] 0 rNx (fun x => [x.o 0, lsO ws nw, lsO out nn, dq11 w k0 (x.v 0), cellO (.ref chl), cellO (.ref fal), lsO cs nc, lsO fs nf]) oNl :=
  CB (orS isFor (isB ["list.__contains__","list.append","list_iterator.__next__"])) 30000 [1,1,4,4,4,5,7,7,7,4,6,8,8,8] (fun b0 t0 => vj (next_s (it := it) (l := wl) (i := t) (xs := ws) (n := nw) hv) [0,1] fun _ => vx (h1) [6] fun _ => vx (h2) [7] fun _ => vx (hX (sv v vt) ) [0,1,2,3,4,5,6,7] fun x4 => finz [] (fun j => j) (x4.o) (x4.v)) (by kernel_rfl)
theorem ld_Nf (it acc loc fr wl cc cf chl fal : Addr) (ws xs cs fs : List Value) (nw nx nc nf t : Nat) (v : List Nat) (vt : Nat) (hx : xs.length ≤ 100) (hv : ws[t]? = some (sv v vt)) (h1 : CS w os 900 (.builtin "list.__contains__" ⟨[.ref chl, sv v vt], []⟩) [(chl, lsO cs nc)] 0 (fun _ => rOk (.bool false)) (fun _ => [lsO cs nc]) oNl) (h2 : CS w os 900 (.builtin "list.__contains__" ⟨[.ref fal, sv v vt], []⟩) [(fal, lsO fs nf)] 0 (fun _ => rOk (.bool false)) (fun _ => [lsO fs nf]) oNl) (out : List Value) (nn : Nat) (hX : ∀ (v0' : Value) (k0' : Nat), CS w os 560 (compC w 166 [15] it acc loc fr [(⟨Zag⟩, cf), (⟨Zah⟩, cc)]) [(it, itO wl (t+1)), (wl, lsO ws nw), (acc, lsO xs nx), (loc, dq11 w k0' v0'), (cc, cellO (.ref chl)), (cf, cellO (.ref fal)), (chl, lsO cs nc), (fal, lsO fs nf)] 0 rNx (fun x => [x.o 0, lsO ws nw, lsO out nn, dq11 w k0' (x.v 0), cellO (.ref chl), cellO (.ref fal), lsO cs nc, lsO fs nf]) oNl) : CS w os 560 (compC w 166 [15] it acc loc fr [(⟨Zag⟩, cf), (⟨Zah⟩, cc)]) [(it, itO wl t), (wl, lsO ws nw), (acc, lsO xs nx), (loc, dcE w []), (cc, cellO (.ref chl)), (cf, cellO (.ref fal)), (chl, lsO cs nc), (fal, lsO fs nf)] 0 rNx (fun x => [x.o 0, lsO ws nw, lsO out nn, dq11 w (x.a 0) (x.v 0), cellO (.ref chl), cellO (.ref fal), lsO cs nc, lsO fs nf]) oNl :=
  CB (orS isFor (isB ["list.__contains__","list.append","list_iterator.__next__"])) 30000 [1,1,4,4,4,5,7,7,7,4,6,8,8,8] (fun b0 t0 => vi (next_s (it := it) (l := wl) (i := t) (xs := ws) (n := nw) hv) [0,1] fun b1 t1 x1 => vx (h1) [6] fun _ => vx (h2) [7] fun _ => vx (hX (sv v vt) (t1+1)) [0,1,2,3,4,5,6,7] fun x4 => finz [] (nth [(t1+1)]) (x4.o) (x4.v)) (by kernel_rfl)
theorem ld_end (it acc loc fr wl cc cf chl fal : Addr) (ws xs cs fs : List Value) (nw nx nc nf t : Nat) (hv : ws[t]? = none) (k0 : Nat) (v0 : Value) : CS w os 560 (compC w 166 [15] it acc loc fr [(⟨Zag⟩, cf), (⟨Zah⟩, cc)]) [(it, itO wl t), (wl, lsO ws nw), (acc, lsO xs nx), (loc, dq11 w k0 v0), (cc, cellO (.ref chl)), (cf, cellO (.ref fal)), (chl, lsO cs nc), (fal, lsO fs nf)] 0 rNx (fun x => [x.o 0, lsO ws nw, lsO xs nx, dq11 w k0 (x.v 0), cellO (.ref chl), cellO (.ref fal), lsO cs nc, lsO fs nf]) oNl :=
  CB (orS isFor (isB ["list_iterator.__next__"])) 30000 [1,1,10] (fun b0 t0 => vj (nextE_s (it := it) (l := wl) (i := t) (xs := ws) (n := nw) hv) [0,1] fun _ => finz [] (nth []) (fun _ => itE t) (fun _ => v0)) (by kernel_rfl)
theorem lm_F (it acc loc fr cw cb wl bl : Addr) (ws bs xs : List Value) (nw nb nx t m : Nat) (v : Value) (z : Int) (zt : Nat) (hx : xs.length ≤ 100) (k0 : Nat) (v0 : Value) (hv : ws[t]? = some v) (hz : bs[t]? = some (.int z zt)) (ht : t < 1000) (he : (z == 1) = false) (out : List Value) (nn : Nat) (hX : ∀ (v0' : Value), CS w os 560 (compC w 166 [9] it acc loc fr [(⟨Zae⟩, cw), (⟨Zai⟩, cb)]) [(it, rgI (iN (t+1)) (iN m)), (acc, lsO xs nx), (loc, dq10 w k0 v0'), (cw, cellO (.ref wl)), (cb, cellO (.ref bl)), (wl, lsO ws nw), (bl, lsO bs nb)] 0 rNx (fun x => [x.o 0, lsO out nn, dq10 w k0 (x.v 0), cellO (.ref wl), cellO (.ref bl), lsO ws nw, lsO bs nb]) oNl) : CS w os 560 (compC w 166 [9] it acc loc fr [(⟨Zae⟩, cw), (⟨Zai⟩, cb)]) [(it, rgI (iN t) (iN (m+1))), (acc, lsO xs nx), (loc, dq10 w k0 v0), (cw, cellO (.ref wl)), (cb, cellO (.ref bl)), (wl, lsO ws nw), (bl, lsO bs nb)] 0 rNx (fun x => [x.o 0, lsO out nn, dq10 w k0 (x.v 0), cellO (.ref wl), cellO (.ref bl), lsO ws nw, lsO bs nb]) oNl :=
  CB (orS isFor (isB ["list.__getitem__","list.append","int.__eq__"])) 30000 [1,1,1,1,1,1,1,1,1000001,3,3,5,3,7,7,7,7] (fun b0 t0 => rwv 0 1 (rgN t m) (rgI (iN (t+1)) (iN m)) (rgI_next t m) <| vi (getS (l := bl) (i := t) (u := (t0+1)) (xs := bs) (n := nb) hz ht) [6] fun b1 t1 x1 => vj (eqI (m := z) (n := 1) (u := zt) (v := (t1+1)) he) [] fun _ => vx (hX ((PySem.Value.int (iN (t)) (t0+1))) ) [0,1,2,3,4,5,6] fun x3 => finz [] (fun j => j) (x3.o) (x3.v)) (by kernel_rfl)
theorem lm_Ff (it acc loc fr cw cb wl bl : Addr) (ws bs xs : List Value) (nw nb nx t m : Nat) (v : Value) (z : Int) (zt : Nat) (hx : xs.length ≤ 100) (hv : ws[t]? = some v) (hz : bs[t]? = some (.int z zt)) (ht : t < 1000) (he : (z == 1) = false) (out : List Value) (nn : Nat) (hX : ∀ (v0' : Value) (k0' : Nat), CS w os 560 (compC w 166 [9] it acc loc fr [(⟨Zae⟩, cw), (⟨Zai⟩, cb)]) [(it, rgI (iN (t+1)) (iN m)), (acc, lsO xs nx), (loc, dq10 w k0' v0'), (cw, cellO (.ref wl)), (cb, cellO (.ref bl)), (wl, lsO ws nw), (bl, lsO bs nb)] 0 rNx (fun x => [x.o 0, lsO out nn, dq10 w k0' (x.v 0), cellO (.ref wl), cellO (.ref bl), lsO ws nw, lsO bs nb]) oNl) : CS w os 560 (compC w 166 [9] it acc loc fr [(⟨Zae⟩, cw), (⟨Zai⟩, cb)]) [(it, rgI (iN t) (iN (m+1))), (acc, lsO xs nx), (loc, dcE w []), (cw, cellO (.ref wl)), (cb, cellO (.ref bl)), (wl, lsO ws nw), (bl, lsO bs nb)] 0 rNx (fun x => [x.o 0, lsO out nn, dq10 w (x.a 0) (x.v 0), cellO (.ref wl), cellO (.ref bl), lsO ws nw, lsO bs nb]) oNl :=
  CB (orS isFor (isB ["list.__getitem__","list.append","int.__eq__"])) 30000 [1,1,1,1,1,1,1,1,1000001,3,3,5,3,7,7,7,7] (fun b0 t0 => rwv 0 1 (rgN t m) (rgI (iN (t+1)) (iN m)) (rgI_next t m) <| vi (getS (l := bl) (i := t) (u := (t0+1)) (xs := bs) (n := nb) hz ht) [6] fun b1 t1 x1 => vj (eqI (m := z) (n := 1) (u := zt) (v := (t1+1)) he) [] fun _ => vx (hX ((PySem.Value.int (iN (t)) (t0+1))) (t0+2)) [0,1,2,3,4,5,6] fun x3 => finz [] (nth [(t0+2)]) (x3.o) (x3.v)) (by kernel_rfl)
theorem lm_T (it acc loc fr cw cb wl bl : Addr) (ws bs xs : List Value) (nw nb nx t m : Nat) (v : Value) (z : Int) (zt : Nat) (hx : xs.length ≤ 100) (k0 : Nat) (v0 : Value) (hv : ws[t]? = some v) (hz : bs[t]? = some (.int z zt)) (ht : t < 1000) (he : (z == 1) = true) (out : List Value) (nn : Nat) (hX : ∀ (v0' : Value), CS w os 560 (compC w 166 [9] it acc loc fr [(⟨Zae⟩, cw), (⟨Zai⟩, cb)]) [(it, rgI (iN (t+1)) (iN m)), (acc, lsO (xs ++ [v]) (nx + 1)), (loc, dq10 w k0 v0'), (cw, cellO (.ref wl)), (cb, cellO (.ref bl)), (wl, lsO ws nw), (bl, lsO bs nb)] 0 rNx (fun x => [x.o 0, lsO out nn, dq10 w k0 (x.v 0), cellO (.ref wl), cellO (.ref bl), lsO ws nw, lsO bs nb]) oNl) : CS w os 560 (compC w 166 [9] it acc loc fr [(⟨Zae⟩, cw), (⟨Zai⟩, cb)]) [(it, rgI (iN t) (iN (m+1))), (acc, lsO xs nx), (loc, dq10 w k0 v0), (cw, cellO (.ref wl)), (cb, cellO (.ref bl)), (wl, lsO ws nw), (bl, lsO bs nb)] 0 rNx (fun x => [x.o 0, lsO out nn, dq10 w k0 (x.v 0), cellO (.ref wl), cellO (.ref bl), lsO ws nw, lsO bs nb]) oNl :=
  CB (orS isFor (isB ["list.__getitem__","list.append","int.__eq__"])) 30000 oq15 (fun b0 t0 => rwv 0 1 (rgN t m) (rgI (iN (t+1)) (iN m)) (rgI_next t m) <| vi (getS (l := bl) (i := t) (u := (t0+1)) (xs := bs) (n := nb) hz ht) [6] fun b1 t1 x1 => vj (eqI (m := z) (n := 1) (u := zt) (v := (t1+1)) he) [] fun _ => vj (getS (l := wl) (i := t) (u := (t0+1)) (xs := ws) (n := nw) hv ht) [5] fun _ => vj (append_s (l := acc) (xs := xs) (n := nx) (v := v) hx) [1] fun _ => vx (hX ((PySem.Value.int (iN (t)) (t0+1))) ) [0,1,2,3,4,5,6] fun x5 => finz [] (fun j => j) (x5.o) (x5.v)) (by kernel_rfl)
theorem lm_Tf (it acc loc fr cw cb wl bl : Addr) (ws bs xs : List Value) (nw nb nx t m : Nat) (v : Value) (z : Int) (zt : Nat) (hx : xs.length ≤ 100) (hv : ws[t]? = some v) (hz : bs[t]? = some (.int z zt)) (ht : t < 1000) (he : (z == 1) = true) (out : List Value) (nn : Nat) (hX : ∀ (v0' : Value) (k0' : Nat), CS w os 560 (compC w 166 [9] it acc loc fr [(⟨Zae⟩, cw), (⟨Zai⟩, cb)]) [(it, rgI (iN (t+1)) (iN m)), (acc, lsO (xs ++ [v]) (nx + 1)), (loc, dq10 w k0' v0'), (cw, cellO (.ref wl)), (cb, cellO (.ref bl)), (wl, lsO ws nw), (bl, lsO bs nb)] 0 rNx (fun x => [x.o 0, lsO out nn, dq10 w k0' (x.v 0), cellO (.ref wl), cellO (.ref bl), lsO ws nw, lsO bs nb]) oNl) : CS w os 560 (compC w 166 [9] it acc loc fr [(⟨Zae⟩, cw), (⟨Zai⟩, cb)]) [(it, rgI (iN t) (iN (m+1))), (acc, lsO xs nx), (loc, dcE w []), (cw, cellO (.ref wl)), (cb, cellO (.ref bl)), (wl, lsO ws nw), (bl, lsO bs nb)] 0 rNx (fun x => [x.o 0, lsO out nn, dq10 w (x.a 0) (x.v 0), cellO (.ref wl), cellO (.ref bl), lsO ws nw, lsO bs nb]) oNl :=
  CB (orS isFor (isB ["list.__getitem__","list.append","int.__eq__"])) 30000 oq15 (fun b0 t0 => rwv 0 1 (rgN t m) (rgI (iN (t+1)) (iN m)) (rgI_next t m) <| vi (getS (l := bl) (i := t) (u := (t0+1)) (xs := bs) (n := nb) hz ht) [6] fun b1 t1 x1 => vj (eqI (m := z) (n := 1) (u := zt) (v := (t1+1)) he) [] fun _ => vj (getS (l := wl) (i := t) (u := (t0+1)) (xs := ws) (n := nw) hv ht) [5] fun _ => vj (append_s (l := acc) (xs := xs) (n := nx) (v := v) hx) [1] fun _ => vx (hX ((PySem.Value.int (iN (t)) (t0+1))) (t0+2)) [0,1,2,3,4,5,6] fun x5 => finz [] (nth [(t0+2)]) (x5.o) (x5.v)) (by kernel_rfl)
theorem lm_end (it acc loc fr cw cb wl bl : Addr) (ws xs : List Value) (nw nx : Nat) (bs : List Value) (nb : Nat) (k : Int) (k0 : Nat) (v0 : Value) : CS w os 560 (compC w 166 [9] it acc loc fr [(⟨Zae⟩, cw), (⟨Zai⟩, cb)]) [(it, rgI k 0), (acc, lsO xs nx), (loc, dq10 w k0 v0), (cw, cellO (.ref wl)), (cb, cellO (.ref bl)), (wl, lsO ws nw), (bl, lsO bs nb)] 0 rNx (fun x => [x.o 0, lsO xs nx, dq10 w k0 (x.v 0), cellO (.ref wl), cellO (.ref bl), lsO ws nw, lsO bs nb]) oNl :=
  CB (isFor) 30000 [1,1,1,1,1,9] (fun b0 t0 => finz [] (nth []) (fun _ => rgI k 0) (fun _ => v0)) (by kernel_rfl)
theorem lost_b (mi md st pb wl td : Addr) (ln : Value) (ν τ : Nat → Nat) (n : Nat) (od : Obj) (out : List Value) (nn : Nat) (hT : ∀ (it fr k0 k1 k2 k3 : Nat) (v3 : Value), CS w os 440 (cL240 w it fr) (machIns w mi md pb st ln ν [sv [97,98,99] (τ 0),sv [65,98,99] (τ 1),sv [97,66,99] (τ 2),sv [65,66,99] (τ 3),sv [97,98,67] (τ 4),sv [65,98,67] (τ 5),sv [97,66,67] (τ 6),sv [65,66,67] (τ 7)] (n + 8) ++ [(td, od), (fr, fq12 w k0 (.ref mi) k1 (.ref wl) k2 (.ref td) k3 v3), (it, rgI (iN 0) (iN 8))]) 0 rNx (fun x => machOut w md pb st ln ν out nn ++ [od, fq7 w k0 (.ref mi) k1 (.ref wl) k2 (.ref td) k3 (x.v 0) (x.a 0) (x.v 1) (x.a 1) (x.v 2) (x.a 2) (x.v 3) (x.a 3) (x.v 4) (x.a 4) (x.v 5), x.o 0]) oNl) (n2 m2 : Nat) (hW : ∀ (fr ll k0 k1 k2 k3 k4 k5 k6 k7 k8 k9 : Nat) (v3 v4 v5 v6 v7 v8 : Value), CS w os 440 (cL253 w fr) (machIns w mi md pb st ln ν out nn ++ [(fr, fq13 w k0 (.ref mi) k1 (.ref wl) k2 (.ref td) k3 v3 k4 v4 k5 v5 k6 v6 k7 v7 k8 v8 k9 (.ref ll)), (ll, lsO [] 0)]) 0 rNx (fun _ => machOut w md pb st ln ν [] n2 ++ [fq13 w k0 (.ref mi) k1 (.ref wl) k2 (.ref td) k3 v3 k4 v4 k5 v5 k6 v6 k7 v7 k8 v8 k9 (.ref ll), lsO out m2]) oNl) : CS w os 430 (.call (.ref 149) ⟨[.ref mi, .ref wl, .ref td], []⟩) (machIns w mi md pb st ln ν [] n ++ [(wl, wordsO τ), (td, od)]) 1 (fun x => rOk (.ref (x.a 0))) (fun _ => machOut w md pb st ln ν [] n2 ++ [wordsO τ, od]) (fun x => [lsO out m2]) :=
  CB (orS (isForAt [240,253]) (isCallTo [78,85])) 30000 [1,0,6,6,6,6,6,6,6,4,4,4,7,7,7,7,7,4,7,7,6,6,6,1,0,0,0,1,0,0,0,1,0,0,0,0,1,2,6,0,7,7,7,7,4,7,7,6,6,6,1,0,0,0,1,0,0,0,1,0,0,0,0,1,2,6,0,7,7,7,7,4,7,7,6,6,6,1,0,0,0,1,0,0,0,1,0,0,0,0,1,2,6,0,7,7,7,7,4,7,7,6,6,6,1,0,0,0,1,0,0,0,1,0,0,0,0,1,2,6,0,7,7,7,7,4,7,7,6,6,6,1,0,0,0,1,0,0,0,1,0,0,0,0,1,2,6,0,7,7,7,7,4,7,7,6,6,6,1,0,0,0,1,0,0,0,1,0,0,0,0,1,2,6,0,7,7,7,7,4,7,7,6,6,6,1,0,0,0,1,0,0,0,1,0,0,0,0,1,2,6,0,7,7,7,7,4,7,7,6,6,6,1,0,0,0,1,0,0,0,1,0,0,0,0,1,2,6,0,7,7,7,7,4,7,7,9,0,0,0,0,6,4,4,4,10,10,10,10,10,10,10,10,10,10,11,6,6,6] (fun b0 t0 => vx (push_g w os mi md st pb ln ν [] (n + 0) ⟨#[97,98,99]⟩ (τ 0) (by simp)) [0,1,2] fun _ => vx (push_g w os mi md st pb ln ν [sv [97,98,99] (τ 0)] (n + 1) ⟨#[65,98,99]⟩ (τ 1) (by simp)) [0,1,2] fun _ => vx (push_g w os mi md st pb ln ν [sv [97,98,99] (τ 0),sv [65,98,99] (τ 1)] (n + 2) ⟨#[97,66,99]⟩ (τ 2) (by simp)) [0,1,2] fun _ => vx (push_g w os mi md st pb ln ν [sv [97,98,99] (τ 0),sv [65,98,99] (τ 1),sv [97,66,99] (τ 2)] (n + 3) ⟨#[65,66,99]⟩ (τ 3) (by simp)) [0,1,2] fun _ => vx (push_g w os mi md st pb ln ν [sv [97,98,99] (τ 0),sv [65,98,99] (τ 1),sv [97,66,99] (τ 2),sv [65,66,99] (τ 3)] (n + 4) ⟨#[97,98,67]⟩ (τ 4) (by simp)) [0,1,2] fun _ => vx (push_g w os mi md st pb ln ν [sv [97,98,99] (τ 0),sv [65,98,99] (τ 1),sv [97,66,99] (τ 2),sv [65,66,99] (τ 3),sv [97,98,67] (τ 4)] (n + 5) ⟨#[65,98,67]⟩ (τ 5) (by simp)) [0,1,2] fun _ => vx (push_g w os mi md st pb ln ν [sv [97,98,99] (τ 0),sv [65,98,99] (τ 1),sv [97,66,99] (τ 2),sv [65,66,99] (τ 3),sv [97,98,67] (τ 4),sv [65,98,67] (τ 5)] (n + 6) ⟨#[97,66,67]⟩ (τ 6) (by simp)) [0,1,2] fun _ => via (push_g w os mi md st pb ln ν [sv [97,98,99] (τ 0),sv [65,98,99] (τ 1),sv [97,66,99] (τ 2),sv [65,66,99] (τ 3),sv [97,98,67] (τ 4),sv [65,98,67] (τ 5),sv [97,66,67] (τ 6)] (n + 7) ⟨#[65,66,67]⟩ (τ 7) (by simp)) [0,1,2] fun b8 t8 x8 => via (hT (b8+3) (b0+0) (t0+1) (t0+2) (t0+3) (t0+4) (sv [65,66,67] (τ 7))) [0,1,2,4,5,10] fun b9 t9 x9 => vx (hW (b0+0) (b9+0) (t0+1) (t0+2) (t0+3) (t0+4) (x9.a 0) (x9.a 1) (x9.a 2) (x9.a 3) (x9.a 4) (t9+1) (x9.v 0) (x9.v 1) (x9.v 2) (x9.v 3) (x9.v 4) (x9.v 5)) [0,1,2,5,11] fun _ => fin [11] []) (by kernel_rfl)
theorem lt_bad (mi md st pb wl td fr it : Addr) (ln : Value) (ν : Nat → Nat) (n : Nat) (od : Obj) (xs : List Value) (c0 c1 c2 u : Nat) (hx : xs.length ≤ 100) (t m : Nat) (k0 k1 k2 k3 k4 k5 k6 k7 k8 : Nat) (v3 v4 v5 v6 v7 v8 : Value) (r : Nat) (q : Nat) (hK : ∀ (it t5 t6 : Nat) (v4 v7 v8 : Value), CS w os 600 (cL244 w it fr) [(fr, fq7 w k0 (.ref mi) k1 (.ref wl) k2 (.ref td) k3 (sv [c0,c1,c2] u) k4 v4 k5 (.int 0 t5) k6 (.int 0 t6) k7 v7 k8 v8), (td, od), (it, rgI 0 3)] 0 rNx (fun x => [fq7 w k0 (.ref mi) k1 (.ref wl) k2 (.ref td) k3 (sv [c0,c1,c2] u) k4 v4 k5 (.int (iN (r+1)) (x.a 0)) k6 (.int (iN (q+1)) (x.a 1)) k7 (x.v 0) k8 (x.v 1), od, x.o 0]) oNl) (out : List Value) (nn : Nat) (hN : ∀ (v3 v4 v5 v6 v7 v8 : Value), CS w os 440 (cL240 w it fr) (machIns w mi md pb st ln ν (xs ++ [sv [c0,c1,c2] u]) (n + 1 + 1) ++ [(td, od), (fr, fq7 w k0 (.ref mi) k1 (.ref wl) k2 (.ref td) k3 v3 k4 v4 k5 v5 k6 v6 k7 v7 k8 v8), (it, rgI (iN (t+1)) (iN m))]) 0 rNx (fun x => machOut w md pb st ln ν out nn ++ [od, fq7 w k0 (.ref mi) k1 (.ref wl) k2 (.ref td) k3 (x.v 0) k4 (x.v 1) k5 (x.v 2) k6 (x.v 3) k7 (x.v 4) k8 (x.v 5), x.o 0]) oNl) : CS w os 440 (cL240 w it fr) (machIns w mi md pb st ln ν (sv [c0,c1,c2] u :: xs) n ++ [(td, od), (fr, fq7 w k0 (.ref mi) k1 (.ref wl) k2 (.ref td) k3 v3 k4 v4 k5 v5 k6 v6 k7 v7 k8 v8), (it, rgI (iN t) (iN (m+1)))]) 0 rNx (fun x => machOut w md pb st ln ν out nn ++ [od, fq7 w k0 (.ref mi) k1 (.ref wl) k2 (.ref td) k3 (x.v 0) k4 (x.v 1) k5 (x.v 2) k6 (x.v 3) k7 (x.v 4) k8 (x.v 5), x.o 0]) oNl :=
  CB (orS (isForAt [240,244]) (orS (isCallTo [78,85]) (isB ["int.__gt__"]))) 30000 oq16 (fun b0 t0 => rwv 5 1 (rgN t m) (rgI (iN (t+1)) (iN m)) (rgI_next t m) <| via (get_g w os mi md st pb ln ν xs n ⟨#[c0,c1,c2]⟩ u hx) [0,1,2] fun b1 t1 x1 => via (hK (b1+1) (t1+2) (t1+4) (.int (iN t) (t0+1)) v7 v8) [4,3,7] fun b2 t2 x2 => vj (gtI (m := iN (q+1)) (n := 0) (u := (x2.a 1)) (v := (t2+2)) (b := true) (by simp)) [] fun _ => vx (push_g w os mi md st pb ln ν xs (n+1) ⟨#[c0,c1,c2]⟩ u hx) [0,1,2] fun _ => vx (hN (sv [c0,c1,c2] u) (.int (iN t) (t0+1)) (.int (iN (r+1)) (x2.a 0)) (.int (iN (q+1)) (x2.a 1)) (x2.v 0) (x2.v 1)) [0,1,2,3,4,5] fun x5 => finz [] (fun j => j) (x5.o) (x5.v)) (by kernel_rfl)
theorem lt_badf (mi md st pb wl td fr it : Addr) (ln : Value) (ν : Nat → Nat) (n : Nat) (od : Obj) (xs : List Value) (c0 c1 c2 u : Nat) (hx : xs.length ≤ 100) (t m : Nat) (k0 k1 k2 k3 : Nat) (v3 : Value) (r : Nat) (q : Nat) (hK : ∀ (it t5 t6 k4 k5 k6 : Nat) (v4 : Value), CS w os 600 (cL244 w it fr) [(fr, fq8 w k0 (.ref mi) k1 (.ref wl) k2 (.ref td) k3 (sv [c0,c1,c2] u) k4 v4 k5 (.int 0 t5) k6 (.int 0 t6)), (td, od), (it, rgI 0 3)] 0 rNx (fun x => [fq7 w k0 (.ref mi) k1 (.ref wl) k2 (.ref td) k3 (sv [c0,c1,c2] u) k4 v4 k5 (.int (iN (r+1)) (x.a 0)) k6 (.int (iN (q+1)) (x.a 1)) (x.a 2) (x.v 0) (x.a 3) (x.v 1), od, x.o 0]) oNl) (out : List Value) (nn : Nat) (hN : ∀ (k4 k5 k6 k7 k8 : Nat) (v3 v4 v5 v6 v7 v8 : Value), CS w os 440 (cL240 w it fr) (machIns w mi md pb st ln ν (xs ++ [sv [c0,c1,c2] u]) (n + 1 + 1) ++ [(td, od), (fr, fq7 w k0 (.ref mi) k1 (.ref wl) k2 (.ref td) k3 v3 k4 v4 k5 v5 k6 v6 k7 v7 k8 v8), (it, rgI (iN (t+1)) (iN m))]) 0 rNx (fun x => machOut w md pb st ln ν out nn ++ [od, fq7 w k0 (.ref mi) k1 (.ref wl) k2 (.ref td) k3 (x.v 0) k4 (x.v 1) k5 (x.v 2) k6 (x.v 3) k7 (x.v 4) k8 (x.v 5), x.o 0]) oNl) : CS w os 440 (cL240 w it fr) (machIns w mi md pb st ln ν (sv [c0,c1,c2] u :: xs) n ++ [(td, od), (fr, fq12 w k0 (.ref mi) k1 (.ref wl) k2 (.ref td) k3 v3), (it, rgI (iN t) (iN (m+1)))]) 0 rNx (fun x => machOut w md pb st ln ν out nn ++ [od, fq7 w k0 (.ref mi) k1 (.ref wl) k2 (.ref td) k3 (x.v 0) (x.a 0) (x.v 1) (x.a 1) (x.v 2) (x.a 2) (x.v 3) (x.a 3) (x.v 4) (x.a 4) (x.v 5), x.o 0]) oNl :=
  CB (orS (isForAt [240,244]) (orS (isCallTo [78,85]) (isB ["int.__gt__"]))) 30000 oq16 (fun b0 t0 => rwv 5 1 (rgN t m) (rgI (iN (t+1)) (iN m)) (rgI_next t m) <| via (get_g w os mi md st pb ln ν xs n ⟨#[c0,c1,c2]⟩ u hx) [0,1,2] fun b1 t1 x1 => via (hK (b1+1) (t1+2) (t1+4) (t0+2) (t1+3) (t1+5) (.int (iN t) (t0+1))) [4,3,7] fun b2 t2 x2 => vj (gtI (m := iN (q+1)) (n := 0) (u := (x2.a 1)) (v := (t2+2)) (b := true) (by simp)) [] fun _ => vx (push_g w os mi md st pb ln ν xs (n+1) ⟨#[c0,c1,c2]⟩ u hx) [0,1,2] fun _ => vx (hN (t0+2) (t1+3) (t1+5) (x2.a 2) (x2.a 3) (sv [c0,c1,c2] u) (.int (iN t) (t0+1)) (.int (iN (r+1)) (x2.a 0)) (.int (iN (q+1)) (x2.a 1)) (x2.v 0) (x2.v 1)) [0,1,2,3,4,5] fun x5 => finz [] (nth [(t0+2), (t1+3), (t1+5), (x2.a 2), (x2.a 3)]) (x5.o) (x5.v)) (by kernel_rfl)
theorem lt_endF (mi md st pb wl td fr it : Addr) (ln : Value) (ν : Nat → Nat) (n : Nat) (od : Obj) (xs : List Value) (k0 k1 k2 k3 k4 k5 k6 k7 k8 : Nat) (v3 v4 v5 v6 v7 v8 : Value) (k : Int) : CS w os 440 (cL240 w it fr) (machIns w mi md pb st ln ν xs n ++ [(td, od), (fr, fq7 w k0 (.ref mi) k1 (.ref wl) k2 (.ref td) k3 v3 k4 v4 k5 v5 k6 v6 k7 v7 k8 v8), (it, rgI k 0)]) 0 rNx (fun x => machOut w md pb st ln ν xs n ++ [od, fq7 w k0 (.ref mi) k1 (.ref wl) k2 (.ref td) k3 (x.v 0) k4 (x.v 1) k5 (x.v 2) k6 (x.v 3) k7 (x.v 4) k8 (x.v 5), x.o 0]) oNl :=
  CB (noStop) 30000 [6,6,6,6,6,8] (fun b0 t0 => finz [] (fun j => j) (fun _ => rgI k 0) (fun j => match j with | 0 => v3 | 1 => v4 | 2 => v5 | 3 => v6 | 4 => v7 | _ => v8)) (by kernel_rfl)
theorem lt_none (mi md st pb wl td fr it : Addr) (ln : Value) (ν : Nat → Nat) (n : Nat) (od : Obj) (xs : List Value) (c0 c1 c2 u : Nat) (hx : xs.length ≤ 100) (t m : Nat) (k0 k1 k2 k3 k4 k5 k6 k7 k8 : Nat) (v3 v4 v5 v6 v7 v8 : Value) (q : Nat) (hK : ∀ (it t5 t6 : Nat) (v4 v7 v8 : Value), CS w os 600 (cL244 w it fr) [(fr, fq7 w k0 (.ref mi) k1 (.ref wl) k2 (.ref td) k3 (sv [c0,c1,c2] u) k4 v4 k5 (.int 0 t5) k6 (.int 0 t6) k7 v7 k8 v8), (td, od), (it, rgI 0 3)] 0 rNx (fun x => [fq7 w k0 (.ref mi) k1 (.ref wl) k2 (.ref td) k3 (sv [c0,c1,c2] u) k4 v4 k5 (.int (iN 0) (x.a 0)) k6 (.int (iN q) (x.a 1)) k7 (x.v 0) k8 (x.v 1), od, x.o 0]) oNl) (out : List Value) (nn : Nat) (hN : ∀ (v3 v4 v5 v6 v7 v8 : Value), CS w os 440 (cL240 w it fr) (machIns w mi md pb st ln ν (xs ++ [sv [c0,c1,c2] u]) (n + 1 + 1) ++ [(td, od), (fr, fq7 w k0 (.ref mi) k1 (.ref wl) k2 (.ref td) k3 v3 k4 v4 k5 v5 k6 v6 k7 v7 k8 v8), (it, rgI (iN (t+1)) (iN m))]) 0 rNx (fun x => machOut w md pb st ln ν out nn ++ [od, fq7 w k0 (.ref mi) k1 (.ref wl) k2 (.ref td) k3 (x.v 0) k4 (x.v 1) k5 (x.v 2) k6 (x.v 3) k7 (x.v 4) k8 (x.v 5), x.o 0]) oNl) : CS w os 440 (cL240 w it fr) (machIns w mi md pb st ln ν (sv [c0,c1,c2] u :: xs) n ++ [(td, od), (fr, fq7 w k0 (.ref mi) k1 (.ref wl) k2 (.ref td) k3 v3 k4 v4 k5 v5 k6 v6 k7 v7 k8 v8), (it, rgI (iN t) (iN (m+1)))]) 0 rNx (fun x => machOut w md pb st ln ν out nn ++ [od, fq7 w k0 (.ref mi) k1 (.ref wl) k2 (.ref td) k3 (x.v 0) k4 (x.v 1) k5 (x.v 2) k6 (x.v 3) k7 (x.v 4) k8 (x.v 5), x.o 0]) oNl :=
  CB (orS (isForAt [240,244]) (orS (isCallTo [78,85]) (isB ["int.__gt__"]))) 30000 oq17 (fun b0 t0 => rwv 5 1 (rgN t m) (rgI (iN (t+1)) (iN m)) (rgI_next t m) <| via (get_g w os mi md st pb ln ν xs n ⟨#[c0,c1,c2]⟩ u hx) [0,1,2] fun b1 t1 x1 => vx (hK (b1+1) (t1+2) (t1+4) (.int (iN t) (t0+1)) v7 v8) [4,3,7] fun x2 => vx (push_g w os mi md st pb ln ν xs (n+1) ⟨#[c0,c1,c2]⟩ u hx) [0,1,2] fun _ => vx (hN (sv [c0,c1,c2] u) (.int (iN t) (t0+1)) (.int (iN 0) (x2.a 0)) (.int (iN q) (x2.a 1)) (x2.v 0) (x2.v 1)) [0,1,2,3,4,5] fun x4 => finz [] (fun j => j) (x4.o) (x4.v)) (by kernel_rfl)
theorem lt_nonef (mi md st pb wl td fr it : Addr) (ln : Value) (ν : Nat → Nat) (n : Nat) (od : Obj) (xs : List Value) (c0 c1 c2 u : Nat) (hx : xs.length ≤ 100) (t m : Nat) (k0 k1 k2 k3 : Nat) (v3 : Value) (q : Nat) (hK : ∀ (it t5 t6 k4 k5 k6 : Nat) (v4 : Value), CS w os 600 (cL244 w it fr) [(fr, fq8 w k0 (.ref mi) k1 (.ref wl) k2 (.ref td) k3 (sv [c0,c1,c2] u) k4 v4 k5 (.int 0 t5) k6 (.int 0 t6)), (td, od), (it, rgI 0 3)] 0 rNx (fun x => [fq7 w k0 (.ref mi) k1 (.ref wl) k2 (.ref td) k3 (sv [c0,c1,c2] u) k4 v4 k5 (.int (iN 0) (x.a 0)) k6 (.int (iN q) (x.a 1)) (x.a 2) (x.v 0) (x.a 3) (x.v 1), od, x.o 0]) oNl) (out : List Value) (nn : Nat) (hN : ∀ (k4 k5 k6 k7 k8 : Nat) (v3 v4 v5 v6 v7 v8 : Value), CS w os 440 (cL240 w it fr) (machIns w mi md pb st ln ν (xs ++ [sv [c0,c1,c2] u]) (n + 1 + 1) ++ [(td, od), (fr, fq7 w k0 (.ref mi) k1 (.ref wl) k2 (.ref td) k3 v3 k4 v4 k5 v5 k6 v6 k7 v7 k8 v8), (it, rgI (iN (t+1)) (iN m))]) 0 rNx (fun x => machOut w md pb st ln ν out nn ++ [od, fq7 w k0 (.ref mi) k1 (.ref wl) k2 (.ref td) k3 (x.v 0) k4 (x.v 1) k5 (x.v 2) k6 (x.v 3) k7 (x.v 4) k8 (x.v 5), x.o 0]) oNl) : CS w os 440 (cL240 w it fr) (machIns w mi md pb st ln ν (sv [c0,c1,c2] u :: xs) n ++ [(td, od), (fr, fq12 w k0 (.ref mi) k1 (.ref wl) k2 (.ref td) k3 v3), (it, rgI (iN t) (iN (m+1)))]) 0 rNx (fun x => machOut w md pb st ln ν out nn ++ [od, fq7 w k0 (.ref mi) k1 (.ref wl) k2 (.ref td) k3 (x.v 0) (x.a 0) (x.v 1) (x.a 1) (x.v 2) (x.a 2) (x.v 3) (x.a 3) (x.v 4) (x.a 4) (x.v 5), x.o 0]) oNl :=
  CB (orS (isForAt [240,244]) (orS (isCallTo [78,85]) (isB ["int.__gt__"]))) 30000 oq17 (fun b0 t0 => rwv 5 1 (rgN t m) (rgI (iN (t+1)) (iN m)) (rgI_next t m) <| via (get_g w os mi md st pb ln ν xs n ⟨#[c0,c1,c2]⟩ u hx) [0,1,2] fun b1 t1 x1 => vx (hK (b1+1) (t1+2) (t1+4) (t0+2) (t1+3) (t1+5) (.int (iN t) (t0+1))) [4,3,7] fun x2 => vx (push_g w os mi md st pb ln ν xs (n+1) ⟨#[c0,c1,c2]⟩ u hx) [0,1,2] fun _ => vx (hN (t0+2) (t1+3) (t1+5) (x2.a 2) (x2.a 3) (sv [c0,c1,c2] u) (.int (iN t) (t0+1)) (.int (iN 0) (x2.a 0)) (.int (iN q) (x2.a 1)) (x2.v 0) (x2.v 1)) [0,1,2,3,4,5] fun x4 => finz [] (nth [(t0+2), (t1+3), (t1+5), (x2.a 2), (x2.a 3)]) (x4.o) (x4.v)) (by kernel_rfl)
theorem lt_ok (mi md st pb wl td fr it : Addr) (ln : Value) (ν : Nat → Nat) (n : Nat) (od : Obj) (xs : List Value) (c0 c1 c2 u : Nat) (hx : xs.length ≤ 100) (t m : Nat) (k0 k1 k2 k3 k4 k5 k6 k7 k8 : Nat) (v3 v4 v5 v6 v7 v8 : Value) (r : Nat) (hK : ∀ (it t5 t6 : Nat) (v4 v7 v8 : Value), CS w os 600 (cL244 w it fr) [(fr, fq7 w k0 (.ref mi) k1 (.ref wl) k2 (.ref td) k3 (sv [c0,c1,c2] u) k4 v4 k5 (.int 0 t5) k6 (.int 0 t6) k7 v7 k8 v8), (td, od), (it, rgI 0 3)] 0 rNx (fun x => [fq7 w k0 (.ref mi) k1 (.ref wl) k2 (.ref td) k3 (sv [c0,c1,c2] u) k4 v4 k5 (.int (iN (r+1)) (x.a 0)) k6 (.int (iN 0) (x.a 1)) k7 (x.v 0) k8 (x.v 1), od, x.o 0]) oNl) (out : List Value) (nn : Nat) (hN : ∀ (v3 v4 v5 v6 v7 v8 : Value), CS w os 440 (cL240 w it fr) (machIns w mi md pb st ln ν xs (n + 1) ++ [(td, od), (fr, fq7 w k0 (.ref mi) k1 (.ref wl) k2 (.ref td) k3 v3 k4 v4 k5 v5 k6 v6 k7 v7 k8 v8), (it, rgI (iN (t+1)) (iN m))]) 0 rNx (fun x => machOut w md pb st ln ν out nn ++ [od, fq7 w k0 (.ref mi) k1 (.ref wl) k2 (.ref td) k3 (x.v 0) k4 (x.v 1) k5 (x.v 2) k6 (x.v 3) k7 (x.v 4) k8 (x.v 5), x.o 0]) oNl) : CS w os 440 (cL240 w it fr) (machIns w mi md pb st ln ν (sv [c0,c1,c2] u :: xs) n ++ [(td, od), (fr, fq7 w k0 (.ref mi) k1 (.ref wl) k2 (.ref td) k3 v3 k4 v4 k5 v5 k6 v6 k7 v7 k8 v8), (it, rgI (iN t) (iN (m+1)))]) 0 rNx (fun x => machOut w md pb st ln ν out nn ++ [od, fq7 w k0 (.ref mi) k1 (.ref wl) k2 (.ref td) k3 (x.v 0) k4 (x.v 1) k5 (x.v 2) k6 (x.v 3) k7 (x.v 4) k8 (x.v 5), x.o 0]) oNl :=
  CB (orS (isForAt [240,244]) (orS (isCallTo [78,85]) (isB ["int.__gt__"]))) 30000 oq18 (fun b0 t0 => rwv 5 1 (rgN t m) (rgI (iN (t+1)) (iN m)) (rgI_next t m) <| via (get_g w os mi md st pb ln ν xs n ⟨#[c0,c1,c2]⟩ u hx) [0,1,2] fun b1 t1 x1 => via (hK (b1+1) (t1+2) (t1+4) (.int (iN t) (t0+1)) v7 v8) [4,3,7] fun b2 t2 x2 => vj (gtI (m := iN 0) (n := 0) (u := (x2.a 1)) (v := (t2+2)) (b := false) (by simp)) [] fun _ => vx (hN (sv [c0,c1,c2] u) (.int (iN t) (t0+1)) (.int (iN (r+1)) (x2.a 0)) (.int (iN 0) (x2.a 1)) (x2.v 0) (x2.v 1)) [0,1,2,3,4,5] fun x4 => finz [] (fun j => j) (x4.o) (x4.v)) (by kernel_rfl)
theorem lt_okf (mi md st pb wl td fr it : Addr) (ln : Value) (ν : Nat → Nat) (n : Nat) (od : Obj) (xs : List Value) (c0 c1 c2 u : Nat) (hx : xs.length ≤ 100) (t m : Nat) (k0 k1 k2 k3 : Nat) (v3 : Value) (r : Nat) (hK : ∀ (it t5 t6 k4 k5 k6 : Nat) (v4 : Value), CS w os 600 (cL244 w it fr) [(fr, fq8 w k0 (.ref mi) k1 (.ref wl) k2 (.ref td) k3 (sv [c0,c1,c2] u) k4 v4 k5 (.int 0 t5) k6 (.int 0 t6)), (td, od), (it, rgI 0 3)] 0 rNx (fun x => [fq7 w k0 (.ref mi) k1 (.ref wl) k2 (.ref td) k3 (sv [c0,c1,c2] u) k4 v4 k5 (.int (iN (r+1)) (x.a 0)) k6 (.int (iN 0) (x.a 1)) (x.a 2) (x.v 0) (x.a 3) (x.v 1), od, x.o 0]) oNl) (out : List Value) (nn : Nat) (hN : ∀ (k4 k5 k6 k7 k8 : Nat) (v3 v4 v5 v6 v7 v8 : Value), CS w os 440 (cL240 w it fr) (machIns w mi md pb st ln ν xs (n + 1) ++ [(td, od), (fr, fq7 w k0 (.ref mi) k1 (.ref wl) k2 (.ref td) k3 v3 k4 v4 k5 v5 k6 v6 k7 v7 k8 v8), (it, rgI (iN (t+1)) (iN m))]) 0 rNx (fun x => machOut w md pb st ln ν out nn ++ [od, fq7 w k0 (.ref mi) k1 (.ref wl) k2 (.ref td) k3 (x.v 0) k4 (x.v 1) k5 (x.v 2) k6 (x.v 3) k7 (x.v 4) k8 (x.v 5), x.o 0]) oNl) : CS w os 440 (cL240 w it fr) (machIns w mi md pb st ln ν (sv [c0,c1,c2] u :: xs) n ++ [(td, od), (fr, fq12 w k0 (.ref mi) k1 (.ref wl) k2 (.ref td) k3 v3), (it, rgI (iN t) (iN (m+1)))]) 0 rNx (fun x => machOut w md pb st ln ν out nn ++ [od, fq7 w k0 (.ref mi) k1 (.ref wl) k2 (.ref td) k3 (x.v 0) (x.a 0) (x.v 1) (x.a 1) (x.v 2) (x.a 2) (x.v 3) (x.a 3) (x.v 4) (x.a 4) (x.v 5), x.o 0]) oNl :=
  CB (orS (isForAt [240,244]) (orS (isCallTo [78,85]) (isB ["int.__gt__"]))) 30000 oq18 (fun b0 t0 => rwv 5 1 (rgN t m) (rgI (iN (t+1)) (iN m)) (rgI_next t m) <| via (get_g w os mi md st pb ln ν xs n ⟨#[c0,c1,c2]⟩ u hx) [0,1,2] fun b1 t1 x1 => via (hK (b1+1) (t1+2) (t1+4) (t0+2) (t1+3) (t1+5) (.int (iN t) (t0+1))) [4,3,7] fun b2 t2 x2 => vj (gtI (m := iN 0) (n := 0) (u := (x2.a 1)) (v := (t2+2)) (b := false) (by simp)) [] fun _ => vx (hN (t0+2) (t1+3) (t1+5) (x2.a 2) (x2.a 3) (sv [c0,c1,c2] u) (.int (iN t) (t0+1)) (.int (iN (r+1)) (x2.a 0)) (.int (iN 0) (x2.a 1)) (x2.v 0) (x2.v 1)) [0,1,2,3,4,5] fun x4 => finz [] (nth [(t0+2), (t1+3), (t1+5), (x2.a 2), (x2.a 3)]) (x4.o) (x4.v)) (by kernel_rfl)
theorem lw_end (mi md st pb wl td fr ll : Addr) (ln : Value) (ν : Nat → Nat) (n m : Nat) (xs ys : List Value) (hx : xs.length ≤ 100) (hy : ys.length ≤ 100) (k0 k1 k2 k3 k4 k5 k6 k7 k8 k9 : Nat) (v3 v4 v5 v6 v7 v8 : Value) (s : Str) (u : Nat) : CS w os 440 (cL253 w fr) (machIns w mi md pb st ln ν [] n ++ [(fr, fq13 w k0 (.ref mi) k1 (.ref wl) k2 (.ref td) k3 v3 k4 v4 k5 v5 k6 v6 k7 v7 k8 v8 k9 (.ref ll)), (ll, lsO ys m)]) 0 rNx (fun _ => machOut w md pb st ln ν [] n ++ [fq13 w k0 (.ref mi) k1 (.ref wl) k2 (.ref td) k3 v3 k4 v4 k5 v5 k6 v6 k7 v7 k8 v8 k9 (.ref ll), lsO ys m]) oNl :=
  CB (orS (isForAt [253]) (orS (isCallTo [78]) (isB ["len","list.append"]))) 30000 [4,1,0,0,0,1,0,0,0,1,1,0,2,3,3] (fun b0 t0 => vj (lenL (l := pb) (xs := []) (n := n) (k := 0) rfl (by omega)) [2] fun _ => fin [] []) (by kernel_rfl)
theorem lw_turn (mi md st pb wl td fr ll : Addr) (ln : Value) (ν : Nat → Nat) (n m : Nat) (xs ys : List Value) (hx : xs.length ≤ 100) (hy : ys.length ≤ 100) (k0 k1 k2 k3 k4 k5 k6 k7 k8 k9 : Nat) (v3 v4 v5 v6 v7 v8 : Value) (s : Str) (u : Nat) (out : List Value) (n2 m2 : Nat) (hN : CS w os 440 (cL253 w fr) (machIns w mi md pb st ln ν xs (n+1) ++ [(fr, fq13 w k0 (.ref mi) k1 (.ref wl) k2 (.ref td) k3 v3 k4 v4 k5 v5 k6 v6 k7 v7 k8 v8 k9 (.ref ll)), (ll, lsO (ys ++ [.str s u]) (m+1))]) 0 rNx (fun _ => machOut w md pb st ln ν [] n2 ++ [fq13 w k0 (.ref mi) k1 (.ref wl) k2 (.ref td) k3 v3 k4 v4 k5 v5 k6 v6 k7 v7 k8 v8 k9 (.ref ll), lsO out m2]) oNl) : CS w os 440 (cL253 w fr) (machIns w mi md pb st ln ν (.str s u :: xs) n ++ [(fr, fq13 w k0 (.ref mi) k1 (.ref wl) k2 (.ref td) k3 v3 k4 v4 k5 v5 k6 v6 k7 v7 k8 v8 k9 (.ref ll)), (ll, lsO ys m)]) 0 rNx (fun _ => machOut w md pb st ln ν [] n2 ++ [fq13 w k0 (.ref mi) k1 (.ref wl) k2 (.ref td) k3 v3 k4 v4 k5 v5 k6 v6 k7 v7 k8 v8 k9 (.ref ll), lsO out m2]) oNl :=
  CB (orS (isForAt [253]) (orS (isCallTo [78]) (isB ["len","list.append"]))) 30000 [4,1,0,0,0,1,0,0,0,1,1,0,2,3,3,4,5,5,5,5,4,1,0,0,0,1,0,0,0,1,0,0,0,0,1,2,0,5] (fun b0 t0 => vj (lenL (l := pb) (xs := .str s u :: xs) (n := n) (k := xs.length + 1) rfl (by omega)) [2] fun _ => vx (get_g w os mi md st pb ln ν xs n s u hx) [0,1,2] fun _ => vj (append_s (l := ll) (xs := ys) (n := m) (v := .str s u) hy) [4] fun _ => vx (hN) [0,1,2,3,4] fun _ => fin [] []) (by kernel_rfl)
theorem made_b (vl ml : Addr) (e0 e1 e2 e3 e4 e5 e6 e7 e8 e9 e10 e11 : Addr) (g0 g1 g2 g3 g4 g5 g6 g7 g8 g9 g10 g11 : Obj) (vs ms : List Value) (nv n : Nat) (lo : List (List Nat × Nat × List Nat)) (hT : ∀ (it fr td ck cv k0 k1 k2 : Nat), CS w os 440 (forCC w 142 [1] it fr [(⟨Zaa⟩, cv), (⟨#[107]⟩, ck)]) [(vl, lsO vs nv), (ml, lsO ms n), (fr, fq14 w k0 (.ref vl) k1 (.ref ml) k2 (.ref td)), (ck, cNo), (cv, cNo), (td, dcE w []), (it, itO vl 0), (e0, g0), (e1, g1), (e2, g2), (e3, g3), (e4, g4), (e5, g5), (e6, g6), (e7, g7), (e8, g8), (e9, g9), (e10, g10), (e11, g11)] 0 rNx (fun x => [lsO vs nv, lsO ms n, fq15 w k0 (.ref vl) k1 (.ref ml) k2 (.ref td) (x.a 0) (x.v 0), cellO (x.v 1), cellO (x.v 2), dcE w (tabL lo (fun j => x.a (j + 3))), x.o 0, g0, g1, g2, g3, g4, g5, g6, g7, g8, g9, g10, g11]) oNl) : CS w os 430 (.call (.ref 142) ⟨[.ref vl, .ref ml], []⟩) [(vl, lsO vs nv), (ml, lsO ms n), (e0, g0), (e1, g1), (e2, g2), (e3, g3), (e4, g4), (e5, g5), (e6, g6), (e7, g7), (e8, g8), (e9, g9), (e10, g10), (e11, g11)] 1 (fun x => rOk (.ref (x.a 0))) (fun _ => [lsO vs nv, lsO ms n, g0, g1, g2, g3, g4, g5, g6, g7, g8, g9, g10, g11]) (fun x => [dcE w (tabL lo (fun j => x.a (j + 3)))]) :=
  CB (isForAt [231]) 30000 [1,0,15,15,15,15,15,15,15,1,1,1,19,15] (fun b0 t0 => vx (hT (b0+4) (b0+0) (b0+3) (b0+1) (b0+2) (t0+1) (t0+2) (t0+3)) [0,1,14,15,16,17,18,2,3,4,5,6,7,8,9,10,11,12,13] fun x1 => finz [17] (fun j => x1.a (j + 1)) (fun _ => default) (fun _ => .none)) (by kernel_rfl)
theorem mc_0F (it ml acc loc fr ck cv : Addr) (ms : List Value) (cs : List (List Nat)) (tka : Nat → Nat) (n nx i : Nat) (V : List Nat) (c0 c1 c2 u tk tv : Nat) (hx : cs.length ≤ 100) (k0 : Nat) (v0 : Value) (hv : ms[i]? = some (sv [c0,c1,c2] u)) (hE : CS w os 700 (.call (.ref 50) ⟨[sv V tv, sv [c0,c1,c2] u], []⟩) [] 0 (fun _ => rOk (.bool false)) oNl oNl) (co : List (List Nat)) (nn : Nat) (hX : ∀ (v0' : Value), CS w os 560 (compC w 142 [1, 0] it acc loc fr [(⟨Zaa⟩, cv), (⟨#[107]⟩, ck)]) [(it, itO ml (i+1)), (ml, lsO ms n), (acc, lsO (stL cs tka) nx), (loc, dq11 w k0 v0'), (ck, cellO (.int 0 tk)), (cv, cellO (sv V tv))] 0 rNx (fun x => [x.o 0, lsO ms n, lsO (stL co (fun j => x.a (j + 3))) nn, dq11 w k0 (x.v 0), cellO (.int 0 tk), cellO (sv V tv)]) oNl) : CS w os 560 (compC w 142 [1, 0] it acc loc fr [(⟨Zaa⟩, cv), (⟨#[107]⟩, ck)]) [(it, itO ml i), (ml, lsO ms n), (acc, lsO (stL cs tka) nx), (loc, dq11 w k0 v0), (ck, cellO (.int 0 tk)), (cv, cellO (sv V tv))] 0 rNx (fun x => [x.o 0, lsO ms n, lsO (stL co (fun j => x.a (j + 3))) nn, dq11 w k0 (x.v 0), cellO (.int 0 tk), cellO (sv V tv)]) oNl :=
  CB (orS (isForAt [232]) (orS (isCallTo [50]) (isB ["list_iterator.__next__","list.append"]))) 30000 [1,1,4,4,0,6,4,0] (fun b0 t0 => vj (next_s (it := it) (l := ml) (i := i) (xs := ms) (n := n) hv) [0,1] fun _ => vx (hE) [] fun _ => vx (hX (sv [c0,c1,c2] u)  ) [0,1,2,3,4,5] fun x3 => finz [] (x3.a) (x3.o) (x3.v)) (by kernel_rfl)
theorem mc_0Ff (it ml acc loc fr ck cv : Addr) (ms : List Value) (cs : List (List Nat)) (tka : Nat → Nat) (n nx i : Nat) (V : List Nat) (c0 c1 c2 u tk tv : Nat) (hx : cs.length ≤ 100) (hv : ms[i]? = some (sv [c0,c1,c2] u)) (hE : CS w os 700 (.call (.ref 50) ⟨[sv V tv, sv [c0,c1,c2] u], []⟩) [] 0 (fun _ => rOk (.bool false)) oNl oNl) (co : List (List Nat)) (nn : Nat) (hX : ∀ (v0' : Value) (k0' : Nat), CS w os 560 (compC w 142 [1, 0] it acc loc fr [(⟨Zaa⟩, cv), (⟨#[107]⟩, ck)]) [(it, itO ml (i+1)), (ml, lsO ms n), (acc, lsO (stL cs tka) nx), (loc, dq11 w k0' v0'), (ck, cellO (.int 0 tk)), (cv, cellO (sv V tv))] 0 rNx (fun x => [x.o 0, lsO ms n, lsO (stL co (fun j => x.a (j + 3))) nn, dq11 w k0' (x.v 0), cellO (.int 0 tk), cellO (sv V tv)]) oNl) : CS w os 560 (compC w 142 [1, 0] it acc loc fr [(⟨Zaa⟩, cv), (⟨#[107]⟩, ck)]) [(it, itO ml i), (ml, lsO ms n), (acc, lsO (stL cs tka) nx), (loc, dcE w []), (ck, cellO (.int 0 tk)), (cv, cellO (sv V tv))] 0 rNx (fun x => [x.o 0, lsO ms n, lsO (stL co (fun j => x.a (j + 3))) nn, dq11 w (x.a 0) (x.v 0), cellO (.int 0 tk), cellO (sv V tv)]) oNl :=
  CB (orS (isForAt [232]) (orS (isCallTo [50]) (isB ["list_iterator.__next__","list.append"]))) 30000 [1,1,4,4,0,6,4,0] (fun b0 t0 => vi (next_s (it := it) (l := ml) (i := i) (xs := ms) (n := n) hv) [0,1] fun b1 t1 x1 => vx (hE) [] fun _ => vx (hX (sv [c0,c1,c2] u)  (t1+1)) [0,1,2,3,4,5] fun x3 => finz [] (fun j => match j with | 0 => (t1+1) | j + 1 => x3.a (j + 1)) (x3.o) (x3.v)) (by kernel_rfl)
theorem mc_0T (it ml acc loc fr ck cv : Addr) (ms : List Value) (cs : List (List Nat)) (tka : Nat → Nat) (n nx i : Nat) (V : List Nat) (c0 c1 c2 u tk tv : Nat) (hx : cs.length ≤ 100) (k0 : Nat) (v0 : Value) (hv : ms[i]? = some (sv [c0,c1,c2] u)) (hE : CS w os 700 (.call (.ref 50) ⟨[sv V tv, sv [c0,c1,c2] u], []⟩) [] 0 (fun _ => rOk (.bool true)) oNl oNl) (co : List (List Nat)) (nn : Nat) (hX : ∀ (v0' : Value) (tka' : Nat → Nat), CS w os 560 (compC w 142 [1, 0] it acc loc fr [(⟨Zaa⟩, cv), (⟨#[107]⟩, ck)]) [(it, itO ml (i+1)), (ml, lsO ms n), (acc, lsO (stL (cs ++ [[c0]]) tka') (nx + 1)), (loc, dq11 w k0 v0'), (ck, cellO (.int 0 tk)), (cv, cellO (sv V tv))] 0 rNx (fun x => [x.o 0, lsO ms n, lsO (stL co (fun j => x.a (j + 3))) nn, dq11 w k0 (x.v 0), cellO (.int 0 tk), cellO (sv V tv)]) oNl) : CS w os 560 (compC w 142 [1, 0] it acc loc fr [(⟨Zaa⟩, cv), (⟨#[107]⟩, ck)]) [(it, itO ml i), (ml, lsO ms n), (acc, lsO (stL cs tka) nx), (loc, dq11 w k0 v0), (ck, cellO (.int 0 tk)), (cv, cellO (sv V tv))] 0 rNx (fun x => [x.o 0, lsO ms n, lsO (stL co (fun j => x.a (j + 3))) nn, dq11 w k0 (x.v 0), cellO (.int 0 tk), cellO (sv V tv)]) oNl :=
  CB (orS (isForAt [232]) (orS (isCallTo [50]) (isB ["list_iterator.__next__","list.append"]))) 30000 [1,1,4,4,0,6,4,0,4,5,3] (fun b0 t0 => vj (next_s (it := it) (l := ml) (i := i) (xs := ms) (n := n) hv) [0,1] fun _ => via (hE) [] fun b2 t2 x2 => vj (appendT (a := acc) (l := cs) (tk := tka) (n := nx) (s := [c0]) (t := (t2+1)) hx) [2] fun _ => vx (hX (sv [c0,c1,c2] u) (updT tka cs.length (t2+1)) ) [0,1,2,3,4,5] fun x4 => finz [] (x4.a) (x4.o) (x4.v)) (by kernel_rfl)
theorem mc_0Tf (it ml acc loc fr ck cv : Addr) (ms : List Value) (cs : List (List Nat)) (tka : Nat → Nat) (n nx i : Nat) (V : List Nat) (c0 c1 c2 u tk tv : Nat) (hx : cs.length ≤ 100) (hv : ms[i]? = some (sv [c0,c1,c2] u)) (hE : CS w os 700 (.call (.ref 50) ⟨[sv V tv, sv [c0,c1,c2] u], []⟩) [] 0 (fun _ => rOk (.bool true)) oNl oNl) (co : List (List Nat)) (nn : Nat) (hX : ∀ (v0' : Value) (tka' : Nat → Nat) (k0' : Nat), CS w os 560 (compC w 142 [1, 0] it acc loc fr [(⟨Zaa⟩, cv), (⟨#[107]⟩, ck)]) [(it, itO ml (i+1)), (ml, lsO ms n), (acc, lsO (stL (cs ++ [[c0]]) tka') (nx + 1)), (loc, dq11 w k0' v0'), (ck, cellO (.int 0 tk)), (cv, cellO (sv V tv))] 0 rNx (fun x => [x.o 0, lsO ms n, lsO (stL co (fun j => x.a (j + 3))) nn, dq11 w k0' (x.v 0), cellO (.int 0 tk), cellO (sv V tv)]) oNl) : CS w os 560 (compC w 142 [1, 0] it acc loc fr [(⟨Zaa⟩, cv), (⟨#[107]⟩, ck)]) [(it, itO ml i), (ml, lsO ms n), (acc, lsO (stL cs tka) nx), (loc, dcE w []), (ck, cellO (.int 0 tk)), (cv, cellO (sv V tv))] 0 rNx (fun x => [x.o 0, lsO ms n, lsO (stL co (fun j => x.a (j + 3))) nn, dq11 w (x.a 0) (x.v 0), cellO (.int 0 tk), cellO (sv V tv)]) oNl :=
  CB (orS (isForAt [232]) (orS (isCallTo [50]) (isB ["list_iterator.__next__","list.append"]))) 30000 [1,1,4,4,0,6,4,0,4,5,3] (fun b0 t0 => vi (next_s (it := it) (l := ml) (i := i) (xs := ms) (n := n) hv) [0,1] fun b1 t1 x1 => via (hE) [] fun b2 t2 x2 => vj (appendT (a := acc) (l := cs) (tk := tka) (n := nx) (s := [c0]) (t := (t2+1)) hx) [2] fun _ => vx (hX (sv [c0,c1,c2] u) (updT tka cs.length (t2+1)) (t1+1)) [0,1,2,3,4,5] fun x4 => finz [] (fun j => match j with | 0 => (t1+1) | j + 1 => x4.a (j + 1)) (x4.o) (x4.v)) (by kernel_rfl)
theorem mc_1F (it ml acc loc fr ck cv : Addr) (ms : List Value) (cs : List (List Nat)) (tka : Nat → Nat) (n nx i : Nat) (V : List Nat) (c0 c1 c2 u tk tv : Nat) (hx : cs.length ≤ 100) (k0 : Nat) (v0 : Value) (hv : ms[i]? = some (sv [c0,c1,c2] u)) (hE : CS w os 700 (.call (.ref 50) ⟨[sv V tv, sv [c0,c1,c2] u], []⟩) [] 0 (fun _ => rOk (.bool false)) oNl oNl) (co : List (List Nat)) (nn : Nat) (hX : ∀ (v0' : Value), CS w os 560 (compC w 142 [1, 0] it acc loc fr [(⟨Zaa⟩, cv), (⟨#[107]⟩, ck)]) [(it, itO ml (i+1)), (ml, lsO ms n), (acc, lsO (stL cs tka) nx), (loc, dq11 w k0 v0'), (ck, cellO (.int 1 tk)), (cv, cellO (sv V tv))] 0 rNx (fun x => [x.o 0, lsO ms n, lsO (stL co (fun j => x.a (j + 3))) nn, dq11 w k0 (x.v 0), cellO (.int 1 tk), cellO (sv V tv)]) oNl) : CS w os 560 (compC w 142 [1, 0] it acc loc fr [(⟨Zaa⟩, cv), (⟨#[107]⟩, ck)]) [(it, itO ml i), (ml, lsO ms n), (acc, lsO (stL cs tka) nx), (loc, dq11 w k0 v0), (ck, cellO (.int 1 tk)), (cv, cellO (sv V tv))] 0 rNx (fun x => [x.o 0, lsO ms n, lsO (stL co (fun j => x.a (j + 3))) nn, dq11 w k0 (x.v 0), cellO (.int 1 tk), cellO (sv V tv)]) oNl :=
  CB (orS (isForAt [232]) (orS (isCallTo [50]) (isB ["list_iterator.__next__","list.append"]))) 30000 [1,1,4,4,0,6,4,0] (fun b0 t0 => vj (next_s (it := it) (l := ml) (i := i) (xs := ms) (n := n) hv) [0,1] fun _ => vx (hE) [] fun _ => vx (hX (sv [c0,c1,c2] u)  ) [0,1,2,3,4,5] fun x3 => finz [] (x3.a) (x3.o) (x3.v)) (by kernel_rfl)
theorem mc_1Ff (it ml acc loc fr ck cv : Addr) (ms : List Value) (cs : List (List Nat)) (tka : Nat → Nat) (n nx i : Nat) (V : List Nat) (c0 c1 c2 u tk tv : Nat) (hx : cs.length ≤ 100) (hv : ms[i]? = some (sv [c0,c1,c2] u)) (hE : CS w os 700 (.call (.ref 50) ⟨[sv V tv, sv [c0,c1,c2] u], []⟩) [] 0 (fun _ => rOk (.bool false)) oNl oNl) (co : List (List Nat)) (nn : Nat) (hX : ∀ (v0' : Value) (k0' : Nat), CS w os 560 (compC w 142 [1, 0] it acc loc fr [(⟨Zaa⟩, cv), (⟨#[107]⟩, ck)]) [(it, itO ml (i+1)), (ml, lsO ms n), (acc, lsO (stL cs tka) nx), (loc, dq11 w k0' v0'), (ck, cellO (.int 1 tk)), (cv, cellO (sv V tv))] 0 rNx (fun x => [x.o 0, lsO ms n, lsO (stL co (fun j => x.a (j + 3))) nn, dq11 w k0' (x.v 0), cellO (.int 1 tk), cellO (sv V tv)]) oNl) : CS w os 560 (compC w 142 [1, 0] it acc loc fr [(⟨Zaa⟩, cv), (⟨#[107]⟩, ck)]) [(it, itO ml i), (ml, lsO ms n), (acc, lsO (stL cs tka) nx), (loc, dcE w []), (ck, cellO (.int 1 tk)), (cv, cellO (sv V tv))] 0 rNx (fun x => [x.o 0, lsO ms n, lsO (stL co (fun j => x.a (j + 3))) nn, dq11 w (x.a 0) (x.v 0), cellO (.int 1 tk), cellO (sv V tv)]) oNl :=
  CB (orS (isForAt [232]) (orS (isCallTo [50]) (isB ["list_iterator.__next__","list.append"]))) 30000 [1,1,4,4,0,6,4,0] (fun b0 t0 => vi (next_s (it := it) (l := ml) (i := i) (xs := ms) (n := n) hv) [0,1] fun b1 t1 x1 => vx (hE) [] fun _ => vx (hX (sv [c0,c1,c2] u)  (t1+1)) [0,1,2,3,4,5] fun x3 => finz [] (fun j => match j with | 0 => (t1+1) | j + 1 => x3.a (j + 1)) (x3.o) (x3.v)) (by kernel_rfl)
theorem mc_1T (it ml acc loc fr ck cv : Addr) (ms : List Value) (cs : List (List Nat)) (tka : Nat → Nat) (n nx i : Nat) (V : List Nat) (c0 c1 c2 u tk tv : Nat) (hx : cs.length ≤ 100) (k0 : Nat) (v0 : Value) (hv : ms[i]? = some (sv [c0,c1,c2] u)) (hE : CS w os 700 (.call (.ref 50) ⟨[sv V tv, sv [c0,c1,c2] u], []⟩) [] 0 (fun _ => rOk (.bool true)) oNl oNl) (co : List (List Nat)) (nn : Nat) (hX : ∀ (v0' : Value) (tka' : Nat → Nat), CS w os 560 (compC w 142 [1, 0] it acc loc fr [(⟨Zaa⟩, cv), (⟨#[107]⟩, ck)]) [(it, itO ml (i+1)), (ml, lsO ms n), (acc, lsO (stL (cs ++ [[c1]]) tka') (nx + 1)), (loc, dq11 w k0 v0'), (ck, cellO (.int 1 tk)), (cv, cellO (sv V tv))] 0 rNx (fun x => [x.o 0, lsO ms n, lsO (stL co (fun j => x.a (j + 3))) nn, dq11 w k0 (x.v 0), cellO (.int 1 tk), cellO (sv V tv)]) oNl) : CS w os 560 (compC w 142 [1, 0] it acc loc fr [(⟨Zaa⟩, cv), (⟨#[107]⟩, ck)]) [(it, itO ml i), (ml, lsO ms n), (acc, lsO (stL cs tka) nx), (loc, dq11 w k0 v0), (ck, cellO (.int 1 tk)), (cv, cellO (sv V tv))] 0 rNx (fun x => [x.o 0, lsO ms n, lsO (stL co (fun j => x.a (j + 3))) nn, dq11 w k0 (x.v 0), cellO (.int 1 tk), cellO (sv V tv)]) oNl :=
  CB (orS (isForAt [232]) (orS (isCallTo [50]) (isB ["list_iterator.__next__","list.append"]))) 30000 [1,1,4,4,0,6,4,0,4,5,3] (fun b0 t0 => vj (next_s (it := it) (l := ml) (i := i) (xs := ms) (n := n) hv) [0,1] fun _ => via (hE) [] fun b2 t2 x2 => vj (appendT (a := acc) (l := cs) (tk := tka) (n := nx) (s := [c1]) (t := (t2+1)) hx) [2] fun _ => vx (hX (sv [c0,c1,c2] u) (updT tka cs.length (t2+1)) ) [0,1,2,3,4,5] fun x4 => finz [] (x4.a) (x4.o) (x4.v)) (by kernel_rfl)
theorem mc_1Tf (it ml acc loc fr ck cv : Addr) (ms : List Value) (cs : List (List Nat)) (tka : Nat → Nat) (n nx i : Nat) (V : List Nat) (c0 c1 c2 u tk tv : Nat) (hx : cs.length ≤ 100) (hv : ms[i]? = some (sv [c0,c1,c2] u)) (hE : CS w os 700 (.call (.ref 50) ⟨[sv V tv, sv [c0,c1,c2] u], []⟩) [] 0 (fun _ => rOk (.bool true)) oNl oNl) (co : List (List Nat)) (nn : Nat) (hX : ∀ (v0' : Value) (tka' : Nat → Nat) (k0' : Nat), CS w os 560 (compC w 142 [1, 0] it acc loc fr [(⟨Zaa⟩, cv), (⟨#[107]⟩, ck)]) [(it, itO ml (i+1)), (ml, lsO ms n), (acc, lsO (stL (cs ++ [[c1]]) tka') (nx + 1)), (loc, dq11 w k0' v0'), (ck, cellO (.int 1 tk)), (cv, cellO (sv V tv))] 0 rNx (fun x => [x.o 0, lsO ms n, lsO (stL co (fun j => x.a (j + 3))) nn, dq11 w k0' (x.v 0), cellO (.int 1 tk), cellO (sv V tv)]) oNl) : CS w os 560 (compC w 142 [1, 0] it acc loc fr [(⟨Zaa⟩, cv), (⟨#[107]⟩, ck)]) [(it, itO ml i), (ml, lsO ms n), (acc, lsO (stL cs tka) nx), (loc, dcE w []), (ck, cellO (.int 1 tk)), (cv, cellO (sv V tv))] 0 rNx (fun x => [x.o 0, lsO ms n, lsO (stL co (fun j => x.a (j + 3))) nn, dq11 w (x.a 0) (x.v 0), cellO (.int 1 tk), cellO (sv V tv)]) oNl :=
  CB (orS (isForAt [232]) (orS (isCallTo [50]) (isB ["list_iterator.__next__","list.append"]))) 30000 [1,1,4,4,0,6,4,0,4,5,3] (fun b0 t0 => vi (next_s (it := it) (l := ml) (i := i) (xs := ms) (n := n) hv) [0,1] fun b1 t1 x1 => via (hE) [] fun b2 t2 x2 => vj (appendT (a := acc) (l := cs) (tk := tka) (n := nx) (s := [c1]) (t := (t2+1)) hx) [2] fun _ => vx (hX (sv [c0,c1,c2] u) (updT tka cs.length (t2+1)) (t1+1)) [0,1,2,3,4,5] fun x4 => finz [] (fun j => match j with | 0 => (t1+1) | j + 1 => x4.a (j + 1)) (x4.o) (x4.v)) (by kernel_rfl)
theorem mc_2F (it ml acc loc fr ck cv : Addr) (ms : List Value) (cs : List (List Nat)) (tka : Nat → Nat) (n nx i : Nat) (V : List Nat) (c0 c1 c2 u tk tv : Nat) (hx : cs.length ≤ 100) (k0 : Nat) (v0 : Value) (hv : ms[i]? = some (sv [c0,c1,c2] u)) (hE : CS w os 700 (.call (.ref 50) ⟨[sv V tv, sv [c0,c1,c2] u], []⟩) [] 0 (fun _ => rOk (.bool false)) oNl oNl) (co : List (List Nat)) (nn : Nat) (hX : ∀ (v0' : Value), CS w os 560 (compC w 142 [1, 0] it acc loc fr [(⟨Zaa⟩, cv), (⟨#[107]⟩, ck)]) [(it, itO ml (i+1)), (ml, lsO ms n), (acc, lsO (stL cs tka) nx), (loc, dq11 w k0 v0'), (ck, cellO (.int 2 tk)), (cv, cellO (sv V tv))] 0 rNx (fun x => [x.o 0, lsO ms n, lsO (stL co (fun j => x.a (j + 3))) nn, dq11 w k0 (x.v 0), cellO (.int 2 tk), cellO (sv V tv)]) oNl) : CS w os 560 (compC w 142 [1, 0] it acc loc fr [(⟨Zaa⟩, cv), (⟨#[107]⟩, ck)]) [(it, itO ml i), (ml, lsO ms n), (acc, lsO (stL cs tka) nx), (loc, dq11 w k0 v0), (ck, cellO (.int 2 tk)), (cv, cellO (sv V tv))] 0 rNx (fun x => [x.o 0, lsO ms n, lsO (stL co (fun j => x.a (j + 3))) nn, dq11 w k0 (x.v 0), cellO (.int 2 tk), cellO (sv V tv)]) oNl :=
  CB (orS (isForAt [232]) (orS (isCallTo [50]) (isB ["list_iterator.__next__","list.append"]))) 30000 [1,1,4,4,0,6,4,0] (fun b0 t0 => vj (next_s (it := it) (l := ml) (i := i) (xs := ms) (n := n) hv) [0,1] fun _ => vx (hE) [] fun _ => vx (hX (sv [c0,c1,c2] u)  ) [0,1,2,3,4,5] fun x3 => finz [] (x3.a) (x3.o) (x3.v)) (by kernel_rfl)
theorem mc_2Ff (it ml acc loc fr ck cv : Addr) (ms : List Value) (cs : List (List Nat)) (tka : Nat → Nat) (n nx i : Nat) (V : List Nat) (c0 c1 c2 u tk tv : Nat) (hx : cs.length ≤ 100) (hv : ms[i]? = some (sv [c0,c1,c2] u)) (hE : CS w os 700 (.call (.ref 50) ⟨[sv V tv, sv [c0,c1,c2] u], []⟩) [] 0 (fun _ => rOk (.bool false)) oNl oNl) (co : List (List Nat)) (nn : Nat) (hX : ∀ (v0' : Value) (k0' : Nat), CS w os 560 (compC w 142 [1, 0] it acc loc fr [(⟨Zaa⟩, cv), (⟨#[107]⟩, ck)]) [(it, itO ml (i+1)), (ml, lsO ms n), (acc, lsO (stL cs tka) nx), (loc, dq11 w k0' v0'), (ck, cellO (.int 2 tk)), (cv, cellO (sv V tv))] 0 rNx (fun x => [x.o 0, lsO ms n, lsO (stL co (fun j => x.a (j + 3))) nn, dq11 w k0' (x.v 0), cellO (.int 2 tk), cellO (sv V tv)]) oNl) : CS w os 560 (compC w 142 [1, 0] it acc loc fr [(⟨Zaa⟩, cv), (⟨#[107]⟩, ck)]) [(it, itO ml i), (ml, lsO ms n), (acc, lsO (stL cs tka) nx), (loc, dcE w []), (ck, cellO (.int 2 tk)), (cv, cellO (sv V tv))] 0 rNx (fun x => [x.o 0, lsO ms n, lsO (stL co (fun j => x.a (j + 3))) nn, dq11 w (x.a 0) (x.v 0), cellO (.int 2 tk), cellO (sv V tv)]) oNl :=
  CB (orS (isForAt [232]) (orS (isCallTo [50]) (isB ["list_iterator.__next__","list.append"]))) 30000 [1,1,4,4,0,6,4,0] (fun b0 t0 => vi (next_s (it := it) (l := ml) (i := i) (xs := ms) (n := n) hv) [0,1] fun b1 t1 x1 => vx (hE) [] fun _ => vx (hX (sv [c0,c1,c2] u)  (t1+1)) [0,1,2,3,4,5] fun x3 => finz [] (fun j => match j with | 0 => (t1+1) | j + 1 => x3.a (j + 1)) (x3.o) (x3.v)) (by kernel_rfl)
theorem mc_2T (it ml acc loc fr ck cv : Addr) (ms : List Value) (cs : List (List Nat)) (tka : Nat → Nat) (n nx i : Nat) (V : List Nat) (c0 c1 c2 u tk tv : Nat) (hx : cs.length ≤ 100) (k0 : Nat) (v0 : Value) (hv : ms[i]? = some (sv [c0,c1,c2] u)) (hE : CS w os 700 (.call (.ref 50) ⟨[sv V tv, sv [c0,c1,c2] u], []⟩) [] 0 (fun _ => rOk (.bool true)) oNl oNl) (co : List (List Nat)) (nn : Nat) (hX : ∀ (v0' : Value) (tka' : Nat → Nat), CS w os 560 (compC w 142 [1, 0] it acc loc fr [(⟨Zaa⟩, cv), (⟨#[107]⟩, ck)]) [(it, itO ml (i+1)), (ml, lsO ms n), (acc, lsO (stL (cs ++ [[c2]]) tka') (nx + 1)), (loc, dq11 w k0 v0'), (ck, cellO (.int 2 tk)), (cv, cellO (sv V tv))] 0 rNx (fun x => [x.o 0, lsO ms n, lsO (stL co (fun j => x.a (j + 3))) nn, dq11 w k0 (x.v 0), cellO (.int 2 tk), cellO (sv V tv)]) oNl) : CS w os 560 (compC w 142 [1, 0] it acc loc fr [(⟨Zaa⟩, cv), (⟨#[107]⟩, ck)]) [(it, itO ml i), (ml, lsO ms n), (acc, lsO (stL cs tka) nx), (loc, dq11 w k0 v0), (ck, cellO (.int 2 tk)), (cv, cellO (sv V tv))] 0 rNx (fun x => [x.o 0, lsO ms n, lsO (stL co (fun j => x.a (j + 3))) nn, dq11 w k0 (x.v 0), cellO (.int 2 tk), cellO (sv V tv)]) oNl :=
  CB (orS (isForAt [232]) (orS (isCallTo [50]) (isB ["list_iterator.__next__","list.append"]))) 30000 [1,1,4,4,0,6,4,0,4,5,3] (fun b0 t0 => vj (next_s (it := it) (l := ml) (i := i) (xs := ms) (n := n) hv) [0,1] fun _ => via (hE) [] fun b2 t2 x2 => vj (appendT (a := acc) (l := cs) (tk := tka) (n := nx) (s := [c2]) (t := (t2+1)) hx) [2] fun _ => vx (hX (sv [c0,c1,c2] u) (updT tka cs.length (t2+1)) ) [0,1,2,3,4,5] fun x4 => finz [] (x4.a) (x4.o) (x4.v)) (by kernel_rfl)
theorem mc_2Tf (it ml acc loc fr ck cv : Addr) (ms : List Value) (cs : List (List Nat)) (tka : Nat → Nat) (n nx i : Nat) (V : List Nat) (c0 c1 c2 u tk tv : Nat) (hx : cs.length ≤ 100) (hv : ms[i]? = some (sv [c0,c1,c2] u)) (hE : CS w os 700 (.call (.ref 50) ⟨[sv V tv, sv [c0,c1,c2] u], []⟩) [] 0 (fun _ => rOk (.bool true)) oNl oNl) (co : List (List Nat)) (nn : Nat) (hX : ∀ (v0' : Value) (tka' : Nat → Nat) (k0' : Nat), CS w os 560 (compC w 142 [1, 0] it acc loc fr [(⟨Zaa⟩, cv), (⟨#[107]⟩, ck)]) [(it, itO ml (i+1)), (ml, lsO ms n), (acc, lsO (stL (cs ++ [[c2]]) tka') (nx + 1)), (loc, dq11 w k0' v0'), (ck, cellO (.int 2 tk)), (cv, cellO (sv V tv))] 0 rNx (fun x => [x.o 0, lsO ms n, lsO (stL co (fun j => x.a (j + 3))) nn, dq11 w k0' (x.v 0), cellO (.int 2 tk), cellO (sv V tv)]) oNl) : CS w os 560 (compC w 142 [1, 0] it acc loc fr [(⟨Zaa⟩, cv), (⟨#[107]⟩, ck)]) [(it, itO ml i), (ml, lsO ms n), (acc, lsO (stL cs tka) nx), (loc, dcE w []), (ck, cellO (.int 2 tk)), (cv, cellO (sv V tv))] 0 rNx (fun x => [x.o 0, lsO ms n, lsO (stL co (fun j => x.a (j + 3))) nn, dq11 w (x.a 0) (x.v 0), cellO (.int 2 tk), cellO (sv V tv)]) oNl :=
  CB (orS (isForAt [232]) (orS (isCallTo [50]) (isB ["list_iterator.__next__","list.append"]))) 30000 [1,1,4,4,0,6,4,0,4,5,3] (fun b0 t0 => vi (next_s (it := it) (l := ml) (i := i) (xs := ms) (n := n) hv) [0,1] fun b1 t1 x1 => via (hE) [] fun b2 t2 x2 => vj (appendT (a := acc) (l := cs) (tk := tka) (n := nx) (s := [c2]) (t := (t2+1)) hx) [2] fun _ => vx (hX (sv [c0,c1,c2] u) (updT tka cs.length (t2+1)) (t1+1)) [0,1,2,3,4,5] fun x4 => finz [] (fun j => match j with | 0 => (t1+1) | j + 1 => x4.a (j + 1)) (x4.o) (x4.v)) (by kernel_rfl)
theorem mc_end (it ml acc loc fr ck cv : Addr) (ms : List Value) (cs : List (List Nat)) (tka : Nat → Nat) (n nx i : Nat) (V : List Nat) (c0 c1 c2 u tk tv : Nat) (kk : Nat) (k0 : Nat) (v0 : Value) (hv : ms[i]? = none) : CS w os 560 (compC w 142 [1, 0] it acc loc fr [(⟨Zaa⟩, cv), (⟨#[107]⟩, ck)]) [(it, itO ml i), (ml, lsO ms n), (acc, lsO (stL cs tka) nx), (loc, dq11 w k0 v0), (ck, cellO (.int (iN kk) tk)), (cv, cellO (sv V tv))] 0 rNx (fun x => [x.o 0, lsO ms n, lsO (stL cs (fun j => x.a (j + 3))) nx, dq11 w k0 (x.v 0), cellO (.int (iN kk) tk), cellO (sv V tv)]) oNl :=
  CB (isB ["list_iterator.__next__"]) 30000 [1,1,8] (fun b0 t0 => vj (nextE_s (it := it) (l := ml) (i := i) (xs := ms) (n := n) hv) [0,1] fun _ => finz [] (fun j => tka (j - 3)) (fun _ => itE i) (fun _ => v0)) (by kernel_rfl)
theorem mc_endf (it ml acc loc fr ck cv : Addr) (ms : List Value) (cs : List (List Nat)) (tka : Nat → Nat) (n nx i : Nat) (V : List Nat) (c0 c1 c2 u tk tv : Nat) (kk : Nat) (hv : ms[i]? = none) : CS w os 560 (compC w 142 [1, 0] it acc loc fr [(⟨Zaa⟩, cv), (⟨#[107]⟩, ck)]) [(it, itO ml i), (ml, lsO ms n), (acc, lsO (stL cs tka) nx), (loc, dcE w []), (ck, cellO (.int (iN kk) tk)), (cv, cellO (sv V tv))] 0 rNx (fun x => [x.o 0, lsO ms n, lsO (stL cs (fun j => x.a (j + 3))) nx, dcE w [], cellO (.int (iN kk) tk), cellO (sv V tv)]) oNl :=
  CB (isB ["list_iterator.__next__"]) 30000 [1,1,8] (fun b0 t0 => vj (nextE_s (it := it) (l := ml) (i := i) (xs := ms) (n := n) hv) [0,1] fun _ => finz [] (fun j => tka (j - 3)) (fun _ => itE i) (fun _ => (.none))) (by kernel_rfl)
theorem mt_0E (vl ml fr it td ck cv ta : Addr) (e0 e1 e2 e3 e4 e5 e6 e7 e8 e9 e10 : Addr) (g0 g1 g2 g3 g4 g5 g6 g7 g8 g9 g10 : Obj) (vs ms : List Value) (nv n i : Nat) (V : List Nat) (l : List (List Nat × Nat × List Nat)) (tkt : Nat → Nat) (k0 k1 k2 : Nat) (tk tv : Nat) (k3 : Nat) (v3 vck vcv : Value)  (hv : vs[i]? = some (.ref ta)) (hl : ∀ p ∈ l, p.1 ≠ V) (hl2 : l.length ≤ 100) (there : List (List Nat)) (nt : Nat) (hC : ∀ (it acc loc : Nat), CS w os 560 (compC w 142 [1, 0] it acc loc fr [(⟨Zaa⟩, cv), (⟨#[107]⟩, ck)]) [(it, itO ml 0), (ml, lsO ms n), (acc, lsO [] 0), (loc, dcE w []), (ck, cellO (.int 0 tk)), (cv, cellO (sv V tv))] 0 rNx (fun x => [x.o 0, lsO ms n, lsO (stL there (fun j => x.a (j + 3))) nt, dcE w [], cellO (.int 0 tk), cellO (sv V tv)]) oNl) (m : Nat) (hm : there.length = m) (hm' : m ≤ 1000) (hm1 : (iN m == 1) = false) (lo : List (List Nat × Nat × List Nat)) (hN : ∀ (tkt' : Nat → Nat) (v3' vck' vcv' : Value), CS w os 440 (forCC w 142 [1] it fr [(⟨Zaa⟩, cv), (⟨#[107]⟩, ck)]) [(vl, lsO vs nv), (ml, lsO ms n), (fr, fq15 w k0 (.ref vl) k1 (.ref ml) k2 (.ref td) k3 v3'), (ck, cellO vck'), (cv, cellO vcv'), (td, dcE w (tabL (l ++ [(V, tv, [])]) tkt')), (it, itO vl (i+1)), (ta, tupO [.int 0 tk, sv V tv]), (e0, g0), (e1, g1), (e2, g2), (e3, g3), (e4, g4), (e5, g5), (e6, g6), (e7, g7), (e8, g8), (e9, g9), (e10, g10)] 0 rNx (fun x => [lsO vs nv, lsO ms n, fq15 w k0 (.ref vl) k1 (.ref ml) k2 (.ref td) k3 (x.v 0), cellO (x.v 1), cellO (x.v 2), dcE w (tabL lo (fun j => x.a (j + 3))), x.o 0, tupO [.int 0 tk, sv V tv], g0, g1, g2, g3, g4, g5, g6, g7, g8, g9, g10]) oNl) : CS w os 440 (forCC w 142 [1] it fr [(⟨Zaa⟩, cv), (⟨#[107]⟩, ck)]) [(vl, lsO vs nv), (ml, lsO ms n), (fr, fq15 w k0 (.ref vl) k1 (.ref ml) k2 (.ref td) k3 v3), (ck, cellO vck), (cv, cellO vcv), (td, dcE w (tabL l tkt)), (it, itO vl i), (ta, tupO [.int 0 tk, sv V tv]), (e0, g0), (e1, g1), (e2, g2), (e3, g3), (e4, g4), (e5, g5), (e6, g6), (e7, g7), (e8, g8), (e9, g9), (e10, g10)] 0 rNx (fun x => [lsO vs nv, lsO ms n, fq15 w k0 (.ref vl) k1 (.ref ml) k2 (.ref td) k3 (x.v 0), cellO (x.v 1), cellO (x.v 2), dcE w (tabL lo (fun j => x.a (j + 3))), x.o 0, tupO [.int 0 tk, sv V tv], g0, g1, g2, g3, g4, g5, g6, g7, g8, g9, g10]) oNl :=
  CB2 (orS (isForAt [231,232]) (isB ["list_iterator.__next__","len","int.__eq__","str.__eq__","dict.__setitem__"])) 30000 oq19 oq20 (fun b0 t0 => vi (next_s (it := it) (l := vl) (i := i) (xs := vs) (n := nv) hv) [6,0] fun b1 t1 x1 => via (hC (b1+3) (b1+4) (b1+5)) [22,1,23,24,3,4] fun b2 t2 x2 => vj (dnewT (dd := td) (l := l) (tk := tkt) (V := V) (z := tv) (r := []) (t := (t2+2)) hl hl2) [5] fun _ => vi (lenT (a := (b1+4)) (l := there) (tk := fun j => x2.a (j + 3)) (n := nt) (k := m) hm hm') [23] fun b4 t4 x4 => vj (eqI (m := iN m) (n := 1) (u := (x4.a 0)) (v := (t4+1)) hm1) [] fun _ => vx (hN (updT tkt l.length (t2+2)) (.ref (b1+4)) (.int 0 tk) (sv V tv) ) [0,1,2,3,4,5,6,7,8,9,10,11,12,13,14,15,16,17,18] fun x6 => finz [] (x6.a) (x6.o) (x6.v)) (by kernel_rfl) (by kernel_rfl)
theorem mt_0Ef (vl ml fr it td ck cv ta : Addr) (e0 e1 e2 e3 e4 e5 e6 e7 e8 e9 e10 : Addr) (g0 g1 g2 g3 g4 g5 g6 g7 g8 g9 g10 : Obj) (vs ms : List Value) (nv n i : Nat) (V : List Nat) (l : List (List Nat × Nat × List Nat)) (tkt : Nat → Nat) (k0 k1 k2 : Nat) (tk tv : Nat)  (hv : vs[i]? = some (.ref ta)) (hl : ∀ p ∈ l, p.1 ≠ V) (hl2 : l.length ≤ 100) (there : List (List Nat)) (nt : Nat) (hC : ∀ (it acc loc : Nat), CS w os 560 (compC w 142 [1, 0] it acc loc fr [(⟨Zaa⟩, cv), (⟨#[107]⟩, ck)]) [(it, itO ml 0), (ml, lsO ms n), (acc, lsO [] 0), (loc, dcE w []), (ck, cellO (.int 0 tk)), (cv, cellO (sv V tv))] 0 rNx (fun x => [x.o 0, lsO ms n, lsO (stL there (fun j => x.a (j + 3))) nt, dcE w [], cellO (.int 0 tk), cellO (sv V tv)]) oNl) (m : Nat) (hm : there.length = m) (hm' : m ≤ 1000) (hm1 : (iN m == 1) = false) (lo : List (List Nat × Nat × List Nat)) (hN : ∀ (tkt' : Nat → Nat) (v3' vck' vcv' : Value) (k3' : Nat), CS w os 440 (forCC w 142 [1] it fr [(⟨Zaa⟩, cv), (⟨#[107]⟩, ck)]) [(vl, lsO vs nv), (ml, lsO ms n), (fr, fq15 w k0 (.ref vl) k1 (.ref ml) k2 (.ref td) k3' v3'), (ck, cellO vck'), (cv, cellO vcv'), (td, dcE w (tabL (l ++ [(V, tv, [])]) tkt')), (it, itO vl (i+1)), (ta, tupO [.int 0 tk, sv V tv]), (e0, g0), (e1, g1), (e2, g2), (e3, g3), (e4, g4), (e5, g5), (e6, g6), (e7, g7), (e8, g8), (e9, g9), (e10, g10)] 0 rNx (fun x => [lsO vs nv, lsO ms n, fq15 w k0 (.ref vl) k1 (.ref ml) k2 (.ref td) k3' (x.v 0), cellO (x.v 1), cellO (x.v 2), dcE w (tabL lo (fun j => x.a (j + 3))), x.o 0, tupO [.int 0 tk, sv V tv], g0, g1, g2, g3, g4, g5, g6, g7, g8, g9, g10]) oNl) : CS w os 440 (forCC w 142 [1] it fr [(⟨Zaa⟩, cv), (⟨#[107]⟩, ck)]) [(vl, lsO vs nv), (ml, lsO ms n), (fr, fq14 w k0 (.ref vl) k1 (.ref ml) k2 (.ref td)), (ck, cNo), (cv, cNo), (td, dcE w (tabL l tkt)), (it, itO vl i), (ta, tupO [.int 0 tk, sv V tv]), (e0, g0), (e1, g1), (e2, g2), (e3, g3), (e4, g4), (e5, g5), (e6, g6), (e7, g7), (e8, g8), (e9, g9), (e10, g10)] 0 rNx (fun x => [lsO vs nv, lsO ms n, fq15 w k0 (.ref vl) k1 (.ref ml) k2 (.ref td) (x.a 0) (x.v 0), cellO (x.v 1), cellO (x.v 2), dcE w (tabL lo (fun j => x.a (j + 3))), x.o 0, tupO [.int 0 tk, sv V tv], g0, g1, g2, g3, g4, g5, g6, g7, g8, g9, g10]) oNl :=
  CB2 (orS (isForAt [231,232]) (isB ["list_iterator.__next__","len","int.__eq__","str.__eq__","dict.__setitem__"])) 30000 oq19 oq20 (fun b0 t0 => vi (next_s (it := it) (l := vl) (i := i) (xs := vs) (n := nv) hv) [6,0] fun b1 t1 x1 => via (hC (b1+3) (b1+4) (b1+5)) [22,1,23,24,3,4] fun b2 t2 x2 => vj (dnewT (dd := td) (l := l) (tk := tkt) (V := V) (z := tv) (r := []) (t := (t2+2)) hl hl2) [5] fun _ => vi (lenT (a := (b1+4)) (l := there) (tk := fun j => x2.a (j + 3)) (n := nt) (k := m) hm hm') [23] fun b4 t4 x4 => vj (eqI (m := iN m) (n := 1) (u := (x4.a 0)) (v := (t4+1)) hm1) [] fun _ => vx (hN (updT tkt l.length (t2+2)) (.ref (b1+4)) (.int 0 tk) (sv V tv) (t2+1)) [0,1,2,3,4,5,6,7,8,9,10,11,12,13,14,15,16,17,18] fun x6 => finz [] (fun j => match j with | 0 => (t2+1) | j + 1 => x6.a (j + 1)) (x6.o) (x6.v)) (by kernel_rfl) (by kernel_rfl)
theorem mt_0L (vl ml fr it td ck cv ta : Addr) (e0 e1 e2 e3 e4 e5 e6 e7 e8 e9 e10 : Addr) (g0 g1 g2 g3 g4 g5 g6 g7 g8 g9 g10 : Obj) (vs ms : List Value) (nv n i : Nat) (V : List Nat) (l : List (List Nat × Nat × List Nat)) (tkt : Nat → Nat) (k0 k1 k2 : Nat) (tk tv : Nat) (k3 : Nat) (v3 vck vcv : Value)  (hv : vs[i]? = some (.ref ta)) (hl : ∀ p ∈ l, p.1 ≠ V) (hl2 : l.length ≤ 100) (ch : Nat) (nt : Nat) (hC : ∀ (it acc loc : Nat), CS w os 560 (compC w 142 [1, 0] it acc loc fr [(⟨Zaa⟩, cv), (⟨#[107]⟩, ck)]) [(it, itO ml 0), (ml, lsO ms n), (acc, lsO [] 0), (loc, dcE w []), (ck, cellO (.int 0 tk)), (cv, cellO (sv V tv))] 0 rNx (fun x => [x.o 0, lsO ms n, lsO (stL [[ch]] (fun j => x.a (j + 3))) nt, dq11 w (x.a 0) (x.v 0), cellO (.int 0 tk), cellO (sv V tv)]) oNl) (hch : ([ch] == [97]) = true) (lo : List (List Nat × Nat × List Nat)) (hN : ∀ (tkt' : Nat → Nat) (v3' vck' vcv' : Value), CS w os 440 (forCC w 142 [1] it fr [(⟨Zaa⟩, cv), (⟨#[107]⟩, ck)]) [(vl, lsO vs nv), (ml, lsO ms n), (fr, fq15 w k0 (.ref vl) k1 (.ref ml) k2 (.ref td) k3 v3'), (ck, cellO vck'), (cv, cellO vcv'), (td, dcE w (tabL (l ++ [(V, tv, [65])]) tkt')), (it, itO vl (i+1)), (ta, tupO [.int 0 tk, sv V tv]), (e0, g0), (e1, g1), (e2, g2), (e3, g3), (e4, g4), (e5, g5), (e6, g6), (e7, g7), (e8, g8), (e9, g9), (e10, g10)] 0 rNx (fun x => [lsO vs nv, lsO ms n, fq15 w k0 (.ref vl) k1 (.ref ml) k2 (.ref td) k3 (x.v 0), cellO (x.v 1), cellO (x.v 2), dcE w (tabL lo (fun j => x.a (j + 3))), x.o 0, tupO [.int 0 tk, sv V tv], g0, g1, g2, g3, g4, g5, g6, g7, g8, g9, g10]) oNl) : CS w os 440 (forCC w 142 [1] it fr [(⟨Zaa⟩, cv), (⟨#[107]⟩, ck)]) [(vl, lsO vs nv), (ml, lsO ms n), (fr, fq15 w k0 (.ref vl) k1 (.ref ml) k2 (.ref td) k3 v3), (ck, cellO vck), (cv, cellO vcv), (td, dcE w (tabL l tkt)), (it, itO vl i), (ta, tupO [.int 0 tk, sv V tv]), (e0, g0), (e1, g1), (e2, g2), (e3, g3), (e4, g4), (e5, g5), (e6, g6), (e7, g7), (e8, g8), (e9, g9), (e10, g10)] 0 rNx (fun x => [lsO vs nv, lsO ms n, fq15 w k0 (.ref vl) k1 (.ref ml) k2 (.ref td) k3 (x.v 0), cellO (x.v 1), cellO (x.v 2), dcE w (tabL lo (fun j => x.a (j + 3))), x.o 0, tupO [.int 0 tk, sv V tv], g0, g1, g2, g3, g4, g5, g6, g7, g8, g9, g10]) oNl :=
  CB2 (orS (isForAt [231,232]) (isB ["list_iterator.__next__","len","int.__eq__","str.__eq__","dict.__setitem__"])) 30000 oq21 oq22 (fun b0 t0 => vi (next_s (it := it) (l := vl) (i := i) (xs := vs) (n := nv) hv) [6,0] fun b1 t1 x1 => via (hC (b1+3) (b1+4) (b1+5)) [22,1,23,24,3,4] fun b2 t2 x2 => vj (dnewT (dd := td) (l := l) (tk := tkt) (V := V) (z := tv) (r := []) (t := (t2+2)) hl hl2) [5] fun _ => vi (lenT (a := (b1+4)) (l := [[ch]]) (tk := fun j => x2.a (j + 3)) (n := nt) (k := 1) rfl (by decide)) [23] fun b4 t4 x4 => vi (eqI (m := iN 1) (n := 1) (u := (x4.a 0)) (v := (t4+1)) (b := true) rfl) [] fun b5 t5 x5 => vi (eqS (s := ⟨#[ch]⟩) (t := ⟨#[97]⟩) (u := (x2.a 3)) (v := (t5+3)) hch) [] fun b6 t6 x6 => vj (dsetT (dd := td) (l := l) (tk := updT tkt l.length (t2+2)) (V := V) (tv := tv) (z := tv) (r0 := []) (r := [65]) (t := (t6+2)) hl) [5] fun _ => vx (hN (updT (updT tkt l.length (t2+2)) l.length (t6+2)) (.ref (b1+4)) (.int 0 tk) (sv V tv) ) [0,1,2,3,4,5,6,7,8,9,10,11,12,13,14,15,16,17,18] fun x8 => finz [] (x8.a) (x8.o) (x8.v)) (by kernel_rfl) (by kernel_rfl)
theorem mt_0Lf (vl ml fr it td ck cv ta : Addr) (e0 e1 e2 e3 e4 e5 e6 e7 e8 e9 e10 : Addr) (g0 g1 g2 g3 g4 g5 g6 g7 g8 g9 g10 : Obj) (vs ms : List Value) (nv n i : Nat) (V : List Nat) (l : List (List Nat × Nat × List Nat)) (tkt : Nat → Nat) (k0 k1 k2 : Nat) (tk tv : Nat)  (hv : vs[i]? = some (.ref ta)) (hl : ∀ p ∈ l, p.1 ≠ V) (hl2 : l.length ≤ 100) (ch : Nat) (nt : Nat) (hC : ∀ (it acc loc : Nat), CS w os 560 (compC w 142 [1, 0] it acc loc fr [(⟨Zaa⟩, cv), (⟨#[107]⟩, ck)]) [(it, itO ml 0), (ml, lsO ms n), (acc, lsO [] 0), (loc, dcE w []), (ck, cellO (.int 0 tk)), (cv, cellO (sv V tv))] 0 rNx (fun x => [x.o 0, lsO ms n, lsO (stL [[ch]] (fun j => x.a (j + 3))) nt, dq11 w (x.a 0) (x.v 0), cellO (.int 0 tk), cellO (sv V tv)]) oNl) (hch : ([ch] == [97]) = true) (lo : List (List Nat × Nat × List Nat)) (hN : ∀ (tkt' : Nat → Nat) (v3' vck' vcv' : Value) (k3' : Nat), CS w os 440 (forCC w 142 [1] it fr [(⟨Zaa⟩, cv), (⟨#[107]⟩, ck)]) [(vl, lsO vs nv), (ml, lsO ms n), (fr, fq15 w k0 (.ref vl) k1 (.ref ml) k2 (.ref td) k3' v3'), (ck, cellO vck'), (cv, cellO vcv'), (td, dcE w (tabL (l ++ [(V, tv, [65])]) tkt')), (it, itO vl (i+1)), (ta, tupO [.int 0 tk, sv V tv]), (e0, g0), (e1, g1), (e2, g2), (e3, g3), (e4, g4), (e5, g5), (e6, g6), (e7, g7), (e8, g8), (e9, g9), (e10, g10)] 0 rNx (fun x => [lsO vs nv, lsO ms n, fq15 w k0 (.ref vl) k1 (.ref ml) k2 (.ref td) k3' (x.v 0), cellO (x.v 1), cellO (x.v 2), dcE w (tabL lo (fun j => x.a (j + 3))), x.o 0, tupO [.int 0 tk, sv V tv], g0, g1, g2, g3, g4, g5, g6, g7, g8, g9, g10]) oNl) : CS w os 440 (forCC w 142 [1] it fr [(⟨Zaa⟩, cv), (⟨#[107]⟩, ck)]) [(vl, lsO vs nv), (ml, lsO ms n), (fr, fq14 w k0 (.ref vl) k1 (.ref ml) k2 (.ref td)), (ck, cNo), (cv, cNo), (td, dcE w (tabL l tkt)), (it, itO vl i), (ta, tupO [.int 0 tk, sv V tv]), (e0, g0), (e1, g1), (e2, g2), (e3, g3), (e4, g4), (e5, g5), (e6, g6), (e7, g7), (e8, g8), (e9, g9), (e10, g10)] 0 rNx (fun x => [lsO vs nv, lsO ms n, fq15 w k0 (.ref vl) k1 (.ref ml) k2 (.ref td) (x.a 0) (x.v 0), cellO (x.v 1), cellO (x.v 2), dcE w (tabL lo (fun j => x.a (j + 3))), x.o 0, tupO [.int 0 tk, sv V tv], g0, g1, g2, g3, g4, g5, g6, g7, g8, g9, g10]) oNl :=
  CB2 (orS (isForAt [231,232]) (isB ["list_iterator.__next__","len","int.__eq__","str.__eq__","dict.__setitem__"])) 30000 oq21 oq22 (fun b0 t0 => vi (next_s (it := it) (l := vl) (i := i) (xs := vs) (n := nv) hv) [6,0] fun b1 t1 x1 => via (hC (b1+3) (b1+4) (b1+5)) [22,1,23,24,3,4] fun b2 t2 x2 => vj (dnewT (dd := td) (l := l) (tk := tkt) (V := V) (z := tv) (r := []) (t := (t2+2)) hl hl2) [5] fun _ => vi (lenT (a := (b1+4)) (l := [[ch]]) (tk := fun j => x2.a (j + 3)) (n := nt) (k := 1) rfl (by decide)) [23] fun b4 t4 x4 => vi (eqI (m := iN 1) (n := 1) (u := (x4.a 0)) (v := (t4+1)) (b := true) rfl) [] fun b5 t5 x5 => vi (eqS (s := ⟨#[ch]⟩) (t := ⟨#[97]⟩) (u := (x2.a 3)) (v := (t5+3)) hch) [] fun b6 t6 x6 => vj (dsetT (dd := td) (l := l) (tk := updT tkt l.length (t2+2)) (V := V) (tv := tv) (z := tv) (r0 := []) (r := [65]) (t := (t6+2)) hl) [5] fun _ => vx (hN (updT (updT tkt l.length (t2+2)) l.length (t6+2)) (.ref (b1+4)) (.int 0 tk) (sv V tv) (t2+1)) [0,1,2,3,4,5,6,7,8,9,10,11,12,13,14,15,16,17,18] fun x8 => finz [] (fun j => match j with | 0 => (t2+1) | j + 1 => x8.a (j + 1)) (x8.o) (x8.v)) (by kernel_rfl) (by kernel_rfl)
theorem mt_0N (vl ml fr it td ck cv ta : Addr) (e0 e1 e2 e3 e4 e5 e6 e7 e8 e9 e10 : Addr) (g0 g1 g2 g3 g4 g5 g6 g7 g8 g9 g10 : Obj) (vs ms : List Value) (nv n i : Nat) (V : List Nat) (l : List (List Nat × Nat × List Nat)) (tkt : Nat → Nat) (k0 k1 k2 : Nat) (tk tv : Nat) (k3 : Nat) (v3 vck vcv : Value)  (hv : vs[i]? = some (.ref ta)) (hl : ∀ p ∈ l, p.1 ≠ V) (hl2 : l.length ≤ 100) (there : List (List Nat)) (nt : Nat) (hC : ∀ (it acc loc : Nat), CS w os 560 (compC w 142 [1, 0] it acc loc fr [(⟨Zaa⟩, cv), (⟨#[107]⟩, ck)]) [(it, itO ml 0), (ml, lsO ms n), (acc, lsO [] 0), (loc, dcE w []), (ck, cellO (.int 0 tk)), (cv, cellO (sv V tv))] 0 rNx (fun x => [x.o 0, lsO ms n, lsO (stL there (fun j => x.a (j + 3))) nt, dq11 w (x.a 0) (x.v 0), cellO (.int 0 tk), cellO (sv V tv)]) oNl) (m : Nat) (hm : there.length = m) (hm' : m ≤ 1000) (hm1 : (iN m == 1) = false) (lo : List (List Nat × Nat × List Nat)) (hN : ∀ (tkt' : Nat → Nat) (v3' vck' vcv' : Value), CS w os 440 (forCC w 142 [1] it fr [(⟨Zaa⟩, cv), (⟨#[107]⟩, ck)]) [(vl, lsO vs nv), (ml, lsO ms n), (fr, fq15 w k0 (.ref vl) k1 (.ref ml) k2 (.ref td) k3 v3'), (ck, cellO vck'), (cv, cellO vcv'), (td, dcE w (tabL (l ++ [(V, tv, [])]) tkt')), (it, itO vl (i+1)), (ta, tupO [.int 0 tk, sv V tv]), (e0, g0), (e1, g1), (e2, g2), (e3, g3), (e4, g4), (e5, g5), (e6, g6), (e7, g7), (e8, g8), (e9, g9), (e10, g10)] 0 rNx (fun x => [lsO vs nv, lsO ms n, fq15 w k0 (.ref vl) k1 (.ref ml) k2 (.ref td) k3 (x.v 0), cellO (x.v 1), cellO (x.v 2), dcE w (tabL lo (fun j => x.a (j + 3))), x.o 0, tupO [.int 0 tk, sv V tv], g0, g1, g2, g3, g4, g5, g6, g7, g8, g9, g10]) oNl) : CS w os 440 (forCC w 142 [1] it fr [(⟨Zaa⟩, cv), (⟨#[107]⟩, ck)]) [(vl, lsO vs nv), (ml, lsO ms n), (fr, fq15 w k0 (.ref vl) k1 (.ref ml) k2 (.ref td) k3 v3), (ck, cellO vck), (cv, cellO vcv), (td, dcE w (tabL l tkt)), (it, itO vl i), (ta, tupO [.int 0 tk, sv V tv]), (e0, g0), (e1, g1), (e2, g2), (e3, g3), (e4, g4), (e5, g5), (e6, g6), (e7, g7), (e8, g8), (e9, g9), (e10, g10)] 0 rNx (fun x => [lsO vs nv, lsO ms n, fq15 w k0 (.ref vl) k1 (.ref ml) k2 (.ref td) k3 (x.v 0), cellO (x.v 1), cellO (x.v 2), dcE w (tabL lo (fun j => x.a (j + 3))), x.o 0, tupO [.int 0 tk, sv V tv], g0, g1, g2, g3, g4, g5, g6, g7, g8, g9, g10]) oNl :=
  CB2 (orS (isForAt [231,232]) (isB ["list_iterator.__next__","len","int.__eq__","str.__eq__","dict.__setitem__"])) 30000 oq23 oq24 (fun b0 t0 => vi (next_s (it := it) (l := vl) (i := i) (xs := vs) (n := nv) hv) [6,0] fun b1 t1 x1 => via (hC (b1+3) (b1+4) (b1+5)) [22,1,23,24,3,4] fun b2 t2 x2 => vj (dnewT (dd := td) (l := l) (tk := tkt) (V := V) (z := tv) (r := []) (t := (t2+2)) hl hl2) [5] fun _ => vi (lenT (a := (b1+4)) (l := there) (tk := fun j => x2.a (j + 3)) (n := nt) (k := m) hm hm') [23] fun b4 t4 x4 => vj (eqI (m := iN m) (n := 1) (u := (x4.a 0)) (v := (t4+1)) hm1) [] fun _ => vx (hN (updT tkt l.length (t2+2)) (.ref (b1+4)) (.int 0 tk) (sv V tv) ) [0,1,2,3,4,5,6,7,8,9,10,11,12,13,14,15,16,17,18] fun x6 => finz [] (x6.a) (x6.o) (x6.v)) (by kernel_rfl) (by kernel_rfl)
theorem mt_0Nf (vl ml fr it td ck cv ta : Addr) (e0 e1 e2 e3 e4 e5 e6 e7 e8 e9 e10 : Addr) (g0 g1 g2 g3 g4 g5 g6 g7 g8 g9 g10 : Obj) (vs ms : List Value) (nv n i : Nat) (V : List Nat) (l : List (List Nat × Nat × List Nat)) (tkt : Nat → Nat) (k0 k1 k2 : Nat) (tk tv : Nat)  (hv : vs[i]? = some (.ref ta)) (hl : ∀ p ∈ l, p.1 ≠ V) (hl2 : l.length ≤ 100) (there : List (List Nat)) (nt : Nat) (hC : ∀ (it acc loc : Nat), CS w os 560 (compC w 142 [1, 0] it acc loc fr [(⟨Zaa⟩, cv), (⟨#[107]⟩, ck)]) [(it, itO ml 0), (ml, lsO ms n), (acc, lsO [] 0), (loc, dcE w []), (ck, cellO (.int 0 tk)), (cv, cellO (sv V tv))] 0 rNx (fun x => [x.o 0, lsO ms n, lsO (stL there (fun j => x.a (j + 3))) nt, dq11 w (x.a 0) (x.v 0), cellO (.int 0 tk), cellO (sv V tv)]) oNl) (m : Nat) (hm : there.length = m) (hm' : m ≤ 1000) (hm1 : (iN m == 1) = false) (lo : List (List Nat × Nat × List Nat)) (hN : ∀ (tkt' : Nat → Nat) (v3' vck' vcv' : Value) (k3' : Nat), CS w os 440 (forCC w 142 [1] it fr [(⟨Zaa⟩, cv), (⟨#[107]⟩, ck)]) [(vl, lsO vs nv), (ml, lsO ms n), (fr, fq15 w k0 (.ref vl) k1 (.ref ml) k2 (.ref td) k3' v3'), (ck, cellO vck'), (cv, cellO vcv'), (td, dcE w (tabL (l ++ [(V, tv, [])]) tkt')), (it, itO vl (i+1)), (ta, tupO [.int 0 tk, sv V tv]), (e0, g0), (e1, g1), (e2, g2), (e3, g3), (e4, g4), (e5, g5), (e6, g6), (e7, g7), (e8, g8), (e9, g9), (e10, g10)] 0 rNx (fun x => [lsO vs nv, lsO ms n, fq15 w k0 (.ref vl) k1 (.ref ml) k2 (.ref td) k3' (x.v 0), cellO (x.v 1), cellO (x.v 2), dcE w (tabL lo (fun j => x.a (j + 3))), x.o 0, tupO [.int 0 tk, sv V tv], g0, g1, g2, g3, g4, g5, g6, g7, g8, g9, g10]) oNl) : CS w os 440 (forCC w 142 [1] it fr [(⟨Zaa⟩, cv), (⟨#[107]⟩, ck)]) [(vl, lsO vs nv), (ml, lsO ms n), (fr, fq14 w k0 (.ref vl) k1 (.ref ml) k2 (.ref td)), (ck, cNo), (cv, cNo), (td, dcE w (tabL l tkt)), (it, itO vl i), (ta, tupO [.int 0 tk, sv V tv]), (e0, g0), (e1, g1), (e2, g2), (e3, g3), (e4, g4), (e5, g5), (e6, g6), (e7, g7), (e8, g8), (e9, g9), (e10, g10)] 0 rNx (fun x => [lsO vs nv, lsO ms n, fq15 w k0 (.ref vl) k1 (.ref ml) k2 (.ref td) (x.a 0) (x.v 0), cellO (x.v 1), cellO (x.v 2), dcE w (tabL lo (fun j => x.a (j + 3))), x.o 0, tupO [.int 0 tk, sv V tv], g0, g1, g2, g3, g4, g5, g6, g7, g8, g9, g10]) oNl :=
  CB2 (orS (isForAt [231,232]) (isB ["list_iterator.__next__","len","int.__eq__","str.__eq__","dict.__setitem__"])) 30000 oq23 oq24 (fun b0 t0 => vi (next_s (it := it) (l := vl) (i := i) (xs := vs) (n := nv) hv) [6,0] fun b1 t1 x1 => via (hC (b1+3) (b1+4) (b1+5)) [22,1,23,24,3,4] fun b2 t2 x2 => vj (dnewT (dd := td) (l := l) (tk := tkt) (V := V) (z := tv) (r := []) (t := (t2+2)) hl hl2) [5] fun _ => vi (lenT (a := (b1+4)) (l := there) (tk := fun j => x2.a (j + 3)) (n := nt) (k := m) hm hm') [23] fun b4 t4 x4 => vj (eqI (m := iN m) (n := 1) (u := (x4.a 0)) (v := (t4+1)) hm1) [] fun _ => vx (hN (updT tkt l.length (t2+2)) (.ref (b1+4)) (.int 0 tk) (sv V tv) (t2+1)) [0,1,2,3,4,5,6,7,8,9,10,11,12,13,14,15,16,17,18] fun x6 => finz [] (fun j => match j with | 0 => (t2+1) | j + 1 => x6.a (j + 1)) (x6.o) (x6.v)) (by kernel_rfl) (by kernel_rfl)
theorem mt_0U (vl ml fr it td ck cv ta : Addr) (e0 e1 e2 e3 e4 e5 e6 e7 e8 e9 e10 : Addr) (g0 g1 g2 g3 g4 g5 g6 g7 g8 g9 g10 : Obj) (vs ms : List Value) (nv n i : Nat) (V : List Nat) (l : List (List Nat × Nat × List Nat)) (tkt : Nat → Nat) (k0 k1 k2 : Nat) (tk tv : Nat) (k3 : Nat) (v3 vck vcv : Value)  (hv : vs[i]? = some (.ref ta)) (hl : ∀ p ∈ l, p.1 ≠ V) (hl2 : l.length ≤ 100) (ch : Nat) (nt : Nat) (hC : ∀ (it acc loc : Nat), CS w os 560 (compC w 142 [1, 0] it acc loc fr [(⟨Zaa⟩, cv), (⟨#[107]⟩, ck)]) [(it, itO ml 0), (ml, lsO ms n), (acc, lsO [] 0), (loc, dcE w []), (ck, cellO (.int 0 tk)), (cv, cellO (sv V tv))] 0 rNx (fun x => [x.o 0, lsO ms n, lsO (stL [[ch]] (fun j => x.a (j + 3))) nt, dq11 w (x.a 0) (x.v 0), cellO (.int 0 tk), cellO (sv V tv)]) oNl) (hch : ([ch] == [97]) = false) (lo : List (List Nat × Nat × List Nat)) (hN : ∀ (tkt' : Nat → Nat) (v3' vck' vcv' : Value), CS w os 440 (forCC w 142 [1] it fr [(⟨Zaa⟩, cv), (⟨#[107]⟩, ck)]) [(vl, lsO vs nv), (ml, lsO ms n), (fr, fq15 w k0 (.ref vl) k1 (.ref ml) k2 (.ref td) k3 v3'), (ck, cellO vck'), (cv, cellO vcv'), (td, dcE w (tabL (l ++ [(V, tv, [97])]) tkt')), (it, itO vl (i+1)), (ta, tupO [.int 0 tk, sv V tv]), (e0, g0), (e1, g1), (e2, g2), (e3, g3), (e4, g4), (e5, g5), (e6, g6), (e7, g7), (e8, g8), (e9, g9), (e10, g10)] 0 rNx (fun x => [lsO vs nv, lsO ms n, fq15 w k0 (.ref vl) k1 (.ref ml) k2 (.ref td) k3 (x.v 0), cellO (x.v 1), cellO (x.v 2), dcE w (tabL lo (fun j => x.a (j + 3))), x.o 0, tupO [.int 0 tk, sv V tv], g0, g1, g2, g3, g4, g5, g6, g7, g8, g9, g10]) oNl) : CS w os 440 (forCC w 142 [1] it fr [(⟨Zaa⟩, cv), (⟨#[107]⟩, ck)]) [(vl, lsO vs nv), (ml, lsO ms n), (fr, fq15 w k0 (.ref vl) k1 (.ref ml) k2 (.ref td) k3 v3), (ck, cellO vck), (cv, cellO vcv), (td, dcE w (tabL l tkt)), (it, itO vl i), (ta, tupO [.int 0 tk, sv V tv]), (e0, g0), (e1, g1), (e2, g2), (e3, g3), (e4, g4), (e5, g5), (e6, g6), (e7, g7), (e8, g8), (e9, g9), (e10, g10)] 0 rNx (fun x => [lsO vs nv, lsO ms n, fq15 w k0 (.ref vl) k1 (.ref ml) k2 (.ref td) k3 (x.v 0), cellO (x.v 1), cellO (x.v 2), dcE w (tabL lo (fun j => x.a (j + 3))), x.o 0, tupO [.int 0 tk, sv V tv], g0, g1, g2, g3, g4, g5, g6, g7, g8, g9, g10]) oNl :=
  CB2 (orS (isForAt [231,232]) (isB ["list_iterator.__next__","len","int.__eq__","str.__eq__","dict.__setitem__"])) 30000 oq21 oq22 (fun b0 t0 => vi (next_s (it := it) (l := vl) (i := i) (xs := vs) (n := nv) hv) [6,0] fun b1 t1 x1 => via (hC (b1+3) (b1+4) (b1+5)) [22,1,23,24,3,4] fun b2 t2 x2 => vj (dnewT (dd := td) (l := l) (tk := tkt) (V := V) (z := tv) (r := []) (t := (t2+2)) hl hl2) [5] fun _ => vi (lenT (a := (b1+4)) (l := [[ch]]) (tk := fun j => x2.a (j + 3)) (n := nt) (k := 1) rfl (by decide)) [23] fun b4 t4 x4 => vi (eqI (m := iN 1) (n := 1) (u := (x4.a 0)) (v := (t4+1)) (b := true) rfl) [] fun b5 t5 x5 => vi (eqS (s := ⟨#[ch]⟩) (t := ⟨#[97]⟩) (u := (x2.a 3)) (v := (t5+3)) hch) [] fun b6 t6 x6 => vj (dsetT (dd := td) (l := l) (tk := updT tkt l.length (t2+2)) (V := V) (tv := tv) (z := tv) (r0 := []) (r := [97]) (t := (t6+2)) hl) [5] fun _ => vx (hN (updT (updT tkt l.length (t2+2)) l.length (t6+2)) (.ref (b1+4)) (.int 0 tk) (sv V tv) ) [0,1,2,3,4,5,6,7,8,9,10,11,12,13,14,15,16,17,18] fun x8 => finz [] (x8.a) (x8.o) (x8.v)) (by kernel_rfl) (by kernel_rfl)
theorem mt_0Uf (vl ml fr it td ck cv ta : Addr) (e0 e1 e2 e3 e4 e5 e6 e7 e8 e9 e10 : Addr) (g0 g1 g2 g3 g4 g5 g6 g7 g8 g9 g10 : Obj) (vs ms : List Value) (nv n i : Nat) (V : List Nat) (l : List (List Nat × Nat × List Nat)) (tkt : Nat → Nat) (k0 k1 k2 : Nat) (tk tv : Nat)  (hv : vs[i]? = some (.ref ta)) (hl : ∀ p ∈ l, p.1 ≠ V) (hl2 : l.length ≤ 100) (ch : Nat) (nt : Nat) (hC : ∀ (it acc loc : Nat), CS w os 560 (compC w 142 [1, 0] it acc loc fr [(⟨Zaa⟩, cv), (⟨#[107]⟩, ck)]) [(it, itO ml 0), (ml, lsO ms n), (acc, lsO [] 0), (loc, dcE w []), (ck, cellO (.int 0 tk)), (cv, cellO (sv V tv))] 0 rNx (fun x => [x.o 0, lsO ms n, lsO (stL [[ch]] (fun j => x.a (j + 3))) nt, dq11 w (x.a 0) (x.v 0), cellO (.int 0 tk), cellO (sv V tv)]) oNl) (hch : ([ch] == [97]) = false) (lo : List (List Nat × Nat × List Nat)) (hN : ∀ (tkt' : Nat → Nat) (v3' vck' vcv' : Value) (k3' : Nat), CS w os 440 (forCC w 142 [1] it fr [(⟨Zaa⟩, cv), (⟨#[107]⟩, ck)]) [(vl, lsO vs nv), (ml, lsO ms n), (fr, fq15 w k0 (.ref vl) k1 (.ref ml) k2 (.ref td) k3' v3'), (ck, cellO vck'), (cv, cellO vcv'), (td, dcE w (tabL (l ++ [(V, tv, [97])]) tkt')), (it, itO vl (i+1)), (ta, tupO [.int 0 tk, sv V tv]), (e0, g0), (e1, g1), (e2, g2), (e3, g3), (e4, g4), (e5, g5), (e6, g6), (e7, g7), (e8, g8), (e9, g9), (e10, g10)] 0 rNx (fun x => [lsO vs nv, lsO ms n, fq15 w k0 (.ref vl) k1 (.ref ml) k2 (.ref td) k3' (x.v 0), cellO (x.v 1), cellO (x.v 2), dcE w (tabL lo (fun j => x.a (j + 3))), x.o 0, tupO [.int 0 tk, sv V tv], g0, g1, g2, g3, g4, g5, g6, g7, g8, g9, g10]) oNl) : CS w os 440 (forCC w 142 [1] it fr [(⟨Zaa⟩, cv), (⟨#[107]⟩, ck)]) [(vl, lsO vs nv), (ml, lsO ms n), (fr, fq14 w k0 (.ref vl) k1 (.ref ml) k2 (.ref td)), (ck, cNo), (cv, cNo), (td, dcE w (tabL l tkt)), (it, itO vl i), (ta, tupO [.int 0 tk, sv V tv]), (e0, g0), (e1, g1), (e2, g2), (e3, g3), (e4, g4), (e5, g5), (e6, g6), (e7, g7), (e8, g8), (e9, g9), (e10, g10)] 0 rNx (fun x => [lsO vs nv, lsO ms n, fq15 w k0 (.ref vl) k1 (.ref ml) k2 (.ref td) (x.a 0) (x.v 0), cellO (x.v 1), cellO (x.v 2), dcE w (tabL lo (fun j => x.a (j + 3))), x.o 0, tupO [.int 0 tk, sv V tv], g0, g1, g2, g3, g4, g5, g6, g7, g8, g9, g10]) oNl :=
  CB2 (orS (isForAt [231,232]) (isB ["list_iterator.__next__","len","int.__eq__","str.__eq__","dict.__setitem__"])) 30000 oq21 oq22 (fun b0 t0 => vi (next_s (it := it) (l := vl) (i := i) (xs := vs) (n := nv) hv) [6,0] fun b1 t1 x1 => via (hC (b1+3) (b1+4) (b1+5)) [22,1,23,24,3,4] fun b2 t2 x2 => vj (dnewT (dd := td) (l := l) (tk := tkt) (V := V) (z := tv) (r := []) (t := (t2+2)) hl hl2) [5] fun _ => vi (lenT (a := (b1+4)) (l := [[ch]]) (tk := fun j => x2.a (j + 3)) (n := nt) (k := 1) rfl (by decide)) [23] fun b4 t4 x4 => vi (eqI (m := iN 1) (n := 1) (u := (x4.a 0)) (v := (t4+1)) (b := true) rfl) [] fun b5 t5 x5 => vi (eqS (s := ⟨#[ch]⟩) (t := ⟨#[97]⟩) (u := (x2.a 3)) (v := (t5+3)) hch) [] fun b6 t6 x6 => vj (dsetT (dd := td) (l := l) (tk := updT tkt l.length (t2+2)) (V := V) (tv := tv) (z := tv) (r0 := []) (r := [97]) (t := (t6+2)) hl) [5] fun _ => vx (hN (updT (updT tkt l.length (t2+2)) l.length (t6+2)) (.ref (b1+4)) (.int 0 tk) (sv V tv) (t2+1)) [0,1,2,3,4,5,6,7,8,9,10,11,12,13,14,15,16,17,18] fun x8 => finz [] (fun j => match j with | 0 => (t2+1) | j + 1 => x8.a (j + 1)) (x8.o) (x8.v)) (by kernel_rfl) (by kernel_rfl)
theorem mt_1E (vl ml fr it td ck cv ta : Addr) (e0 e1 e2 e3 e4 e5 e6 e7 e8 e9 e10 : Addr) (g0 g1 g2 g3 g4 g5 g6 g7 g8 g9 g10 : Obj) (vs ms : List Value) (nv n i : Nat) (V : List Nat) (l : List (List Nat × Nat × List Nat)) (tkt : Nat → Nat) (k0 k1 k2 : Nat) (tk tv : Nat) (k3 : Nat) (v3 vck vcv : Value)  (hv : vs[i]? = some (.ref ta)) (hl : ∀ p ∈ l, p.1 ≠ V) (hl2 : l.length ≤ 100) (there : List (List Nat)) (nt : Nat) (hC : ∀ (it acc loc : Nat), CS w os 560 (compC w 142 [1, 0] it acc loc fr [(⟨Zaa⟩, cv), (⟨#[107]⟩, ck)]) [(it, itO ml 0), (ml, lsO ms n), (acc, lsO [] 0), (loc, dcE w []), (ck, cellO (.int 1 tk)), (cv, cellO (sv V tv))] 0 rNx (fun x => [x.o 0, lsO ms n, lsO (stL there (fun j => x.a (j + 3))) nt, dcE w [], cellO (.int 1 tk), cellO (sv V tv)]) oNl) (m : Nat) (hm : there.length = m) (hm' : m ≤ 1000) (hm1 : (iN m == 1) = false) (lo : List (List Nat × Nat × List Nat)) (hN : ∀ (tkt' : Nat → Nat) (v3' vck' vcv' : Value), CS w os 440 (forCC w 142 [1] it fr [(⟨Zaa⟩, cv), (⟨#[107]⟩, ck)]) [(vl, lsO vs nv), (ml, lsO ms n), (fr, fq15 w k0 (.ref vl) k1 (.ref ml) k2 (.ref td) k3 v3'), (ck, cellO vck'), (cv, cellO vcv'), (td, dcE w (tabL (l ++ [(V, tv, [])]) tkt')), (it, itO vl (i+1)), (ta, tupO [.int 1 tk, sv V tv]), (e0, g0), (e1, g1), (e2, g2), (e3, g3), (e4, g4), (e5, g5), (e6, g6), (e7, g7), (e8, g8), (e9, g9), (e10, g10)] 0 rNx (fun x => [lsO vs nv, lsO ms n, fq15 w k0 (.ref vl) k1 (.ref ml) k2 (.ref td) k3 (x.v 0), cellO (x.v 1), cellO (x.v 2), dcE w (tabL lo (fun j => x.a (j + 3))), x.o 0, tupO [.int 1 tk, sv V tv], g0, g1, g2, g3, g4, g5, g6, g7, g8, g9, g10]) oNl) : CS w os 440 (forCC w 142 [1] it fr [(⟨Zaa⟩, cv), (⟨#[107]⟩, ck)]) [(vl, lsO vs nv), (ml, lsO ms n), (fr, fq15 w k0 (.ref vl) k1 (.ref ml) k2 (.ref td) k3 v3), (ck, cellO vck), (cv, cellO vcv), (td, dcE w (tabL l tkt)), (it, itO vl i), (ta, tupO [.int 1 tk, sv V tv]), (e0, g0), (e1, g1), (e2, g2), (e3, g3), (e4, g4), (e5, g5), (e6, g6), (e7, g7), (e8, g8), (e9, g9), (e10, g10)] 0 rNx (fun x => [lsO vs nv, lsO ms n, fq15 w k0 (.ref vl) k1 (.ref ml) k2 (.ref td) k3 (x.v 0), cellO (x.v 1), cellO (x.v 2), dcE w (tabL lo (fun j => x.a (j + 3))), x.o 0, tupO [.int 1 tk, sv V tv], g0, g1, g2, g3, g4, g5, g6, g7, g8, g9, g10]) oNl :=
  CB2 (orS (isForAt [231,232]) (isB ["list_iterator.__next__","len","int.__eq__","str.__eq__","dict.__setitem__"])) 30000 oq19 oq20 (fun b0 t0 => vi (next_s (it := it) (l := vl) (i := i) (xs := vs) (n := nv) hv) [6,0] fun b1 t1 x1 => via (hC (b1+3) (b1+4) (b1+5)) [22,1,23,24,3,4] fun b2 t2 x2 => vj (dnewT (dd := td) (l := l) (tk := tkt) (V := V) (z := tv) (r := []) (t := (t2+2)) hl hl2) [5] fun _ => vi (lenT (a := (b1+4)) (l := there) (tk := fun j => x2.a (j + 3)) (n := nt) (k := m) hm hm') [23] fun b4 t4 x4 => vj (eqI (m := iN m) (n := 1) (u := (x4.a 0)) (v := (t4+1)) hm1) [] fun _ => vx (hN (updT tkt l.length (t2+2)) (.ref (b1+4)) (.int 1 tk) (sv V tv) ) [0,1,2,3,4,5,6,7,8,9,10,11,12,13,14,15,16,17,18] fun x6 => finz [] (x6.a) (x6.o) (x6.v)) (by kernel_rfl) (by kernel_rfl)
theorem mt_1L (vl ml fr it td ck cv ta : Addr) (e0 e1 e2 e3 e4 e5 e6 e7 e8 e9 e10 : Addr) (g0 g1 g2 g3 g4 g5 g6 g7 g8 g9 g10 : Obj) (vs ms : List Value) (nv n i : Nat) (V : List Nat) (l : List (List Nat × Nat × List Nat)) (tkt : Nat → Nat) (k0 k1 k2 : Nat) (tk tv : Nat) (k3 : Nat) (v3 vck vcv : Value)  (hv : vs[i]? = some (.ref ta)) (hl : ∀ p ∈ l, p.1 ≠ V) (hl2 : l.length ≤ 100) (ch : Nat) (nt : Nat) (hC : ∀ (it acc loc : Nat), CS w os 560 (compC w 142 [1, 0] it acc loc fr [(⟨Zaa⟩, cv), (⟨#[107]⟩, ck)]) [(it, itO ml 0), (ml, lsO ms n), (acc, lsO [] 0), (loc, dcE w []), (ck, cellO (.int 1 tk)), (cv, cellO (sv V tv))] 0 rNx (fun x => [x.o 0, lsO ms n, lsO (stL [[ch]] (fun j => x.a (j + 3))) nt, dq11 w (x.a 0) (x.v 0), cellO (.int 1 tk), cellO (sv V tv)]) oNl) (hch : ([ch] == [98]) = true) (lo : List (List Nat × Nat × List Nat)) (hN : ∀ (tkt' : Nat → Nat) (v3' vck' vcv' : Value), CS w os 440 (forCC w 142 [1] it fr [(⟨Zaa⟩, cv), (⟨#[107]⟩, ck)]) [(vl, lsO vs nv), (ml, lsO ms n), (fr, fq15 w k0 (.ref vl) k1 (.ref ml) k2 (.ref td) k3 v3'), (ck, cellO vck'), (cv, cellO vcv'), (td, dcE w (tabL (l ++ [(V, tv, [66])]) tkt')), (it, itO vl (i+1)), (ta, tupO [.int 1 tk, sv V tv]), (e0, g0), (e1, g1), (e2, g2), (e3, g3), (e4, g4), (e5, g5), (e6, g6), (e7, g7), (e8, g8), (e9, g9), (e10, g10)] 0 rNx (fun x => [lsO vs nv, lsO ms n, fq15 w k0 (.ref vl) k1 (.ref ml) k2 (.ref td) k3 (x.v 0), cellO (x.v 1), cellO (x.v 2), dcE w (tabL lo (fun j => x.a (j + 3))), x.o 0, tupO [.int 1 tk, sv V tv], g0, g1, g2, g3, g4, g5, g6, g7, g8, g9, g10]) oNl) : CS w os 440 (forCC w 142 [1] it fr [(⟨Zaa⟩, cv), (⟨#[107]⟩, ck)]) [(vl, lsO vs nv), (ml, lsO ms n), (fr, fq15 w k0 (.ref vl) k1 (.ref ml) k2 (.ref td) k3 v3), (ck, cellO vck), (cv, cellO vcv), (td, dcE w (tabL l tkt)), (it, itO vl i), (ta, tupO [.int 1 tk, sv V tv]), (e0, g0), (e1, g1), (e2, g2), (e3, g3), (e4, g4), (e5, g5), (e6, g6), (e7, g7), (e8, g8), (e9, g9), (e10, g10)] 0 rNx (fun x => [lsO vs nv, lsO ms n, fq15 w k0 (.ref vl) k1 (.ref ml) k2 (.ref td) k3 (x.v 0), cellO (x.v 1), cellO (x.v 2), dcE w (tabL lo (fun j => x.a (j + 3))), x.o 0, tupO [.int 1 tk, sv V tv], g0, g1, g2, g3, g4, g5, g6, g7, g8, g9, g10]) oNl :=
  CB2 (orS (isForAt [231,232]) (isB ["list_iterator.__next__","len","int.__eq__","str.__eq__","dict.__setitem__"])) 30000 oq21 oq22 (fun b0 t0 => vi (next_s (it := it) (l := vl) (i := i) (xs := vs) (n := nv) hv) [6,0] fun b1 t1 x1 => via (hC (b1+3) (b1+4) (b1+5)) [22,1,23,24,3,4] fun b2 t2 x2 => vj (dnewT (dd := td) (l := l) (tk := tkt) (V := V) (z := tv) (r := []) (t := (t2+2)) hl hl2) [5] fun _ => vi (lenT (a := (b1+4)) (l := [[ch]]) (tk := fun j => x2.a (j + 3)) (n := nt) (k := 1) rfl (by decide)) [23] fun b4 t4 x4 => vi (eqI (m := iN 1) (n := 1) (u := (x4.a 0)) (v := (t4+1)) (b := true) rfl) [] fun b5 t5 x5 => vi (eqS (s := ⟨#[ch]⟩) (t := ⟨#[98]⟩) (u := (x2.a 3)) (v := (t5+3)) hch) [] fun b6 t6 x6 => vj (dsetT (dd := td) (l := l) (tk := updT tkt l.length (t2+2)) (V := V) (tv := tv) (z := tv) (r0 := []) (r := [66]) (t := (t6+2)) hl) [5] fun _ => vx (hN (updT (updT tkt l.length (t2+2)) l.length (t6+2)) (.ref (b1+4)) (.int 1 tk) (sv V tv) ) [0,1,2,3,4,5,6,7,8,9,10,11,12,13,14,15,16,17,18] fun x8 => finz [] (x8.a) (x8.o) (x8.v)) (by kernel_rfl) (by kernel_rfl)
theorem mt_1N (vl ml fr it td ck cv ta : Addr) (e0 e1 e2 e3 e4 e5 e6 e7 e8 e9 e10 : Addr) (g0 g1 g2 g3 g4 g5 g6 g7 g8 g9 g10 : Obj) (vs ms : List Value) (nv n i : Nat) (V : List Nat) (l : List (List Nat × Nat × List Nat)) (tkt : Nat → Nat) (k0 k1 k2 : Nat) (tk tv : Nat) (k3 : Nat) (v3 vck vcv : Value)  (hv : vs[i]? = some (.ref ta)) (hl : ∀ p ∈ l, p.1 ≠ V) (hl2 : l.length ≤ 100) (there : List (List Nat)) (nt : Nat) (hC : ∀ (it acc loc : Nat), CS w os 560 (compC w 142 [1, 0] it acc loc fr [(⟨Zaa⟩, cv), (⟨#[107]⟩, ck)]) [(it, itO ml 0), (ml, lsO ms n), (acc, lsO [] 0), (loc, dcE w []), (ck, cellO (.int 1 tk)), (cv, cellO (sv V tv))] 0 rNx (fun x => [x.o 0, lsO ms n, lsO (stL there (fun j => x.a (j + 3))) nt, dq11 w (x.a 0) (x.v 0), cellO (.int 1 tk), cellO (sv V tv)]) oNl) (m : Nat) (hm : there.length = m) (hm' : m ≤ 1000) (hm1 : (iN m == 1) = false) (lo : List (List Nat × Nat × List Nat)) (hN : ∀ (tkt' : Nat → Nat) (v3' vck' vcv' : Value), CS w os 440 (forCC w 142 [1] it fr [(⟨Zaa⟩, cv), (⟨#[107]⟩, ck)]) [(vl, lsO vs nv), (ml, lsO ms n), (fr, fq15 w k0 (.ref vl) k1 (.ref ml) k2 (.ref td) k3 v3'), (ck, cellO vck'), (cv, cellO vcv'), (td, dcE w (tabL (l ++ [(V, tv, [])]) tkt')), (it, itO vl (i+1)), (ta, tupO [.int 1 tk, sv V tv]), (e0, g0), (e1, g1), (e2, g2), (e3, g3), (e4, g4), (e5, g5), (e6, g6), (e7, g7), (e8, g8), (e9, g9), (e10, g10)] 0 rNx (fun x => [lsO vs nv, lsO ms n, fq15 w k0 (.ref vl) k1 (.ref ml) k2 (.ref td) k3 (x.v 0), cellO (x.v 1), cellO (x.v 2), dcE w (tabL lo (fun j => x.a (j + 3))), x.o 0, tupO [.int 1 tk, sv V tv], g0, g1, g2, g3, g4, g5, g6, g7, g8, g9, g10]) oNl) : CS w os 440 (forCC w 142 [1] it fr [(⟨Zaa⟩, cv), (⟨#[107]⟩, ck)]) [(vl, lsO vs nv), (ml, lsO ms n), (fr, fq15 w k0 (.ref vl) k1 (.ref ml) k2 (.ref td) k3 v3), (ck, cellO vck), (cv, cellO vcv), (td, dcE w (tabL l tkt)), (it, itO vl i), (ta, tupO [.int 1 tk, sv V tv]), (e0, g0), (e1, g1), (e2, g2), (e3, g3), (e4, g4), (e5, g5), (e6, g6), (e7, g7), (e8, g8), (e9, g9), (e10, g10)] 0 rNx (fun x => [lsO vs nv, lsO ms n, fq15 w k0 (.ref vl) k1 (.ref ml) k2 (.ref td) k3 (x.v 0), cellO (x.v 1), cellO (x.v 2), dcE w (tabL lo (fun j => x.a (j + 3))), x.o 0, tupO [.int 1 tk, sv V tv], g0, g1, g2, g3, g4, g5, g6, g7, g8, g9, g10]) oNl :=
  CB2 (orS (isForAt [231,232]) (isB ["list_iterator.__next__","len","int.__eq__","str.__eq__","dict.__setitem__"])) 30000 oq23 oq24 (fun b0 t0 => vi (next_s (it := it) (l := vl) (i := i) (xs := vs) (n := nv) hv) [6,0] fun b1 t1 x1 => via (hC (b1+3) (b1+4) (b1+5)) [22,1,23,24,3,4] fun b2 t2 x2 => vj (dnewT (dd := td) (l := l) (tk := tkt) (V := V) (z := tv) (r := []) (t := (t2+2)) hl hl2) [5] fun _ => vi (lenT (a := (b1+4)) (l := there) (tk := fun j => x2.a (j + 3)) (n := nt) (k := m) hm hm') [23] fun b4 t4 x4 => vj (eqI (m := iN m) (n := 1) (u := (x4.a 0)) (v := (t4+1)) hm1) [] fun _ => vx (hN (updT tkt l.length (t2+2)) (.ref (b1+4)) (.int 1 tk) (sv V tv) ) [0,1,2,3,4,5,6,7,8,9,10,11,12,13,14,15,16,17,18] fun x6 => finz [] (x6.a) (x6.o) (x6.v)) (by kernel_rfl) (by kernel_rfl)
theorem mt_1U (vl ml fr it td ck cv ta : Addr) (e0 e1 e2 e3 e4 e5 e6 e7 e8 e9 e10 : Addr) (g0 g1 g2 g3 g4 g5 g6 g7 g8 g9 g10 : Obj) (vs ms : List Value) (nv n i : Nat) (V : List Nat) (l : List (List Nat × Nat × List Nat)) (tkt : Nat → Nat) (k0 k1 k2 : Nat) (tk tv : Nat) (k3 : Nat) (v3 vck vcv : Value)  (hv : vs[i]? = some (.ref ta)) (hl : ∀ p ∈ l, p.1 ≠ V) (hl2 : l.length ≤ 100) (ch : Nat) (nt : Nat) (hC : ∀ (it acc loc : Nat), CS w os 560 (compC w 142 [1, 0] it acc loc fr [(⟨Zaa⟩, cv), (⟨#[107]⟩, ck)]) [(it, itO ml 0), (ml, lsO ms n), (acc, lsO [] 0), (loc, dcE w []), (ck, cellO (.int 1 tk)), (cv, cellO (sv V tv))] 0 rNx (fun x => [x.o 0, lsO ms n, lsO (stL [[ch]] (fun j => x.a (j + 3))) nt, dq11 w (x.a 0) (x.v 0), cellO (.int 1 tk), cellO (sv V tv)]) oNl) (hch : ([ch] == [98]) = false) (lo : List (List Nat × Nat × List Nat)) (hN : ∀ (tkt' : Nat → Nat) (v3' vck' vcv' : Value), CS w os 440 (forCC w 142 [1] it fr [(⟨Zaa⟩, cv), (⟨#[107]⟩, ck)]) [(vl, lsO vs nv), (ml, lsO ms n), (fr, fq15 w k0 (.ref vl) k1 (.ref ml) k2 (.ref td) k3 v3'), (ck, cellO vck'), (cv, cellO vcv'), (td, dcE w (tabL (l ++ [(V, tv, [98])]) tkt')), (it, itO vl (i+1)), (ta, tupO [.int 1 tk, sv V tv]), (e0, g0), (e1, g1), (e2, g2), (e3, g3), (e4, g4), (e5, g5), (e6, g6), (e7, g7), (e8, g8), (e9, g9), (e10, g10)] 0 rNx (fun x => [lsO vs nv, lsO ms n, fq15 w k0 (.ref vl) k1 (.ref ml) k2 (.ref td) k3 (x.v 0), cellO (x.v 1), cellO (x.v 2), dcE w (tabL lo (fun j => x.a (j + 3))), x.o 0, tupO [.int 1 tk, sv V tv], g0, g1, g2, g3, g4, g5, g6, g7, g8, g9, g10]) oNl) : CS w os 440 (forCC w 142 [1] it fr [(⟨Zaa⟩, cv), (⟨#[107]⟩, ck)]) [(vl, lsO vs nv), (ml, lsO ms n), (fr, fq15 w k0 (.ref vl) k1 (.ref ml) k2 (.ref td) k3 v3), (ck, cellO vck), (cv, cellO vcv), (td, dcE w (tabL l tkt)), (it, itO vl i), (ta, tupO [.int 1 tk, sv V tv]), (e0, g0), (e1, g1), (e2, g2), (e3, g3), (e4, g4), (e5, g5), (e6, g6), (e7, g7), (e8, g8), (e9, g9), (e10, g10)] 0 rNx (fun x => [lsO vs nv, lsO ms n, fq15 w k0 (.ref vl) k1 (.ref ml) k2 (.ref td) k3 (x.v 0), cellO (x.v 1), cellO (x.v 2), dcE w (tabL lo (fun j => x.a (j + 3))), x.o 0, tupO [.int 1 tk, sv V tv], g0, g1, g2, g3, g4, g5, g6, g7, g8, g9, g10]) oNl :=
  CB2 (orS (isForAt [231,232]) (isB ["list_iterator.__next__","len","int.__eq__","str.__eq__","dict.__setitem__"])) 30000 oq21 oq22 (fun b0 t0 => vi (next_s (it := it) (l := vl) (i := i) (xs := vs) (n := nv) hv) [6,0] fun b1 t1 x1 => via (hC (b1+3) (b1+4) (b1+5)) [22,1,23,24,3,4] fun b2 t2 x2 => vj (dnewT (dd := td) (l := l) (tk := tkt) (V := V) (z := tv) (r := []) (t := (t2+2)) hl hl2) [5] fun _ => vi (lenT (a := (b1+4)) (l := [[ch]]) (tk := fun j => x2.a (j + 3)) (n := nt) (k := 1) rfl (by decide)) [23] fun b4 t4 x4 => vi (eqI (m := iN 1) (n := 1) (u := (x4.a 0)) (v := (t4+1)) (b := true) rfl) [] fun b5 t5 x5 => vi (eqS (s := ⟨#[ch]⟩) (t := ⟨#[98]⟩) (u := (x2.a 3)) (v := (t5+3)) hch) [] fun b6 t6 x6 => vj (dsetT (dd := td) (l := l) (tk := updT tkt l.length (t2+2)) (V := V) (tv := tv) (z := tv) (r0 := []) (r := [98]) (t := (t6+2)) hl) [5] fun _ => vx (hN (updT (updT tkt l.length (t2+2)) l.length (t6+2)) (.ref (b1+4)) (.int 1 tk) (sv V tv) ) [0,1,2,3,4,5,6,7,8,9,10,11,12,13,14,15,16,17,18] fun x8 => finz [] (x8.a) (x8.o) (x8.v)) (by kernel_rfl) (by kernel_rfl)
theorem mt_2E (vl ml fr it td ck cv ta : Addr) (e0 e1 e2 e3 e4 e5 e6 e7 e8 e9 e10 : Addr) (g0 g1 g2 g3 g4 g5 g6 g7 g8 g9 g10 : Obj) (vs ms : List Value) (nv n i : Nat) (V : List Nat) (l : List (List Nat × Nat × List Nat)) (tkt : Nat → Nat) (k0 k1 k2 : Nat) (tk tv : Nat) (k3 : Nat) (v3 vck vcv : Value)  (hv : vs[i]? = some (.ref ta)) (hl : ∀ p ∈ l, p.1 ≠ V) (hl2 : l.length ≤ 100) (there : List (List Nat)) (nt : Nat) (hC : ∀ (it acc loc : Nat), CS w os 560 (compC w 142 [1, 0] it acc loc fr [(⟨Zaa⟩, cv), (⟨#[107]⟩, ck)]) [(it, itO ml 0), (ml, lsO ms n), (acc, lsO [] 0), (loc, dcE w []), (ck, cellO (.int 2 tk)), (cv, cellO (sv V tv))] 0 rNx (fun x => [x.o 0, lsO ms n, lsO (stL there (fun j => x.a (j + 3))) nt, dcE w [], cellO (.int 2 tk), cellO (sv V tv)]) oNl) (m : Nat) (hm : there.length = m) (hm' : m ≤ 1000) (hm1 : (iN m == 1) = false) (lo : List (List Nat × Nat × List Nat)) (hN : ∀ (tkt' : Nat → Nat) (v3' vck' vcv' : Value), CS w os 440 (forCC w 142 [1] it fr [(⟨Zaa⟩, cv), (⟨#[107]⟩, ck)]) [(vl, lsO vs nv), (ml, lsO ms n), (fr, fq15 w k0 (.ref vl) k1 (.ref ml) k2 (.ref td) k3 v3'), (ck, cellO vck'), (cv, cellO vcv'), (td, dcE w (tabL (l ++ [(V, tv, [])]) tkt')), (it, itO vl (i+1)), (ta, tupO [.int 2 tk, sv V tv]), (e0, g0), (e1, g1), (e2, g2), (e3, g3), (e4, g4), (e5, g5), (e6, g6), (e7, g7), (e8, g8), (e9, g9), (e10, g10)] 0 rNx (fun x => [lsO vs nv, lsO ms n, fq15 w k0 (.ref vl) k1 (.ref ml) k2 (.ref td) k3 (x.v 0), cellO (x.v 1), cellO (x.v 2), dcE w (tabL lo (fun j => x.a (j + 3))), x.o 0, tupO [.int 2 tk, sv V tv], g0, g1, g2, g3, g4, g5, g6, g7, g8, g9, g10]) oNl) : CS w os 440 (forCC w 142 [1] it fr [(⟨Zaa⟩, cv), (⟨#[107]⟩, ck)]) [(vl, lsO vs nv), (ml, lsO ms n), (fr, fq15 w k0 (.ref vl) k1 (.ref ml) k2 (.ref td) k3 v3), (ck, cellO vck), (cv, cellO vcv), (td, dcE w (tabL l tkt)), (it, itO vl i), (ta, tupO [.int 2 tk, sv V tv]), (e0, g0), (e1, g1), (e2, g2), (e3, g3), (e4, g4), (e5, g5), (e6, g6), (e7, g7), (e8, g8), (e9, g9), (e10, g10)] 0 rNx (fun x => [lsO vs nv, lsO ms n, fq15 w k0 (.ref vl) k1 (.ref ml) k2 (.ref td) k3 (x.v 0), cellO (x.v 1), cellO (x.v 2), dcE w (tabL lo (fun j => x.a (j + 3))), x.o 0, tupO [.int 2 tk, sv V tv], g0, g1, g2, g3, g4, g5, g6, g7, g8, g9, g10]) oNl :=
  CB2 (orS (isForAt [231,232]) (isB ["list_iterator.__next__","len","int.__eq__","str.__eq__","dict.__setitem__"])) 30000 oq19 oq20 (fun b0 t0 => vi (next_s (it := it) (l := vl) (i := i) (xs := vs) (n := nv) hv) [6,0] fun b1 t1 x1 => via (hC (b1+3) (b1+4) (b1+5)) [22,1,23,24,3,4] fun b2 t2 x2 => vj (dnewT (dd := td) (l := l) (tk := tkt) (V := V) (z := tv) (r := []) (t := (t2+2)) hl hl2) [5] fun _ => vi (lenT (a := (b1+4)) (l := there) (tk := fun j => x2.a (j + 3)) (n := nt) (k := m) hm hm') [23] fun b4 t4 x4 => vj (eqI (m := iN m) (n := 1) (u := (x4.a 0)) (v := (t4+1)) hm1) [] fun _ => vx (hN (updT tkt l.length (t2+2)) (.ref (b1+4)) (.int 2 tk) (sv V tv) ) [0,1,2,3,4,5,6,7,8,9,10,11,12,13,14,15,16,17,18] fun x6 => finz [] (x6.a) (x6.o) (x6.v)) (by kernel_rfl) (by kernel_rfl)
theorem mt_2L (vl ml fr it td ck cv ta : Addr) (e0 e1 e2 e3 e4 e5 e6 e7 e8 e9 e10 : Addr) (g0 g1 g2 g3 g4 g5 g6 g7 g8 g9 g10 : Obj) (vs ms : List Value) (nv n i : Nat) (V : List Nat) (l : List (List Nat × Nat × List Nat)) (tkt : Nat → Nat) (k0 k1 k2 : Nat) (tk tv : Nat) (k3 : Nat) (v3 vck vcv : Value)  (hv : vs[i]? = some (.ref ta)) (hl : ∀ p ∈ l, p.1 ≠ V) (hl2 : l.length ≤ 100) (ch : Nat) (nt : Nat) (hC : ∀ (it acc loc : Nat), CS w os 560 (compC w 142 [1, 0] it acc loc fr [(⟨Zaa⟩, cv), (⟨#[107]⟩, ck)]) [(it, itO ml 0), (ml, lsO ms n), (acc, lsO [] 0), (loc, dcE w []), (ck, cellO (.int 2 tk)), (cv, cellO (sv V tv))] 0 rNx (fun x => [x.o 0, lsO ms n, lsO (stL [[ch]] (fun j => x.a (j + 3))) nt, dq11 w (x.a 0) (x.v 0), cellO (.int 2 tk), cellO (sv V tv)]) oNl) (hch : ([ch] == [99]) = true) (lo : List (List Nat × Nat × List Nat)) (hN : ∀ (tkt' : Nat → Nat) (v3' vck' vcv' : Value), CS w os 440 (forCC w 142 [1] it fr [(⟨Zaa⟩, cv), (⟨#[107]⟩, ck)]) [(vl, lsO vs nv), (ml, lsO ms n), (fr, fq15 w k0 (.ref vl) k1 (.ref ml) k2 (.ref td) k3 v3'), (ck, cellO vck'), (cv, cellO vcv'), (td, dcE w (tabL (l ++ [(V, tv, [67])]) tkt')), (it, itO vl (i+1)), (ta, tupO [.int 2 tk, sv V tv]), (e0, g0), (e1, g1), (e2, g2), (e3, g3), (e4, g4), (e5, g5), (e6, g6), (e7, g7), (e8, g8), (e9, g9), (e10, g10)] 0 rNx (fun x => [lsO vs nv, lsO ms n, fq15 w k0 (.ref vl) k1 (.ref ml) k2 (.ref td) k3 (x.v 0), cellO (x.v 1), cellO (x.v 2), dcE w (tabL lo (fun j => x.a (j + 3))), x.o 0, tupO [.int 2 tk, sv V tv], g0, g1, g2, g3, g4, g5, g6, g7, g8, g9, g10]) oNl) : CS w os 440 (forCC w 142 [1] it fr [(⟨Zaa⟩, cv), (⟨#[107]⟩, ck)]) [(vl, lsO vs nv), (ml, lsO ms n), (fr, fq15 w k0 (.ref vl) k1 (.ref ml) k2 (.ref td) k3 v3), (ck, cellO vck), (cv, cellO vcv), (td, dcE w (tabL l tkt)), (it, itO vl i), (ta, tupO [.int 2 tk, sv V tv]), (e0, g0), (e1, g1), (e2, g2), (e3, g3), (e4, g4), (e5, g5), (e6, g6), (e7, g7), (e8, g8), (e9, g9), (e10, g10)] 0 rNx (fun x => [lsO vs nv, lsO ms n, fq15 w k0 (.ref vl) k1 (.ref ml) k2 (.ref td) k3 (x.v 0), cellO (x.v 1), cellO (x.v 2), dcE w (tabL lo (fun j => x.a (j + 3))), x.o 0, tupO [.int 2 tk, sv V tv], g0, g1, g2, g3, g4, g5, g6, g7, g8, g9, g10]) oNl :=
  CB2 (orS (isForAt [231,232]) (isB ["list_iterator.__next__","len","int.__eq__","str.__eq__","dict.__setitem__"])) 30000 oq21 oq22 (fun b0 t0 => vi (next_s (it := it) (l := vl) (i := i) (xs := vs) (n := nv) hv) [6,0] fun b1 t1 x1 => via (hC (b1+3) (b1+4) (b1+5)) [22,1,23,24,3,4] fun b2 t2 x2 => vj (dnewT (dd := td) (l := l) (tk := tkt) (V := V) (z := tv) (r := []) (t := (t2+2)) hl hl2) [5] fun _ => vi (lenT (a := (b1+4)) (l := [[ch]]) (tk := fun j => x2.a (j + 3)) (n := nt) (k := 1) rfl (by decide)) [23] fun b4 t4 x4 => vi (eqI (m := iN 1) (n := 1) (u := (x4.a 0)) (v := (t4+1)) (b := true) rfl) [] fun b5 t5 x5 => vi (eqS (s := ⟨#[ch]⟩) (t := ⟨#[99]⟩) (u := (x2.a 3)) (v := (t5+3)) hch) [] fun b6 t6 x6 => vj (dsetT (dd := td) (l := l) (tk := updT tkt l.length (t2+2)) (V := V) (tv := tv) (z := tv) (r0 := []) (r := [67]) (t := (t6+2)) hl) [5] fun _ => vx (hN (updT (updT tkt l.length (t2+2)) l.length (t6+2)) (.ref (b1+4)) (.int 2 tk) (sv V tv) ) [0,1,2,3,4,5,6,7,8,9,10,11,12,13,14,15,16,17,18] fun x8 => finz [] (x8.a) (x8.o) (x8.v)) (by kernel_rfl) (by kernel_rfl)
theorem mt_2N (vl ml fr it td ck cv ta : Addr) (e0 e1 e2 e3 e4 e5 e6 e7 e8 e9 e10 : Addr) (g0 g1 g2 g3 g4 g5 g6 g7 g8 g9 g10 : Obj) (vs ms : List Value) (nv n i : Nat) (V : List Nat) (l : List (List Nat × Nat × List Nat)) (tkt : Nat → Nat) (k0 k1 k2 : Nat) (tk tv : Nat) (k3 : Nat) (v3 vck vcv : Value)  (hv : vs[i]? = some (.ref ta)) (hl : ∀ p ∈ l, p.1 ≠ V) (hl2 : l.length ≤ 100) (there : List (List Nat)) (nt : Nat) (hC : ∀ (it acc loc : Nat), CS w os 560 (compC w 142 [1, 0] it acc loc fr [(⟨Zaa⟩, cv), (⟨#[107]⟩, ck)]) [(it, itO ml 0), (ml, lsO ms n), (acc, lsO [] 0), (loc, dcE w []), (ck, cellO (.int 2 tk)), (cv, cellO (sv V tv))] 0 rNx (fun x => [x.o 0, lsO ms n, lsO (stL there (fun j => x.a (j + 3))) nt, dq11 w (x.a 0) (x.v 0), cellO (.int 2 tk), cellO (sv V tv)]) oNl) (m : Nat) (hm : there.length = m) (hm' : m ≤ 1000) (hm1 : (iN m == 1) = false) (lo : List (List Nat × Nat × List Nat)) (hN : ∀ (tkt' : Nat → Nat) (v3' vck' vcv' : Value), CS w os 440 (forCC w 142 [1] it fr [(⟨Zaa⟩, cv), (⟨#[107]⟩, ck)]) [(vl, lsO vs nv), (ml, lsO ms n), (fr, fq15 w k0 (.ref vl) k1 (.ref ml) k2 (.ref td) k3 v3'), (ck, cellO vck'), (cv, cellO vcv'), (td, dcE w (tabL (l ++ [(V, tv, [])]) tkt')), (it, itO vl (i+1)), (ta, tupO [.int 2 tk, sv V tv]), (e0, g0), (e1, g1), (e2, g2), (e3, g3), (e4, g4), (e5, g5), (e6, g6), (e7, g7), (e8, g8), (e9, g9), (e10, g10)] 0 rNx (fun x => [lsO vs nv, lsO ms n, fq15 w k0 (.ref vl) k1 (.ref ml) k2 (.ref td) k3 (x.v 0), cellO (x.v 1), cellO (x.v 2), dcE w (tabL lo (fun j => x.a (j + 3))), x.o 0, tupO [.int 2 tk, sv V tv], g0, g1, g2, g3, g4, g5, g6, g7, g8, g9, g10]) oNl) : CS w os 440 (forCC w 142 [1] it fr [(⟨Zaa⟩, cv), (⟨#[107]⟩, ck)]) [(vl, lsO vs nv), (ml, lsO ms n), (fr, fq15 w k0 (.ref vl) k1 (.ref ml) k2 (.ref td) k3 v3), (ck, cellO vck), (cv, cellO vcv), (td, dcE w (tabL l tkt)), (it, itO vl i), (ta, tupO [.int 2 tk, sv V tv]), (e0, g0), (e1, g1), (e2, g2), (e3, g3), (e4, g4), (e5, g5), (e6, g6), (e7, g7), (e8, g8), (e9, g9), (e10, g10)] 0 rNx (fun x => [lsO vs nv, lsO ms n, fq15 w k0 (.ref vl) k1 (.ref ml) k2 (.ref td) k3 (x.v 0), cellO (x.v 1), cellO (x.v 2), dcE w (tabL lo (fun j => x.a (j + 3))), x.o 0, tupO [.int 2 tk, sv V tv], g0, g1, g2, g3, g4, g5, g6, g7, g8, g9, g10]) oNl :=
  CB2 (orS (isForAt [231,232]) (isB ["list_iterator.__next__","len","int.__eq__","str.__eq__","dict.__setitem__"])) 30000 oq23 oq24 (fun b0 t0 => vi (next_s (it := it) (l := vl) (i := i) (xs := vs) (n := nv) hv) [6,0] fun b1 t1 x1 => via (hC (b1+3) (b1+4) (b1+5)) [22,1,23,24,3,4] fun b2 t2 x2 => vj (dnewT (dd := td) (l := l) (tk := tkt) (V := V) (z := tv) (r := []) (t := (t2+2)) hl hl2) [5] fun _ => vi (lenT (a := (b1+4)) (l := there) (tk := fun j => x2.a (j + 3)) (n := nt) (k := m) hm hm') [23] fun b4 t4 x4 => vj (eqI (m := iN m) (n := 1) (u := (x4.a 0)) (v := (t4+1)) hm1) [] fun _ => vx (hN (updT tkt l.length (t2+2)) (.ref (b1+4)) (.int 2 tk) (sv V tv) ) [0,1,2,3,4,5,6,7,8,9,10,11,12,13,14,15,16,17,18] fun x6 => finz [] (x6.a) (x6.o) (x6.v)) (by kernel_rfl) (by kernel_rfl)
theorem mt_2U (vl ml fr it td ck cv ta : Addr) (e0 e1 e2 e3 e4 e5 e6 e7 e8 e9 e10 : Addr) (g0 g1 g2 g3 g4 g5 g6 g7 g8 g9 g10 : Obj) (vs ms : List Value) (nv n i : Nat) (V : List Nat) (l : List (List Nat × Nat × List Nat)) (tkt : Nat → Nat) (k0 k1 k2 : Nat) (tk tv : Nat) (k3 : Nat) (v3 vck vcv : Value)  (hv : vs[i]? = some (.ref ta)) (hl : ∀ p ∈ l, p.1 ≠ V) (hl2 : l.length ≤ 100) (ch : Nat) (nt : Nat) (hC : ∀ (it acc loc : Nat), CS w os 560 (compC w 142 [1, 0] it acc loc fr [(⟨Zaa⟩, cv), (⟨#[107]⟩, ck)]) [(it, itO ml 0), (ml, lsO ms n), (acc, lsO [] 0), (loc, dcE w []), (ck, cellO (.int 2 tk)), (cv, cellO (sv V tv))] 0 rNx (fun x => [x.o 0, lsO ms n, lsO (stL [[ch]] (fun j => x.a (j + 3))) nt, dq11 w (x.a 0) (x.v 0), cellO (.int 2 tk), cellO (sv V tv)]) oNl) (hch : ([ch] == [99]) = false) (lo : List (List Nat × Nat × List Nat)) (hN : ∀ (tkt' : Nat → Nat) (v3' vck' vcv' : Value), CS w os 440 (forCC w 142 [1] it fr [(⟨Zaa⟩, cv), (⟨#[107]⟩, ck)]) [(vl, lsO vs nv), (ml, lsO ms n), (fr, fq15 w k0 (.ref vl) k1 (.ref ml) k2 (.ref td) k3 v3'), (ck, cellO vck'), (cv, cellO vcv'), (td, dcE w (tabL (l ++ [(V, tv, [99])]) tkt')), (it, itO vl (i+1)), (ta, tupO [.int 2 tk, sv V tv]), (e0, g0), (e1, g1), (e2, g2), (e3, g3), (e4, g4), (e5, g5), (e6, g6), (e7, g7), (e8, g8), (e9, g9), (e10, g10)] 0 rNx (fun x => [lsO vs nv, lsO ms n, fq15 w k0 (.ref vl) k1 (.ref ml) k2 (.ref td) k3 (x.v 0), cellO (x.v 1), cellO (x.v 2), dcE w (tabL lo (fun j => x.a (j + 3))), x.o 0, tupO [.int 2 tk, sv V tv], g0, g1, g2, g3, g4, g5, g6, g7, g8, g9, g10]) oNl) : CS w os 440 (forCC w 142 [1] it fr [(⟨Zaa⟩, cv), (⟨#[107]⟩, ck)]) [(vl, lsO vs nv), (ml, lsO ms n), (fr, fq15 w k0 (.ref vl) k1 (.ref ml) k2 (.ref td) k3 v3), (ck, cellO vck), (cv, cellO vcv), (td, dcE w (tabL l tkt)), (it, itO vl i), (ta, tupO [.int 2 tk, sv V tv]), (e0, g0), (e1, g1), (e2, g2), (e3, g3), (e4, g4), (e5, g5), (e6, g6), (e7, g7), (e8, g8), (e9, g9), (e10, g10)] 0 rNx (fun x => [lsO vs nv, lsO ms n, fq15 w k0 (.ref vl) k1 (.ref ml) k2 (.ref td) k3 (x.v 0), cellO (x.v 1), cellO (x.v 2), dcE w (tabL lo (fun j => x.a (j + 3))), x.o 0, tupO [.int 2 tk, sv V tv], g0, g1, g2, g3, g4, g5, g6, g7, g8, g9, g10]) oNl :=
  CB2 (orS (isForAt [231,232]) (isB ["list_iterator.__next__","len","int.__eq__","str.__eq__","dict.__setitem__"])) 30000 oq21 oq22 (fun b0 t0 => vi (next_s (it := it) (l := vl) (i := i) (xs := vs) (n := nv) hv) [6,0] fun b1 t1 x1 => via (hC (b1+3) (b1+4) (b1+5)) [22,1,23,24,3,4] fun b2 t2 x2 => vj (dnewT (dd := td) (l := l) (tk := tkt) (V := V) (z := tv) (r := []) (t := (t2+2)) hl hl2) [5] fun _ => vi (lenT (a := (b1+4)) (l := [[ch]]) (tk := fun j => x2.a (j + 3)) (n := nt) (k := 1) rfl (by decide)) [23] fun b4 t4 x4 => vi (eqI (m := iN 1) (n := 1) (u := (x4.a 0)) (v := (t4+1)) (b := true) rfl) [] fun b5 t5 x5 => vi (eqS (s := ⟨#[ch]⟩) (t := ⟨#[99]⟩) (u := (x2.a 3)) (v := (t5+3)) hch) [] fun b6 t6 x6 => vj (dsetT (dd := td) (l := l) (tk := updT tkt l.length (t2+2)) (V := V) (tv := tv) (z := tv) (r0 := []) (r := [99]) (t := (t6+2)) hl) [5] fun _ => vx (hN (updT (updT tkt l.length (t2+2)) l.length (t6+2)) (.ref (b1+4)) (.int 2 tk) (sv V tv) ) [0,1,2,3,4,5,6,7,8,9,10,11,12,13,14,15,16,17,18] fun x8 => finz [] (x8.a) (x8.o) (x8.v)) (by kernel_rfl) (by kernel_rfl)
theorem mt_end (vl ml fr it td ck cv : Addr) (e0 e1 e2 e3 e4 e5 e6 e7 e8 e9 e10 e11 : Addr) (g0 g1 g2 g3 g4 g5 g6 g7 g8 g9 g10 g11 : Obj) (vs ms : List Value) (nv n i : Nat) (l : List (List Nat × Nat × List Nat)) (tkt : Nat → Nat) (k0 k1 k2 k3 : Nat) (v3 vck vcv : Value) (hv : vs[i]? = none) : CS w os 440 (forCC w 142 [1] it fr [(⟨Zaa⟩, cv), (⟨#[107]⟩, ck)]) [(vl, lsO vs nv), (ml, lsO ms n), (fr, fq15 w k0 (.ref vl) k1 (.ref ml) k2 (.ref td) k3 v3), (ck, cellO vck), (cv, cellO vcv), (td, dcE w (tabL l tkt)), (it, itO vl i), (e0, g0), (e1, g1), (e2, g2), (e3, g3), (e4, g4), (e5, g5), (e6, g6), (e7, g7), (e8, g8), (e9, g9), (e10, g10), (e11, g11)] 0 rNx (fun x => [lsO vs nv, lsO ms n, fq15 w k0 (.ref vl) k1 (.ref ml) k2 (.ref td) k3 (x.v 0), cellO (x.v 1), cellO (x.v 2), dcE w (tabL l (fun j => x.a (j + 3))), x.o 0, g0, g1, g2, g3, g4, g5, g6, g7, g8, g9, g10, g11]) oNl :=
  CB (isB ["list_iterator.__next__"]) 30000 [7,7,21] (fun b0 t0 => vj (nextE_s (it := it) (l := vl) (i := i) (xs := vs) (n := nv) hv) [6,0] fun _ => finz [] (fun j => tkt (j - 3)) (fun _ => itE i) (fun j => match j with | 0 => v3 | 1 => vck | _ => vcv)) (by kernel_rfl)
theorem si_1e (d0 t : Nat)  (N : Int) (hN : PySem.intText? ⟨#[d0]⟩ = some N) : CS w os 440 (.call (.ref 29) ⟨[sv [d0] t], []⟩) [(24, tableObj #[])] 1 (fun x => rOk (.int N (x.a 1))) (fun x => [tableObj #[.int 46 0, .int 4 0, .ref (x.a 0)]]) (fun x => [cdG (x.v 0) siQ (x.a 2) [x.v 1, x.v 2, x.v 3, x.v 4, x.v 5, x.v 6, x.v 7, x.v 8, x.v 9, x.v 10, x.v 11, x.v 12, x.v 13, x.v 14, x.v 15, x.v 16, x.v 17]]) :=
  CB3 (orS isCall3 (isB ["int.__new__"])) 30000 oq25 (fun b0 t0 => vx (cp_1 w os (t0+15) (t0+16) (t0+1)) [] fun _ => vj (intT (s := ⟨#[d0]⟩) (t := (t)) (N := N) (by show 1 ≤ 640; decide) hN) [] fun x2 => finz [12] (nth [(x2.a 0), (t0+3)]) (fun _ => default) (fun j => match j with | 0 => (PySem.Value.str (PySem.Str.mk Zab) (t0+2)) | 1 => (PySem.Value.str (PySem.Str.mk Zaf) (t0+4)) | 2 => (PySem.Value.int (iN 46) 0) | 3 => (PySem.Value.int (iN 2) 0) | 4 => (PySem.Value.int (iN 0) 0) | 5 => (PySem.Value.int (iN 0) 0) | 6 => (PySem.Value.int (iN 19) 0) | 7 => (PySem.Value.ref (b0+6)) | 8 => (PySem.Value.bool true) | 9 => (PySem.Value.int (iN 181) 0) | 10 => (PySem.Value.ref (b0+7)) | 11 => PySem.Value.none | 12 => (PySem.Value.ref (b0+8)) | 13 => (PySem.Value.ref (b0+9)) | 14 => (PySem.Value.ref (b0+10)) | 15 => (PySem.Value.int (iN (t0+12)) 0) | 16 => (PySem.Value.int (iN 46) 0) | _ => (PySem.Value.str (PySem.Str.mk Zaf) (t0+13)))) (by kernel_rfl) (by kernel_rfl)
theorem si_1f (d0 t : Nat)  (N : Int) (hN : PySem.intText? ⟨#[d0]⟩ = some N) (cd : Addr) (a0 : Value) (q : Nat) (rest : List Value) : CS w os 440 (.call (.ref 29) ⟨[sv [d0] t], []⟩) [(24, tableObj #[.int 46 0, .int 4 0, .ref cd]), (cd, cdG a0 siQ q rest)] 0 (fun x => rOk (.int N (x.a 0))) (fun x => [tableObj #[.int 46 0, .int 4 0, .ref cd], cdG a0 siQ q rest]) oNl :=
  CB3 (orS isCall3 (isB ["int.__new__"])) 30000 oq26 (fun b0 t0 => vx (cp_1 w os (t0+3) (t0+4) (t0+1)) [] fun _ => vj (intT (s := ⟨#[d0]⟩) (t := (t)) (N := N) (by show 1 ≤ 640; decide) hN) [] fun x2 => fin [] [(x2.a 0)]) (by kernel_rfl) (by kernel_rfl)
theorem si_2e (d0 d1 t : Nat)  (N : Int) (hN : PySem.intText? ⟨#[d0,d1]⟩ = some N) : CS w os 440 (.call (.ref 29) ⟨[sv [d0,d1] t], []⟩) [(24, tableObj #[])] 1 (fun x => rOk (.int N (x.a 1))) (fun x => [tableObj #[.int 46 0, .int 4 0, .ref (x.a 0)]]) (fun x => [cdG (x.v 0) siQ (x.a 2) [x.v 1, x.v 2, x.v 3, x.v 4, x.v 5, x.v 6, x.v 7, x.v 8, x.v 9, x.v 10, x.v 11, x.v 12, x.v 13, x.v 14, x.v 15, x.v 16, x.v 17]]) :=
  CB3 (orS isCall3 (isB ["int.__new__"])) 30000 oq25 (fun b0 t0 => vx (cp_2 w os (t0+15) (t0+16) (t0+1)) [] fun _ => vj (intT (s := ⟨#[d0,d1]⟩) (t := (t)) (N := N) (by show 2 ≤ 640; decide) hN) [] fun x2 => finz [12] (nth [(x2.a 0), (t0+3)]) (fun _ => default) (fun j => match j with | 0 => (PySem.Value.str (PySem.Str.mk Zab) (t0+2)) | 1 => (PySem.Value.str (PySem.Str.mk Zaf) (t0+4)) | 2 => (PySem.Value.int (iN 46) 0) | 3 => (PySem.Value.int (iN 2) 0) | 4 => (PySem.Value.int (iN 0) 0) | 5 => (PySem.Value.int (iN 0) 0) | 6 => (PySem.Value.int (iN 19) 0) | 7 => (PySem.Value.ref (b0+6)) | 8 => (PySem.Value.bool true) | 9 => (PySem.Value.int (iN 181) 0) | 10 => (PySem.Value.ref (b0+7)) | 11 => PySem.Value.none | 12 => (PySem.Value.ref (b0+8)) | 13 => (PySem.Value.ref (b0+9)) | 14 => (PySem.Value.ref (b0+10)) | 15 => (PySem.Value.int (iN (t0+12)) 0) | 16 => (PySem.Value.int (iN 46) 0) | _ => (PySem.Value.str (PySem.Str.mk Zaf) (t0+13)))) (by kernel_rfl) (by kernel_rfl)
theorem si_2f (d0 d1 t : Nat)  (N : Int) (hN : PySem.intText? ⟨#[d0,d1]⟩ = some N) (cd : Addr) (a0 : Value) (q : Nat) (rest : List Value) : CS w os 440 (.call (.ref 29) ⟨[sv [d0,d1] t], []⟩) [(24, tableObj #[.int 46 0, .int 4 0, .ref cd]), (cd, cdG a0 siQ q rest)] 0 (fun x => rOk (.int N (x.a 0))) (fun x => [tableObj #[.int 46 0, .int 4 0, .ref cd], cdG a0 siQ q rest]) oNl :=
  CB3 (orS isCall3 (isB ["int.__new__"])) 30000 oq26 (fun b0 t0 => vx (cp_2 w os (t0+3) (t0+4) (t0+1)) [] fun _ => vj (intT (s := ⟨#[d0,d1]⟩) (t := (t)) (N := N) (by show 2 ≤ 640; decide) hN) [] fun x2 => fin [] [(x2.a 0)]) (by kernel_rfl) (by kernel_rfl)
theorem si_3e (d0 d1 d2 t : Nat)  (N : Int) (hN : PySem.intText? ⟨#[d0,d1,d2]⟩ = some N) : CS w os 440 (.call (.ref 29) ⟨[sv [d0,d1,d2] t], []⟩) [(24, tableObj #[])] 1 (fun x => rOk (.int N (x.a 1))) (fun x => [tableObj #[.int 46 0, .int 4 0, .ref (x.a 0)]]) (fun x => [cdG (x.v 0) siQ (x.a 2) [x.v 1, x.v 2, x.v 3, x.v 4, x.v 5, x.v 6, x.v 7, x.v 8, x.v 9, x.v 10, x.v 11, x.v 12, x.v 13, x.v 14, x.v 15, x.v 16, x.v 17]]) :=
  CB3 (orS isCall3 (isB ["int.__new__"])) 30000 oq25 (fun b0 t0 => vx (cp_3 w os (t0+15) (t0+16) (t0+1)) [] fun _ => vj (intT (s := ⟨#[d0,d1,d2]⟩) (t := (t)) (N := N) (by show 3 ≤ 640; decide) hN) [] fun x2 => finz [12] (nth [(x2.a 0), (t0+3)]) (fun _ => default) (fun j => match j with | 0 => (PySem.Value.str (PySem.Str.mk Zab) (t0+2)) | 1 => (PySem.Value.str (PySem.Str.mk Zaf) (t0+4)) | 2 => (PySem.Value.int (iN 46) 0) | 3 => (PySem.Value.int (iN 2) 0) | 4 => (PySem.Value.int (iN 0) 0) | 5 => (PySem.Value.int (iN 0) 0) | 6 => (PySem.Value.int (iN 19) 0) | 7 => (PySem.Value.ref (b0+6)) | 8 => (PySem.Value.bool true) | 9 => (PySem.Value.int (iN 181) 0) | 10 => (PySem.Value.ref (b0+7)) | 11 => PySem.Value.none | 12 => (PySem.Value.ref (b0+8)) | 13 => (PySem.Value.ref (b0+9)) | 14 => (PySem.Value.ref (b0+10)) | 15 => (PySem.Value.int (iN (t0+12)) 0) | 16 => (PySem.Value.int (iN 46) 0) | _ => (PySem.Value.str (PySem.Str.mk Zaf) (t0+13)))) (by kernel_rfl) (by kernel_rfl)
theorem si_3f (d0 d1 d2 t : Nat)  (N : Int) (hN : PySem.intText? ⟨#[d0,d1,d2]⟩ = some N) (cd : Addr) (a0 : Value) (q : Nat) (rest : List Value) : CS w os 440 (.call (.ref 29) ⟨[sv [d0,d1,d2] t], []⟩) [(24, tableObj #[.int 46 0, .int 4 0, .ref cd]), (cd, cdG a0 siQ q rest)] 0 (fun x => rOk (.int N (x.a 0))) (fun x => [tableObj #[.int 46 0, .int 4 0, .ref cd], cdG a0 siQ q rest]) oNl :=
  CB3 (orS isCall3 (isB ["int.__new__"])) 30000 oq26 (fun b0 t0 => vx (cp_3 w os (t0+3) (t0+4) (t0+1)) [] fun _ => vj (intT (s := ⟨#[d0,d1,d2]⟩) (t := (t)) (N := N) (by show 3 ≤ 640; decide) hN) [] fun x2 => fin [] [(x2.a 0)]) (by kernel_rfl) (by kernel_rfl)
theorem si_4e (d0 d1 d2 d3 t : Nat)  (N : Int) (hN : PySem.intText? ⟨#[d0,d1,d2,d3]⟩ = some N) : CS w os 440 (.call (.ref 29) ⟨[sv [d0,d1,d2,d3] t], []⟩) [(24, tableObj #[])] 1 (fun x => rOk (.int N (x.a 1))) (fun x => [tableObj #[.int 46 0, .int 4 0, .ref (x.a 0)]]) (fun x => [cdG (x.v 0) siQ (x.a 2) [x.v 1, x.v 2, x.v 3, x.v 4, x.v 5, x.v 6, x.v 7, x.v 8, x.v 9, x.v 10, x.v 11, x.v 12, x.v 13, x.v 14, x.v 15, x.v 16, x.v 17]]) :=
  CB3 (orS isCall3 (isB ["int.__new__"])) 30000 oq25 (fun b0 t0 => vx (cp_4 w os (t0+15) (t0+16) (t0+1)) [] fun _ => vj (intT (s := ⟨#[d0,d1,d2,d3]⟩) (t := (t)) (N := N) (by show 4 ≤ 640; decide) hN) [] fun x2 => finz [12] (nth [(x2.a 0), (t0+3)]) (fun _ => default) (fun j => match j with | 0 => (PySem.Value.str (PySem.Str.mk Zab) (t0+2)) | 1 => (PySem.Value.str (PySem.Str.mk Zaf) (t0+4)) | 2 => (PySem.Value.int (iN 46) 0) | 3 => (PySem.Value.int (iN 2) 0) | 4 => (PySem.Value.int (iN 0) 0) | 5 => (PySem.Value.int (iN 0) 0) | 6 => (PySem.Value.int (iN 19) 0) | 7 => (PySem.Value.ref (b0+6)) | 8 => (PySem.Value.bool true) | 9 => (PySem.Value.int (iN 181) 0) | 10 => (PySem.Value.ref (b0+7)) | 11 => PySem.Value.none | 12 => (PySem.Value.ref (b0+8)) | 13 => (PySem.Value.ref (b0+9)) | 14 => (PySem.Value.ref (b0+10)) | 15 => (PySem.Value.int (iN (t0+12)) 0) | 16 => (PySem.Value.int (iN 46) 0) | _ => (PySem.Value.str (PySem.Str.mk Zaf) (t0+13)))) (by kernel_rfl) (by kernel_rfl)
theorem si_4f (d0 d1 d2 d3 t : Nat)  (N : Int) (hN : PySem.intText? ⟨#[d0,d1,d2,d3]⟩ = some N) (cd : Addr) (a0 : Value) (q : Nat) (rest : List Value) : CS w os 440 (.call (.ref 29) ⟨[sv [d0,d1,d2,d3] t], []⟩) [(24, tableObj #[.int 46 0, .int 4 0, .ref cd]), (cd, cdG a0 siQ q rest)] 0 (fun x => rOk (.int N (x.a 0))) (fun x => [tableObj #[.int 46 0, .int 4 0, .ref cd], cdG a0 siQ q rest]) oNl :=
  CB3 (orS isCall3 (isB ["int.__new__"])) 30000 oq26 (fun b0 t0 => vx (cp_4 w os (t0+3) (t0+4) (t0+1)) [] fun _ => vj (intT (s := ⟨#[d0,d1,d2,d3]⟩) (t := (t)) (N := N) (by show 4 ≤ 640; decide) hN) [] fun x2 => fin [] [(x2.a 0)]) (by kernel_rfl) (by kernel_rfl)
theorem si_5e (d0 d1 d2 d3 d4 t : Nat)  (N : Int) (hN : PySem.intText? ⟨#[d0,d1,d2,d3,d4]⟩ = some N) : CS w os 440 (.call (.ref 29) ⟨[sv [d0,d1,d2,d3,d4] t], []⟩) [(24, tableObj #[])] 1 (fun x => rOk (.int N (x.a 1))) (fun x => [tableObj #[.int 46 0, .int 4 0, .ref (x.a 0)]]) (fun x => [cdG (x.v 0) siQ (x.a 2) [x.v 1, x.v 2, x.v 3, x.v 4, x.v 5, x.v 6, x.v 7, x.v 8, x.v 9, x.v 10, x.v 11, x.v 12, x.v 13, x.v 14, x.v 15, x.v 16, x.v 17]]) :=
  CB3 (orS isCall3 (isB ["int.__new__"])) 30000 oq25 (fun b0 t0 => vx (cp_5 w os (t0+15) (t0+16) (t0+1)) [] fun _ => vj (intT (s := ⟨#[d0,d1,d2,d3,d4]⟩) (t := (t)) (N := N) (by show 5 ≤ 640; decide) hN) [] fun x2 => finz [12] (nth [(x2.a 0), (t0+3)]) (fun _ => default) (fun j => match j with | 0 => (PySem.Value.str (PySem.Str.mk Zab) (t0+2)) | 1 => (PySem.Value.str (PySem.Str.mk Zaf) (t0+4)) | 2 => (PySem.Value.int (iN 46) 0) | 3 => (PySem.Value.int (iN 2) 0) | 4 => (PySem.Value.int (iN 0) 0) | 5 => (PySem.Value.int (iN 0) 0) | 6 => (PySem.Value.int (iN 19) 0) | 7 => (PySem.Value.ref (b0+6)) | 8 => (PySem.Value.bool true) | 9 => (PySem.Value.int (iN 181) 0) | 10 => (PySem.Value.ref (b0+7)) | 11 => PySem.Value.none | 12 => (PySem.Value.ref (b0+8)) | 13 => (PySem.Value.ref (b0+9)) | 14 => (PySem.Value.ref (b0+10)) | 15 => (PySem.Value.int (iN (t0+12)) 0) | 16 => (PySem.Value.int (iN 46) 0) | _ => (PySem.Value.str (PySem.Str.mk Zaf) (t0+13)))) (by kernel_rfl) (by kernel_rfl)
theorem si_5f (d0 d1 d2 d3 d4 t : Nat)  (N : Int) (hN : PySem.intText? ⟨#[d0,d1,d2,d3,d4]⟩ = some N) (cd : Addr) (a0 : Value) (q : Nat) (rest : List Value) : CS w os 440 (.call (.ref 29) ⟨[sv [d0,d1,d2,d3,d4] t], []⟩) [(24, tableObj #[.int 46 0, .int 4 0, .ref cd]), (cd, cdG a0 siQ q rest)] 0 (fun x => rOk (.int N (x.a 0))) (fun x => [tableObj #[.int 46 0, .int 4 0, .ref cd], cdG a0 siQ q rest]) oNl :=
  CB3 (orS isCall3 (isB ["int.__new__"])) 30000 oq26 (fun b0 t0 => vx (cp_5 w os (t0+3) (t0+4) (t0+1)) [] fun _ => vj (intT (s := ⟨#[d0,d1,d2,d3,d4]⟩) (t := (t)) (N := N) (by show 5 ≤ 640; decide) hN) [] fun x2 => fin [] [(x2.a 0)]) (by kernel_rfl) (by kernel_rfl)
theorem si_6e (d0 d1 d2 d3 d4 d5 t : Nat)  (N : Int) (hN : PySem.intText? ⟨#[d0,d1,d2,d3,d4,d5]⟩ = some N) : CS w os 440 (.call (.ref 29) ⟨[sv [d0,d1,d2,d3,d4,d5] t], []⟩) [(24, tableObj #[])] 1 (fun x => rOk (.int N (x.a 1))) (fun x => [tableObj #[.int 46 0, .int 4 0, .ref (x.a 0)]]) (fun x => [cdG (x.v 0) siQ (x.a 2) [x.v 1, x.v 2, x.v 3, x.v 4, x.v 5, x.v 6, x.v 7, x.v 8, x.v 9, x.v 10, x.v 11, x.v 12, x.v 13, x.v 14, x.v 15, x.v 16, x.v 17]]) :=
  CB3 (orS isCall3 (isB ["int.__new__"])) 30000 oq25 (fun b0 t0 => vx (cp_6 w os (t0+15) (t0+16) (t0+1)) [] fun _ => vj (intT (s := ⟨#[d0,d1,d2,d3,d4,d5]⟩) (t := (t)) (N := N) (by show 6 ≤ 640; decide) hN) [] fun x2 => finz [12] (nth [(x2.a 0), (t0+3)]) (fun _ => default) (fun j => match j with | 0 => (PySem.Value.str (PySem.Str.mk Zab) (t0+2)) | 1 => (PySem.Value.str (PySem.Str.mk Zaf) (t0+4)) | 2 => (PySem.Value.int (iN 46) 0) | 3 => (PySem.Value.int (iN 2) 0) | 4 => (PySem.Value.int (iN 0) 0) | 5 => (PySem.Value.int (iN 0) 0) | 6 => (PySem.Value.int (iN 19) 0) | 7 => (PySem.Value.ref (b0+6)) | 8 => (PySem.Value.bool true) | 9 => (PySem.Value.int (iN 181) 0) | 10 => (PySem.Value.ref (b0+7)) | 11 => PySem.Value.none | 12 => (PySem.Value.ref (b0+8)) | 13 => (PySem.Value.ref (b0+9)) | 14 => (PySem.Value.ref (b0+10)) | 15 => (PySem.Value.int (iN (t0+12)) 0) | 16 => (PySem.Value.int (iN 46) 0) | _ => (PySem.Value.str (PySem.Str.mk Zaf) (t0+13)))) (by kernel_rfl) (by kernel_rfl)
theorem si_6f (d0 d1 d2 d3 d4 d5 t : Nat)  (N : Int) (hN : PySem.intText? ⟨#[d0,d1,d2,d3,d4,d5]⟩ = some N) (cd : Addr) (a0 : Value) (q : Nat) (rest : List Value) : CS w os 440 (.call (.ref 29) ⟨[sv [d0,d1,d2,d3,d4,d5] t], []⟩) [(24, tableObj #[.int 46 0, .int 4 0, .ref cd]), (cd, cdG a0 siQ q rest)] 0 (fun x => rOk (.int N (x.a 0))) (fun x => [tableObj #[.int 46 0, .int 4 0, .ref cd], cdG a0 siQ q rest]) oNl :=
  CB3 (orS isCall3 (isB ["int.__new__"])) 30000 oq26 (fun b0 t0 => vx (cp_6 w os (t0+3) (t0+4) (t0+1)) [] fun _ => vj (intT (s := ⟨#[d0,d1,d2,d3,d4,d5]⟩) (t := (t)) (N := N) (by show 6 ≤ 640; decide) hN) [] fun x2 => fin [] [(x2.a 0)]) (by kernel_rfl) (by kernel_rfl)
theorem si_7e (d0 d1 d2 d3 d4 d5 d6 t : Nat)  (N : Int) (hN : PySem.intText? ⟨#[d0,d1,d2,d3,d4,d5,d6]⟩ = some N) : CS w os 440 (.call (.ref 29) ⟨[sv [d0,d1,d2,d3,d4,d5,d6] t], []⟩) [(24, tableObj #[])] 1 (fun x => rOk (.int N (x.a 1))) (fun x => [tableObj #[.int 46 0, .int 4 0, .ref (x.a 0)]]) (fun x => [cdG (x.v 0) siQ (x.a 2) [x.v 1, x.v 2, x.v 3, x.v 4, x.v 5, x.v 6, x.v 7, x.v 8, x.v 9, x.v 10, x.v 11, x.v 12, x.v 13, x.v 14, x.v 15, x.v 16, x.v 17]]) :=
  CB3 (orS isCall3 (isB ["int.__new__"])) 30000 oq25 (fun b0 t0 => vx (cp_7 w os (t0+15) (t0+16) (t0+1)) [] fun _ => vj (intT (s := ⟨#[d0,d1,d2,d3,d4,d5,d6]⟩) (t := (t)) (N := N) (by show 7 ≤ 640; decide) hN) [] fun x2 => finz [12] (nth [(x2.a 0), (t0+3)]) (fun _ => default) (fun j => match j with | 0 => (PySem.Value.str (PySem.Str.mk Zab) (t0+2)) | 1 => (PySem.Value.str (PySem.Str.mk Zaf) (t0+4)) | 2 => (PySem.Value.int (iN 46) 0) | 3 => (PySem.Value.int (iN 2) 0) | 4 => (PySem.Value.int (iN 0) 0) | 5 => (PySem.Value.int (iN 0) 0) | 6 => (PySem.Value.int (iN 19) 0) | 7 => (PySem.Value.ref (b0+6)) | 8 => (PySem.Value.bool true) | 9 => (PySem.Value.int (iN 181) 0) | 10 => (PySem.Value.ref (b0+7)) | 11 => PySem.Value.none | 12 => (PySem.Value.ref (b0+8)) | 13 => (PySem.Value.ref (b0+9)) | 14 => (PySem.Value.ref (b0+10)) | 15 => (PySem.Value.int (iN (t0+12)) 0) | 16 => (PySem.Value.int (iN 46) 0) | _ => (PySem.Value.str (PySem.Str.mk Zaf) (t0+13)))) (by kernel_rfl) (by kernel_rfl)
theorem si_7f (d0 d1 d2 d3 d4 d5 d6 t : Nat)  (N : Int) (hN : PySem.intText? ⟨#[d0,d1,d2,d3,d4,d5,d6]⟩ = some N) (cd : Addr) (a0 : Value) (q : Nat) (rest : List Value) : CS w os 440 (.call (.ref 29) ⟨[sv [d0,d1,d2,d3,d4,d5,d6] t], []⟩) [(24, tableObj #[.int 46 0, .int 4 0, .ref cd]), (cd, cdG a0 siQ q rest)] 0 (fun x => rOk (.int N (x.a 0))) (fun x => [tableObj #[.int 46 0, .int 4 0, .ref cd], cdG a0 siQ q rest]) oNl :=
  CB3 (orS isCall3 (isB ["int.__new__"])) 30000 oq26 (fun b0 t0 => vx (cp_7 w os (t0+3) (t0+4) (t0+1)) [] fun _ => vj (intT (s := ⟨#[d0,d1,d2,d3,d4,d5,d6]⟩) (t := (t)) (N := N) (by show 7 ≤ 640; decide) hN) [] fun x2 => fin [] [(x2.a 0)]) (by kernel_rfl) (by kernel_rfl)
theorem si_8e (d0 d1 d2 d3 d4 d5 d6 d7 t : Nat)  (N : Int) (hN : PySem.intText? ⟨#[d0,d1,d2,d3,d4,d5,d6,d7]⟩ = some N) : CS w os 440 (.call (.ref 29) ⟨[sv [d0,d1,d2,d3,d4,d5,d6,d7] t], []⟩) [(24, tableObj #[])] 1 (fun x => rOk (.int N (x.a 1))) (fun x => [tableObj #[.int 46 0, .int 4 0, .ref (x.a 0)]]) (fun x => [cdG (x.v 0) siQ (x.a 2) [x.v 1, x.v 2, x.v 3, x.v 4, x.v 5, x.v 6, x.v 7, x.v 8, x.v 9, x.v 10, x.v 11, x.v 12, x.v 13, x.v 14, x.v 15, x.v 16, x.v 17]]) :=
  CB3 (orS isCall3 (isB ["int.__new__"])) 30000 oq25 (fun b0 t0 => vx (cp_8 w os (t0+15) (t0+16) (t0+1)) [] fun _ => vj (intT (s := ⟨#[d0,d1,d2,d3,d4,d5,d6,d7]⟩) (t := (t)) (N := N) (by show 8 ≤ 640; decide) hN) [] fun x2 => finz [12] (nth [(x2.a 0), (t0+3)]) (fun _ => default) (fun j => match j with | 0 => (PySem.Value.str (PySem.Str.mk Zab) (t0+2)) | 1 => (PySem.Value.str (PySem.Str.mk Zaf) (t0+4)) | 2 => (PySem.Value.int (iN 46) 0) | 3 => (PySem.Value.int (iN 2) 0) | 4 => (PySem.Value.int (iN 0) 0) | 5 => (PySem.Value.int (iN 0) 0) | 6 => (PySem.Value.int (iN 19) 0) | 7 => (PySem.Value.ref (b0+6)) | 8 => (PySem.Value.bool true) | 9 => (PySem.Value.int (iN 181) 0) | 10 => (PySem.Value.ref (b0+7)) | 11 => PySem.Value.none | 12 => (PySem.Value.ref (b0+8)) | 13 => (PySem.Value.ref (b0+9)) | 14 => (PySem.Value.ref (b0+10)) | 15 => (PySem.Value.int (iN (t0+12)) 0) | 16 => (PySem.Value.int (iN 46) 0) | _ => (PySem.Value.str (PySem.Str.mk Zaf) (t0+13)))) (by kernel_rfl) (by kernel_rfl)
theorem si_8f (d0 d1 d2 d3 d4 d5 d6 d7 t : Nat)  (N : Int) (hN : PySem.intText? ⟨#[d0,d1,d2,d3,d4,d5,d6,d7]⟩ = some N) (cd : Addr) (a0 : Value) (q : Nat) (rest : List Value) : CS w os 440 (.call (.ref 29) ⟨[sv [d0,d1,d2,d3,d4,d5,d6,d7] t], []⟩) [(24, tableObj #[.int 46 0, .int 4 0, .ref cd]), (cd, cdG a0 siQ q rest)] 0 (fun x => rOk (.int N (x.a 0))) (fun x => [tableObj #[.int 46 0, .int 4 0, .ref cd], cdG a0 siQ q rest]) oNl :=
  CB3 (orS isCall3 (isB ["int.__new__"])) 30000 oq26 (fun b0 t0 => vx (cp_8 w os (t0+3) (t0+4) (t0+1)) [] fun _ => vj (intT (s := ⟨#[d0,d1,d2,d3,d4,d5,d6,d7]⟩) (t := (t)) (N := N) (by show 8 ≤ 640; decide) hN) [] fun x2 => fin [] [(x2.a 0)]) (by kernel_rfl) (by kernel_rfl)
theorem tk_0R (wl fr it tl : Addr) (N z W tw : Nat) (k0 k1 k2 k3 k4 k5 k6 k7 k8 k9 : Nat) (v6 v7 v8 v9 : Value) (r q tr0 tq0 : Nat) (a1 g o1 a2 o2 pw fq fig : Nat) (ha1 : W / 1 = a1) (hg : a1 % 2 = g) (ho1 : W % 1 = o1) (ha2 : W / 2 = a2) (ho2 : a2 * 1 = o2) (hpe : 0 + (o1 + o2) < 2 ^ 10) (hpw : 4 ^ (0 + (o1 + o2)) = pw) (hp0 : 0 < pw) (hp1 : pw < 2 ^ 60) (hfq : N / pw = fq) (hfig : fq % 4 = fig) (hE : (iN fig == iN (1 + g)) = true) (hF : (iN fig == 2 - iN g) = false) (R Q : Nat) (hX : ∀ (tr1 tq1 : Nat) (v6' v7' v8' v9' : Value), CS w os 600 (forC w 161 [1, 2] it fr) [(fr, fq16 w k0 (.ref wl) k1 (.int (iN N) z) k2 (.ref tl) k3 (.int (iN W) tw) k4 (.int (iN (r+1)) tr1) k5 (.int (iN q) tq1) k6 v6' k7 v7' k8 v8' k9 v9'), (it, rgI 1 2)] 0 rNx (fun x => [fq16 w k0 (.ref wl) k1 (.int (iN N) z) k2 (.ref tl) k3 (.int (iN W) tw) k4 (.int (iN R) (x.a 0)) k5 (.int (iN Q) (x.a 1)) k6 (x.v 0) k7 (x.v 1) k8 (x.v 2) k9 (x.v 3), x.o 0]) oNl) : CS w os 600 (forC w 161 [1, 2] it fr) [(fr, fq16 w k0 (.ref wl) k1 (.int (iN N) z) k2 (.ref tl) k3 (.int (iN W) tw) k4 (.int (iN r) tr0) k5 (.int (iN q) tq0) k6 v6 k7 v7 k8 v8 k9 v9), (it, rgI 0 3)] 0 rNx (fun x => [fq16 w k0 (.ref wl) k1 (.int (iN N) z) k2 (.ref tl) k3 (.int (iN W) tw) k4 (.int (iN R) (x.a 0)) k5 (.int (iN Q) (x.a 1)) k6 (x.v 0) k7 (x.v 1) k8 (x.v 2) k9 (x.v 3), x.o 0]) oNl :=
  CB (orS (isForAt [268]) (isB ["int.__floordiv__","int.__mod__","int.__mul__","int.__pow__","int.__eq__"])) 30000 oq27 (fun b0 t0 => vx (powE (c := 1) (d := 990) (b := 2) (e := 0) (u := (t0+3)) (v := (t0+1)) rfl (by decide) (by decide) (by decide)) [] fun x1 => via (fdE (c := a1) (d := 990) (a := W) (b := 1) (u := tw) (v := (x1.a 0)) ha1 (by decide) (by decide)) [] fun b2 t2 x2 => via (mdE (c := g) (d := 990) (a := a1) (b := 2) (u := (x2.a 0)) (v := (t2+1)) hg (by decide)) [] fun b3 t3 x3 => vx (powE (c := 1) (d := 990) (b := 2) (e := 0) (u := (t3+2)) (v := (t0+1)) rfl (by decide) (by decide) (by decide)) [] fun x4 => via (mdE (c := o1) (d := 990) (a := W) (b := 1) (u := tw) (v := (x4.a 0)) ho1 (by decide)) [] fun b5 t5 x5 => vx (powE (c := 2) (d := 990) (b := 2) (e := 1) (u := (t5+1)) (v := (t5+3)) rfl (by decide) (by decide) (by decide)) [] fun x6 => via (fdE (c := a2) (d := 990) (a := W) (b := 2) (u := tw) (v := (x6.a 0)) ha2 (by decide) (by decide)) [] fun b7 t7 x7 => vx (powE (c := 1) (d := 990) (b := 2) (e := 0) (u := (t7+1)) (v := (t0+1)) rfl (by decide) (by decide) (by decide)) [] fun x8 => via (mulE (c := o2) (d := 990) (a := a2) (b := 1) (u := (x7.a 0)) (v := (x8.a 0)) ho2 (by decide)) [] fun b9 t9 x9 => via (mulE (c := 0) (d := 990) (a := 4) (b := 0) (u := (t9+4)) (v := (t0+1)) rfl (by decide)) [] fun b10 t10 x10 => vx (powE (c := pw) (d := 990) (b := 4) (e := 0 + (o1 + o2)) (u := (t9+3)) (v := (t10+1)) hpw (by decide) (by decide) hpe) [] fun x11 => via (fdE (c := fq) (d := 990) (a := N) (b := pw) (u := z) (v := (x11.a 0)) hfq hp0 hp1) [] fun b12 t12 x12 => via (mdE (c := fig) (d := 990) (a := fq) (b := 4) (u := (x12.a 0)) (v := (t12+1)) hfig (by decide)) [] fun b13 t13 x13 => vi (eqI (m := iN fig) (n := iN (1 + g)) (u := (x13.a 0)) (v := (t13+3)) hE) [] fun b14 t14 x14 => vj (eqI (m := iN fig) (n := 2 - iN g) (u := (x13.a 0)) (v := (t14+5)) hF) [] fun _ => vx (hX (t14+2) (tq0) (.int 0 (t0+1)) (.int (iN g) (x3.a 0)) (.int (iN (o1 + o2)) (t9+1)) (.int (iN fig) (x13.a 0)) ) [0,1] fun x16 => finz [] (x16.a) (x16.o) (x16.v)) (by kernel_rfl)
theorem tk_0Rf (wl fr it tl : Addr) (N z W tw : Nat) (k0 k1 k2 k3 k4 k5 k6 k7 k8 k9 : Nat) (v6 v7 v8 v9 : Value) (r q tr0 tq0 : Nat) (a1 g o1 a2 o2 pw fq fig : Nat) (ha1 : W / 1 = a1) (hg : a1 % 2 = g) (ho1 : W % 1 = o1) (ha2 : W / 2 = a2) (ho2 : a2 * 1 = o2) (hpe : 0 + (o1 + o2) < 2 ^ 10) (hpw : 4 ^ (0 + (o1 + o2)) = pw) (hp0 : 0 < pw) (hp1 : pw < 2 ^ 60) (hfq : N / pw = fq) (hfig : fq % 4 = fig) (hE : (iN fig == iN (1 + g)) = true) (hF : (iN fig == 2 - iN g) = false) (R Q : Nat) (hX : ∀ (tr1 tq1 : Nat) (v6' v7' v8' v9' : Value) (k6' k7' k8' k9' : Nat), CS w os 600 (forC w 161 [1, 2] it fr) [(fr, fq16 w k0 (.ref wl) k1 (.int (iN N) z) k2 (.ref tl) k3 (.int (iN W) tw) k4 (.int (iN (r+1)) tr1) k5 (.int (iN q) tq1) k6' v6' k7' v7' k8' v8' k9' v9'), (it, rgI 1 2)] 0 rNx (fun x => [fq16 w k0 (.ref wl) k1 (.int (iN N) z) k2 (.ref tl) k3 (.int (iN W) tw) k4 (.int (iN R) (x.a 0)) k5 (.int (iN Q) (x.a 1)) k6' (x.v 0) k7' (x.v 1) k8' (x.v 2) k9' (x.v 3), x.o 0]) oNl) : CS w os 600 (forC w 161 [1, 2] it fr) [(fr, fq17 w k0 (.ref wl) k1 (.int (iN N) z) k2 (.ref tl) k3 (.int (iN W) tw) k4 (.int (iN r) tr0) k5 (.int (iN q) tq0)), (it, rgI 0 3)] 0 rNx (fun x => [fq16 w k0 (.ref wl) k1 (.int (iN N) z) k2 (.ref tl) k3 (.int (iN W) tw) k4 (.int (iN R) (x.a 0)) k5 (.int (iN Q) (x.a 1)) (x.a 2) (x.v 0) (x.a 3) (x.v 1) (x.a 4) (x.v 2) (x.a 5) (x.v 3), x.o 0]) oNl :=
  CB (orS (isForAt [268]) (isB ["int.__floordiv__","int.__mod__","int.__mul__","int.__pow__","int.__eq__"])) 30000 oq27 (fun b0 t0 => vx (powE (c := 1) (d := 990) (b := 2) (e := 0) (u := (t0+3)) (v := (t0+1)) rfl (by decide) (by decide) (by decide)) [] fun x1 => via (fdE (c := a1) (d := 990) (a := W) (b := 1) (u := tw) (v := (x1.a 0)) ha1 (by decide) (by decide)) [] fun b2 t2 x2 => via (mdE (c := g) (d := 990) (a := a1) (b := 2) (u := (x2.a 0)) (v := (t2+1)) hg (by decide)) [] fun b3 t3 x3 => vx (powE (c := 1) (d := 990) (b := 2) (e := 0) (u := (t3+2)) (v := (t0+1)) rfl (by decide) (by decide) (by decide)) [] fun x4 => via (mdE (c := o1) (d := 990) (a := W) (b := 1) (u := tw) (v := (x4.a 0)) ho1 (by decide)) [] fun b5 t5 x5 => vx (powE (c := 2) (d := 990) (b := 2) (e := 1) (u := (t5+1)) (v := (t5+3)) rfl (by decide) (by decide) (by decide)) [] fun x6 => via (fdE (c := a2) (d := 990) (a := W) (b := 2) (u := tw) (v := (x6.a 0)) ha2 (by decide) (by decide)) [] fun b7 t7 x7 => vx (powE (c := 1) (d := 990) (b := 2) (e := 0) (u := (t7+1)) (v := (t0+1)) rfl (by decide) (by decide) (by decide)) [] fun x8 => via (mulE (c := o2) (d := 990) (a := a2) (b := 1) (u := (x7.a 0)) (v := (x8.a 0)) ho2 (by decide)) [] fun b9 t9 x9 => via (mulE (c := 0) (d := 990) (a := 4) (b := 0) (u := (t9+4)) (v := (t0+1)) rfl (by decide)) [] fun b10 t10 x10 => vx (powE (c := pw) (d := 990) (b := 4) (e := 0 + (o1 + o2)) (u := (t9+3)) (v := (t10+1)) hpw (by decide) (by decide) hpe) [] fun x11 => via (fdE (c := fq) (d := 990) (a := N) (b := pw) (u := z) (v := (x11.a 0)) hfq hp0 hp1) [] fun b12 t12 x12 => via (mdE (c := fig) (d := 990) (a := fq) (b := 4) (u := (x12.a 0)) (v := (t12+1)) hfig (by decide)) [] fun b13 t13 x13 => vi (eqI (m := iN fig) (n := iN (1 + g)) (u := (x13.a 0)) (v := (t13+3)) hE) [] fun b14 t14 x14 => vj (eqI (m := iN fig) (n := 2 - iN g) (u := (x13.a 0)) (v := (t14+5)) hF) [] fun _ => vx (hX (t14+2) (tq0) (.int 0 (t0+1)) (.int (iN g) (x3.a 0)) (.int (iN (o1 + o2)) (t9+1)) (.int (iN fig) (x13.a 0)) (t0+2) (t3+1) (t9+2) (t13+1)) [0,1] fun x16 => finz [] (fun j => match j with | 2 => (t0+2) | 3 => (t3+1) | 4 => (t9+2) | 5 => (t13+1) | j => x16.a j) (x16.o) (x16.v)) (by kernel_rfl)
theorem tk_0S (wl fr it tl : Addr) (N z W tw : Nat) (k0 k1 k2 k3 k4 k5 k6 k7 k8 k9 : Nat) (v6 v7 v8 v9 : Value) (r q tr0 tq0 : Nat) (a1 g o1 a2 o2 pw fq fig : Nat) (ha1 : W / 1 = a1) (hg : a1 % 2 = g) (ho1 : W % 1 = o1) (ha2 : W / 2 = a2) (ho2 : a2 * 1 = o2) (hpe : 0 + (o1 + o2) < 2 ^ 10) (hpw : 4 ^ (0 + (o1 + o2)) = pw) (hp0 : 0 < pw) (hp1 : pw < 2 ^ 60) (hfq : N / pw = fq) (hfig : fq % 4 = fig) (hE : (iN fig == iN (1 + g)) = false) (hF : (iN fig == 2 - iN g) = false) (R Q : Nat) (hX : ∀ (tr1 tq1 : Nat) (v6' v7' v8' v9' : Value), CS w os 600 (forC w 161 [1, 2] it fr) [(fr, fq16 w k0 (.ref wl) k1 (.int (iN N) z) k2 (.ref tl) k3 (.int (iN W) tw) k4 (.int (iN r) tr1) k5 (.int (iN q) tq1) k6 v6' k7 v7' k8 v8' k9 v9'), (it, rgI 1 2)] 0 rNx (fun x => [fq16 w k0 (.ref wl) k1 (.int (iN N) z) k2 (.ref tl) k3 (.int (iN W) tw) k4 (.int (iN R) (x.a 0)) k5 (.int (iN Q) (x.a 1)) k6 (x.v 0) k7 (x.v 1) k8 (x.v 2) k9 (x.v 3), x.o 0]) oNl) : CS w os 600 (forC w 161 [1, 2] it fr) [(fr, fq16 w k0 (.ref wl) k1 (.int (iN N) z) k2 (.ref tl) k3 (.int (iN W) tw) k4 (.int (iN r) tr0) k5 (.int (iN q) tq0) k6 v6 k7 v7 k8 v8 k9 v9), (it, rgI 0 3)] 0 rNx (fun x => [fq16 w k0 (.ref wl) k1 (.int (iN N) z) k2 (.ref tl) k3 (.int (iN W) tw) k4 (.int (iN R) (x.a 0)) k5 (.int (iN Q) (x.a 1)) k6 (x.v 0) k7 (x.v 1) k8 (x.v 2) k9 (x.v 3), x.o 0]) oNl :=
  CB (orS (isForAt [268]) (isB ["int.__floordiv__","int.__mod__","int.__mul__","int.__pow__","int.__eq__"])) 30000 oq28 (fun b0 t0 => vx (powE (c := 1) (d := 990) (b := 2) (e := 0) (u := (t0+3)) (v := (t0+1)) rfl (by decide) (by decide) (by decide)) [] fun x1 => via (fdE (c := a1) (d := 990) (a := W) (b := 1) (u := tw) (v := (x1.a 0)) ha1 (by decide) (by decide)) [] fun b2 t2 x2 => via (mdE (c := g) (d := 990) (a := a1) (b := 2) (u := (x2.a 0)) (v := (t2+1)) hg (by decide)) [] fun b3 t3 x3 => vx (powE (c := 1) (d := 990) (b := 2) (e := 0) (u := (t3+2)) (v := (t0+1)) rfl (by decide) (by decide) (by decide)) [] fun x4 => via (mdE (c := o1) (d := 990) (a := W) (b := 1) (u := tw) (v := (x4.a 0)) ho1 (by decide)) [] fun b5 t5 x5 => vx (powE (c := 2) (d := 990) (b := 2) (e := 1) (u := (t5+1)) (v := (t5+3)) rfl (by decide) (by decide) (by decide)) [] fun x6 => via (fdE (c := a2) (d := 990) (a := W) (b := 2) (u := tw) (v := (x6.a 0)) ha2 (by decide) (by decide)) [] fun b7 t7 x7 => vx (powE (c := 1) (d := 990) (b := 2) (e := 0) (u := (t7+1)) (v := (t0+1)) rfl (by decide) (by decide) (by decide)) [] fun x8 => via (mulE (c := o2) (d := 990) (a := a2) (b := 1) (u := (x7.a 0)) (v := (x8.a 0)) ho2 (by decide)) [] fun b9 t9 x9 => via (mulE (c := 0) (d := 990) (a := 4) (b := 0) (u := (t9+4)) (v := (t0+1)) rfl (by decide)) [] fun b10 t10 x10 => vx (powE (c := pw) (d := 990) (b := 4) (e := 0 + (o1 + o2)) (u := (t9+3)) (v := (t10+1)) hpw (by decide) (by decide) hpe) [] fun x11 => via (fdE (c := fq) (d := 990) (a := N) (b := pw) (u := z) (v := (x11.a 0)) hfq hp0 hp1) [] fun b12 t12 x12 => via (mdE (c := fig) (d := 990) (a := fq) (b := 4) (u := (x12.a 0)) (v := (t12+1)) hfig (by decide)) [] fun b13 t13 x13 => vi (eqI (m := iN fig) (n := iN (1 + g)) (u := (x13.a 0)) (v := (t13+3)) hE) [] fun b14 t14 x14 => vj (eqI (m := iN fig) (n := 2 - iN g) (u := (x13.a 0)) (v := (t14+2)) hF) [] fun _ => vx (hX (tr0) (tq0) (.int 0 (t0+1)) (.int (iN g) (x3.a 0)) (.int (iN (o1 + o2)) (t9+1)) (.int (iN fig) (x13.a 0)) ) [0,1] fun x16 => finz [] (x16.a) (x16.o) (x16.v)) (by kernel_rfl)
theorem tk_0Sf (wl fr it tl : Addr) (N z W tw : Nat) (k0 k1 k2 k3 k4 k5 k6 k7 k8 k9 : Nat) (v6 v7 v8 v9 : Value) (r q tr0 tq0 : Nat) (a1 g o1 a2 o2 pw fq fig : Nat) (ha1 : W / 1 = a1) (hg : a1 % 2 = g) (ho1 : W % 1 = o1) (ha2 : W / 2 = a2) (ho2 : a2 * 1 = o2) (hpe : 0 + (o1 + o2) < 2 ^ 10) (hpw : 4 ^ (0 + (o1 + o2)) = pw) (hp0 : 0 < pw) (hp1 : pw < 2 ^ 60) (hfq : N / pw = fq) (hfig : fq % 4 = fig) (hE : (iN fig == iN (1 + g)) = false) (hF : (iN fig == 2 - iN g) = false) (R Q : Nat) (hX : ∀ (tr1 tq1 : Nat) (v6' v7' v8' v9' : Value) (k6' k7' k8' k9' : Nat), CS w os 600 (forC w 161 [1, 2] it fr) [(fr, fq16 w k0 (.ref wl) k1 (.int (iN N) z) k2 (.ref tl) k3 (.int (iN W) tw) k4 (.int (iN r) tr1) k5 (.int (iN q) tq1) k6' v6' k7' v7' k8' v8' k9' v9'), (it, rgI 1 2)] 0 rNx (fun x => [fq16 w k0 (.ref wl) k1 (.int (iN N) z) k2 (.ref tl) k3 (.int (iN W) tw) k4 (.int (iN R) (x.a 0)) k5 (.int (iN Q) (x.a 1)) k6' (x.v 0) k7' (x.v 1) k8' (x.v 2) k9' (x.v 3), x.o 0]) oNl) : CS w os 600 (forC w 161 [1, 2] it fr) [(fr, fq17 w k0 (.ref wl) k1 (.int (iN N) z) k2 (.ref tl) k3 (.int (iN W) tw) k4 (.int (iN r) tr0) k5 (.int (iN q) tq0)), (it, rgI 0 3)] 0 rNx (fun x => [fq16 w k0 (.ref wl) k1 (.int (iN N) z) k2 (.ref tl) k3 (.int (iN W) tw) k4 (.int (iN R) (x.a 0)) k5 (.int (iN Q) (x.a 1)) (x.a 2) (x.v 0) (x.a 3) (x.v 1) (x.a 4) (x.v 2) (x.a 5) (x.v 3), x.o 0]) oNl :=
  CB (orS (isForAt [268]) (isB ["int.__floordiv__","int.__mod__","int.__mul__","int.__pow__","int.__eq__"])) 30000 oq28 (fun b0 t0 => vx (powE (c := 1) (d := 990) (b := 2) (e := 0) (u := (t0+3)) (v := (t0+1)) rfl (by decide) (by decide) (by decide)) [] fun x1 => via (fdE (c := a1) (d := 990) (a := W) (b := 1) (u := tw) (v := (x1.a 0)) ha1 (by decide) (by decide)) [] fun b2 t2 x2 => via (mdE (c := g) (d := 990) (a := a1) (b := 2) (u := (x2.a 0)) (v := (t2+1)) hg (by decide)) [] fun b3 t3 x3 => vx (powE (c := 1) (d := 990) (b := 2) (e := 0) (u := (t3+2)) (v := (t0+1)) rfl (by decide) (by decide) (by decide)) [] fun x4 => via (mdE (c := o1) (d := 990) (a := W) (b := 1) (u := tw) (v := (x4.a 0)) ho1 (by decide)) [] fun b5 t5 x5 => vx (powE (c := 2) (d := 990) (b := 2) (e := 1) (u := (t5+1)) (v := (t5+3)) rfl (by decide) (by decide) (by decide)) [] fun x6 => via (fdE (c := a2) (d := 990) (a := W) (b := 2) (u := tw) (v := (x6.a 0)) ha2 (by decide) (by decide)) [] fun b7 t7 x7 => vx (powE (c := 1) (d := 990) (b := 2) (e := 0) (u := (t7+1)) (v := (t0+1)) rfl (by decide) (by decide) (by decide)) [] fun x8 => via (mulE (c := o2) (d := 990) (a := a2) (b := 1) (u := (x7.a 0)) (v := (x8.a 0)) ho2 (by decide)) [] fun b9 t9 x9 => via (mulE (c := 0) (d := 990) (a := 4) (b := 0) (u := (t9+4)) (v := (t0+1)) rfl (by decide)) [] fun b10 t10 x10 => vx (powE (c := pw) (d := 990) (b := 4) (e := 0 + (o1 + o2)) (u := (t9+3)) (v := (t10+1)) hpw (by decide) (by decide) hpe) [] fun x11 => via (fdE (c := fq) (d := 990) (a := N) (b := pw) (u := z) (v := (x11.a 0)) hfq hp0 hp1) [] fun b12 t12 x12 => via (mdE (c := fig) (d := 990) (a := fq) (b := 4) (u := (x12.a 0)) (v := (t12+1)) hfig (by decide)) [] fun b13 t13 x13 => vi (eqI (m := iN fig) (n := iN (1 + g)) (u := (x13.a 0)) (v := (t13+3)) hE) [] fun b14 t14 x14 => vj (eqI (m := iN fig) (n := 2 - iN g) (u := (x13.a 0)) (v := (t14+2)) hF) [] fun _ => vx (hX (tr0) (tq0) (.int 0 (t0+1)) (.int (iN g) (x3.a 0)) (.int (iN (o1 + o2)) (t9+1)) (.int (iN fig) (x13.a 0)) (t0+2) (t3+1) (t9+2) (t13+1)) [0,1] fun x16 => finz [] (fun j => match j with | 2 => (t0+2) | 3 => (t3+1) | 4 => (t9+2) | 5 => (t13+1) | j => x16.a j) (x16.o) (x16.v)) (by kernel_rfl)
theorem tk_0W (wl fr it tl : Addr) (N z W tw : Nat) (k0 k1 k2 k3 k4 k5 k6 k7 k8 k9 : Nat) (v6 v7 v8 v9 : Value) (r q tr0 tq0 : Nat) (a1 g o1 a2 o2 pw fq fig : Nat) (ha1 : W / 1 = a1) (hg : a1 % 2 = g) (ho1 : W % 1 = o1) (ha2 : W / 2 = a2) (ho2 : a2 * 1 = o2) (hpe : 0 + (o1 + o2) < 2 ^ 10) (hpw : 4 ^ (0 + (o1 + o2)) = pw) (hp0 : 0 < pw) (hp1 : pw < 2 ^ 60) (hfq : N / pw = fq) (hfig : fq % 4 = fig) (hE : (iN fig == iN (1 + g)) = false) (hF : (iN fig == 2 - iN g) = true) (R Q : Nat) (hX : ∀ (tr1 tq1 : Nat) (v6' v7' v8' v9' : Value), CS w os 600 (forC w 161 [1, 2] it fr) [(fr, fq16 w k0 (.ref wl) k1 (.int (iN N) z) k2 (.ref tl) k3 (.int (iN W) tw) k4 (.int (iN r) tr1) k5 (.int (iN (q+1)) tq1) k6 v6' k7 v7' k8 v8' k9 v9'), (it, rgI 1 2)] 0 rNx (fun x => [fq16 w k0 (.ref wl) k1 (.int (iN N) z) k2 (.ref tl) k3 (.int (iN W) tw) k4 (.int (iN R) (x.a 0)) k5 (.int (iN Q) (x.a 1)) k6 (x.v 0) k7 (x.v 1) k8 (x.v 2) k9 (x.v 3), x.o 0]) oNl) : CS w os 600 (forC w 161 [1, 2] it fr) [(fr, fq16 w k0 (.ref wl) k1 (.int (iN N) z) k2 (.ref tl) k3 (.int (iN W) tw) k4 (.int (iN r) tr0) k5 (.int (iN q) tq0) k6 v6 k7 v7 k8 v8 k9 v9), (it, rgI 0 3)] 0 rNx (fun x => [fq16 w k0 (.ref wl) k1 (.int (iN N) z) k2 (.ref tl) k3 (.int (iN W) tw) k4 (.int (iN R) (x.a 0)) k5 (.int (iN Q) (x.a 1)) k6 (x.v 0) k7 (x.v 1) k8 (x.v 2) k9 (x.v 3), x.o 0]) oNl :=
  CB (orS (isForAt [268]) (isB ["int.__floordiv__","int.__mod__","int.__mul__","int.__pow__","int.__eq__"])) 30000 oq27 (fun b0 t0 => vx (powE (c := 1) (d := 990) (b := 2) (e := 0) (u := (t0+3)) (v := (t0+1)) rfl (by decide) (by decide) (by decide)) [] fun x1 => via (fdE (c := a1) (d := 990) (a := W) (b := 1) (u := tw) (v := (x1.a 0)) ha1 (by decide) (by decide)) [] fun b2 t2 x2 => via (mdE (c := g) (d := 990) (a := a1) (b := 2) (u := (x2.a 0)) (v := (t2+1)) hg (by decide)) [] fun b3 t3 x3 => vx (powE (c := 1) (d := 990) (b := 2) (e := 0) (u := (t3+2)) (v := (t0+1)) rfl (by decide) (by decide) (by decide)) [] fun x4 => via (mdE (c := o1) (d := 990) (a := W) (b := 1) (u := tw) (v := (x4.a 0)) ho1 (by decide)) [] fun b5 t5 x5 => vx (powE (c := 2) (d := 990) (b := 2) (e := 1) (u := (t5+1)) (v := (t5+3)) rfl (by decide) (by decide) (by decide)) [] fun x6 => via (fdE (c := a2) (d := 990) (a := W) (b := 2) (u := tw) (v := (x6.a 0)) ha2 (by decide) (by decide)) [] fun b7 t7 x7 => vx (powE (c := 1) (d := 990) (b := 2) (e := 0) (u := (t7+1)) (v := (t0+1)) rfl (by decide) (by decide) (by decide)) [] fun x8 => via (mulE (c := o2) (d := 990) (a := a2) (b := 1) (u := (x7.a 0)) (v := (x8.a 0)) ho2 (by decide)) [] fun b9 t9 x9 => via (mulE (c := 0) (d := 990) (a := 4) (b := 0) (u := (t9+4)) (v := (t0+1)) rfl (by decide)) [] fun b10 t10 x10 => vx (powE (c := pw) (d := 990) (b := 4) (e := 0 + (o1 + o2)) (u := (t9+3)) (v := (t10+1)) hpw (by decide) (by decide) hpe) [] fun x11 => via (fdE (c := fq) (d := 990) (a := N) (b := pw) (u := z) (v := (x11.a 0)) hfq hp0 hp1) [] fun b12 t12 x12 => via (mdE (c := fig) (d := 990) (a := fq) (b := 4) (u := (x12.a 0)) (v := (t12+1)) hfig (by decide)) [] fun b13 t13 x13 => vi (eqI (m := iN fig) (n := iN (1 + g)) (u := (x13.a 0)) (v := (t13+3)) hE) [] fun b14 t14 x14 => vi (eqI (m := iN fig) (n := 2 - iN g) (u := (x13.a 0)) (v := (t14+2)) hF) [] fun b15 t15 x15 => vx (hX (tr0) (t15+2) (.int 0 (t0+1)) (.int (iN g) (x3.a 0)) (.int (iN (o1 + o2)) (t9+1)) (.int (iN fig) (x13.a 0)) ) [0,1] fun x16 => finz [] (x16.a) (x16.o) (x16.v)) (by kernel_rfl)
theorem tk_0Wf (wl fr it tl : Addr) (N z W tw : Nat) (k0 k1 k2 k3 k4 k5 k6 k7 k8 k9 : Nat) (v6 v7 v8 v9 : Value) (r q tr0 tq0 : Nat) (a1 g o1 a2 o2 pw fq fig : Nat) (ha1 : W / 1 = a1) (hg : a1 % 2 = g) (ho1 : W % 1 = o1) (ha2 : W / 2 = a2) (ho2 : a2 * 1 = o2) (hpe : 0 + (o1 + o2) < 2 ^ 10) (hpw : 4 ^ (0 + (o1 + o2)) = pw) (hp0 : 0 < pw) (hp1 : pw < 2 ^ 60) (hfq : N / pw = fq) (hfig : fq % 4 = fig) (hE : (iN fig == iN (1 + g)) = false) (hF : (iN fig == 2 - iN g) = true) (R Q : Nat) (hX : ∀ (tr1 tq1 : Nat) (v6' v7' v8' v9' : Value) (k6' k7' k8' k9' : Nat), CS w os 600 (forC w 161 [1, 2] it fr) [(fr, fq16 w k0 (.ref wl) k1 (.int (iN N) z) k2 (.ref tl) k3 (.int (iN W) tw) k4 (.int (iN r) tr1) k5 (.int (iN (q+1)) tq1) k6' v6' k7' v7' k8' v8' k9' v9'), (it, rgI 1 2)] 0 rNx (fun x => [fq16 w k0 (.ref wl) k1 (.int (iN N) z) k2 (.ref tl) k3 (.int (iN W) tw) k4 (.int (iN R) (x.a 0)) k5 (.int (iN Q) (x.a 1)) k6' (x.v 0) k7' (x.v 1) k8' (x.v 2) k9' (x.v 3), x.o 0]) oNl) : CS w os 600 (forC w 161 [1, 2] it fr) [(fr, fq17 w k0 (.ref wl) k1 (.int (iN N) z) k2 (.ref tl) k3 (.int (iN W) tw) k4 (.int (iN r) tr0) k5 (.int (iN q) tq0)), (it, rgI 0 3)] 0 rNx (fun x => [fq16 w k0 (.ref wl) k1 (.int (iN N) z) k2 (.ref tl) k3 (.int (iN W) tw) k4 (.int (iN R) (x.a 0)) k5 (.int (iN Q) (x.a 1)) (x.a 2) (x.v 0) (x.a 3) (x.v 1) (x.a 4) (x.v 2) (x.a 5) (x.v 3), x.o 0]) oNl :=
  CB (orS (isForAt [268]) (isB ["int.__floordiv__","int.__mod__","int.__mul__","int.__pow__","int.__eq__"])) 30000 oq27 (fun b0 t0 => vx (powE (c := 1) (d := 990) (b := 2) (e := 0) (u := (t0+3)) (v := (t0+1)) rfl (by decide) (by decide) (by decide)) [] fun x1 => via (fdE (c := a1) (d := 990) (a := W) (b := 1) (u := tw) (v := (x1.a 0)) ha1 (by decide) (by decide)) [] fun b2 t2 x2 => via (mdE (c := g) (d := 990) (a := a1) (b := 2) (u := (x2.a 0)) (v := (t2+1)) hg (by decide)) [] fun b3 t3 x3 => vx (powE (c := 1) (d := 990) (b := 2) (e := 0) (u := (t3+2)) (v := (t0+1)) rfl (by decide) (by decide) (by decide)) [] fun x4 => via (mdE (c := o1) (d := 990) (a := W) (b := 1) (u := tw) (v := (x4.a 0)) ho1 (by decide)) [] fun b5 t5 x5 => vx (powE (c := 2) (d := 990) (b := 2) (e := 1) (u := (t5+1)) (v := (t5+3)) rfl (by decide) (by decide) (by decide)) [] fun x6 => via (fdE (c := a2) (d := 990) (a := W) (b := 2) (u := tw) (v := (x6.a 0)) ha2 (by decide) (by decide)) [] fun b7 t7 x7 => vx (powE (c := 1) (d := 990) (b := 2) (e := 0) (u := (t7+1)) (v := (t0+1)) rfl (by decide) (by decide) (by decide)) [] fun x8 => via (mulE (c := o2) (d := 990) (a := a2) (b := 1) (u := (x7.a 0)) (v := (x8.a 0)) ho2 (by decide)) [] fun b9 t9 x9 => via (mulE (c := 0) (d := 990) (a := 4) (b := 0) (u := (t9+4)) (v := (t0+1)) rfl (by decide)) [] fun b10 t10 x10 => vx (powE (c := pw) (d := 990) (b := 4) (e := 0 + (o1 + o2)) (u := (t9+3)) (v := (t10+1)) hpw (by decide) (by decide) hpe) [] fun x11 => via (fdE (c := fq) (d := 990) (a := N) (b := pw) (u := z) (v := (x11.a 0)) hfq hp0 hp1) [] fun b12 t12 x12 => via (mdE (c := fig) (d := 990) (a := fq) (b := 4) (u := (x12.a 0)) (v := (t12+1)) hfig (by decide)) [] fun b13 t13 x13 => vi (eqI (m := iN fig) (n := iN (1 + g)) (u := (x13.a 0)) (v := (t13+3)) hE) [] fun b14 t14 x14 => vi (eqI (m := iN fig) (n := 2 - iN g) (u := (x13.a 0)) (v := (t14+2)) hF) [] fun b15 t15 x15 => vx (hX (tr0) (t15+2) (.int 0 (t0+1)) (.int (iN g) (x3.a 0)) (.int (iN (o1 + o2)) (t9+1)) (.int (iN fig) (x13.a 0)) (t0+2) (t3+1) (t9+2) (t13+1)) [0,1] fun x16 => finz [] (fun j => match j with | 2 => (t0+2) | 3 => (t3+1) | 4 => (t9+2) | 5 => (t13+1) | j => x16.a j) (x16.o) (x16.v)) (by kernel_rfl)
theorem tk_1R (wl fr it tl : Addr) (N z W tw : Nat) (k0 k1 k2 k3 k4 k5 k6 k7 k8 k9 : Nat) (v6 v7 v8 v9 : Value) (r q tr0 tq0 : Nat) (a1 g o1 a2 o2 pw fq fig : Nat) (ha1 : W / 2 = a1) (hg : a1 % 2 = g) (ho1 : W % 2 = o1) (ha2 : W / 4 = a2) (ho2 : a2 * 2 = o2) (hpe : 4 + (o1 + o2) < 2 ^ 10) (hpw : 4 ^ (4 + (o1 + o2)) = pw) (hp0 : 0 < pw) (hp1 : pw < 2 ^ 60) (hfq : N / pw = fq) (hfig : fq % 4 = fig) (hE : (iN fig == iN (1 + g)) = true) (hF : (iN fig == 2 - iN g) = false) (R Q : Nat) (hX : ∀ (tr1 tq1 : Nat) (v6' v7' v8' v9' : Value), CS w os 600 (forC w 161 [1, 2] it fr) [(fr, fq16 w k0 (.ref wl) k1 (.int (iN N) z) k2 (.ref tl) k3 (.int (iN W) tw) k4 (.int (iN (r+1)) tr1) k5 (.int (iN q) tq1) k6 v6' k7 v7' k8 v8' k9 v9'), (it, rgI 2 1)] 0 rNx (fun x => [fq16 w k0 (.ref wl) k1 (.int (iN N) z) k2 (.ref tl) k3 (.int (iN W) tw) k4 (.int (iN R) (x.a 0)) k5 (.int (iN Q) (x.a 1)) k6 (x.v 0) k7 (x.v 1) k8 (x.v 2) k9 (x.v 3), x.o 0]) oNl) : CS w os 600 (forC w 161 [1, 2] it fr) [(fr, fq16 w k0 (.ref wl) k1 (.int (iN N) z) k2 (.ref tl) k3 (.int (iN W) tw) k4 (.int (iN r) tr0) k5 (.int (iN q) tq0) k6 v6 k7 v7 k8 v8 k9 v9), (it, rgI 1 2)] 0 rNx (fun x => [fq16 w k0 (.ref wl) k1 (.int (iN N) z) k2 (.ref tl) k3 (.int (iN W) tw) k4 (.int (iN R) (x.a 0)) k5 (.int (iN Q) (x.a 1)) k6 (x.v 0) k7 (x.v 1) k8 (x.v 2) k9 (x.v 3), x.o 0]) oNl :=
  CB (orS (isForAt [268]) (isB ["int.__floordiv__","int.__mod__","int.__mul__","int.__pow__","int.__eq__"])) 30000 oq27 (fun b0 t0 => vx (powE (c := 2) (d := 990) (b := 2) (e := 1) (u := (t0+3)) (v := (t0+1)) rfl (by decide) (by decide) (by decide)) [] fun x1 => via (fdE (c := a1) (d := 990) (a := W) (b := 2) (u := tw) (v := (x1.a 0)) ha1 (by decide) (by decide)) [] fun b2 t2 x2 => via (mdE (c := g) (d := 990) (a := a1) (b := 2) (u := (x2.a 0)) (v := (t2+1)) hg (by decide)) [] fun b3 t3 x3 => vx (powE (c := 2) (d := 990) (b := 2) (e := 1) (u := (t3+2)) (v := (t0+1)) rfl (by decide) (by decide) (by decide)) [] fun x4 => via (mdE (c := o1) (d := 990) (a := W) (b := 2) (u := tw) (v := (x4.a 0)) ho1 (by decide)) [] fun b5 t5 x5 => vx (powE (c := 4) (d := 990) (b := 2) (e := 2) (u := (t5+1)) (v := (t5+3)) rfl (by decide) (by decide) (by decide)) [] fun x6 => via (fdE (c := a2) (d := 990) (a := W) (b := 4) (u := tw) (v := (x6.a 0)) ha2 (by decide) (by decide)) [] fun b7 t7 x7 => vx (powE (c := 2) (d := 990) (b := 2) (e := 1) (u := (t7+1)) (v := (t0+1)) rfl (by decide) (by decide) (by decide)) [] fun x8 => via (mulE (c := o2) (d := 990) (a := a2) (b := 2) (u := (x7.a 0)) (v := (x8.a 0)) ho2 (by decide)) [] fun b9 t9 x9 => via (mulE (c := 4) (d := 990) (a := 4) (b := 1) (u := (t9+4)) (v := (t0+1)) rfl (by decide)) [] fun b10 t10 x10 => vx (powE (c := pw) (d := 990) (b := 4) (e := 4 + (o1 + o2)) (u := (t9+3)) (v := (t10+1)) hpw (by decide) (by decide) hpe) [] fun x11 => via (fdE (c := fq) (d := 990) (a := N) (b := pw) (u := z) (v := (x11.a 0)) hfq hp0 hp1) [] fun b12 t12 x12 => via (mdE (c := fig) (d := 990) (a := fq) (b := 4) (u := (x12.a 0)) (v := (t12+1)) hfig (by decide)) [] fun b13 t13 x13 => vi (eqI (m := iN fig) (n := iN (1 + g)) (u := (x13.a 0)) (v := (t13+3)) hE) [] fun b14 t14 x14 => vj (eqI (m := iN fig) (n := 2 - iN g) (u := (x13.a 0)) (v := (t14+5)) hF) [] fun _ => vx (hX (t14+2) (tq0) (.int 1 (t0+1)) (.int (iN g) (x3.a 0)) (.int (iN (o1 + o2)) (t9+1)) (.int (iN fig) (x13.a 0)) ) [0,1] fun x16 => finz [] (x16.a) (x16.o) (x16.v)) (by kernel_rfl)
theorem tk_1S (wl fr it tl : Addr) (N z W tw : Nat) (k0 k1 k2 k3 k4 k5 k6 k7 k8 k9 : Nat) (v6 v7 v8 v9 : Value) (r q tr0 tq0 : Nat) (a1 g o1 a2 o2 pw fq fig : Nat) (ha1 : W / 2 = a1) (hg : a1 % 2 = g) (ho1 : W % 2 = o1) (ha2 : W / 4 = a2) (ho2 : a2 * 2 = o2) (hpe : 4 + (o1 + o2) < 2 ^ 10) (hpw : 4 ^ (4 + (o1 + o2)) = pw) (hp0 : 0 < pw) (hp1 : pw < 2 ^ 60) (hfq : N / pw = fq) (hfig : fq % 4 = fig) (hE : (iN fig == iN (1 + g)) = false) (hF : (iN fig == 2 - iN g) = false) (R Q : Nat) (hX : ∀ (tr1 tq1 : Nat) (v6' v7' v8' v9' : Value), CS w os 600 (forC w 161 [1, 2] it fr) [(fr, fq16 w k0 (.ref wl) k1 (.int (iN N) z) k2 (.ref tl) k3 (.int (iN W) tw) k4 (.int (iN r) tr1) k5 (.int (iN q) tq1) k6 v6' k7 v7' k8 v8' k9 v9'), (it, rgI 2 1)] 0 rNx (fun x => [fq16 w k0 (.ref wl) k1 (.int (iN N) z) k2 (.ref tl) k3 (.int (iN W) tw) k4 (.int (iN R) (x.a 0)) k5 (.int (iN Q) (x.a 1)) k6 (x.v 0) k7 (x.v 1) k8 (x.v 2) k9 (x.v 3), x.o 0]) oNl) : CS w os 600 (forC w 161 [1, 2] it fr) [(fr, fq16 w k0 (.ref wl) k1 (.int (iN N) z) k2 (.ref tl) k3 (.int (iN W) tw) k4 (.int (iN r) tr0) k5 (.int (iN q) tq0) k6 v6 k7 v7 k8 v8 k9 v9), (it, rgI 1 2)] 0 rNx (fun x => [fq16 w k0 (.ref wl) k1 (.int (iN N) z) k2 (.ref tl) k3 (.int (iN W) tw) k4 (.int (iN R) (x.a 0)) k5 (.int (iN Q) (x.a 1)) k6 (x.v 0) k7 (x.v 1) k8 (x.v 2) k9 (x.v 3), x.o 0]) oNl :=
  CB (orS (isForAt [268]) (isB ["int.__floordiv__","int.__mod__","int.__mul__","int.__pow__","int.__eq__"])) 30000 oq28 (fun b0 t0 => vx (powE (c := 2) (d := 990) (b := 2) (e := 1) (u := (t0+3)) (v := (t0+1)) rfl (by decide) (by decide) (by decide)) [] fun x1 => via (fdE (c := a1) (d := 990) (a := W) (b := 2) (u := tw) (v := (x1.a 0)) ha1 (by decide) (by decide)) [] fun b2 t2 x2 => via (mdE (c := g) (d := 990) (a := a1) (b := 2) (u := (x2.a 0)) (v := (t2+1)) hg (by decide)) [] fun b3 t3 x3 => vx (powE (c := 2) (d := 990) (b := 2) (e := 1) (u := (t3+2)) (v := (t0+1)) rfl (by decide) (by decide) (by decide)) [] fun x4 => via (mdE (c := o1) (d := 990) (a := W) (b := 2) (u := tw) (v := (x4.a 0)) ho1 (by decide)) [] fun b5 t5 x5 => vx (powE (c := 4) (d := 990) (b := 2) (e := 2) (u := (t5+1)) (v := (t5+3)) rfl (by decide) (by decide) (by decide)) [] fun x6 => via (fdE (c := a2) (d := 990) (a := W) (b := 4) (u := tw) (v := (x6.a 0)) ha2 (by decide) (by decide)) [] fun b7 t7 x7 => vx (powE (c := 2) (d := 990) (b := 2) (e := 1) (u := (t7+1)) (v := (t0+1)) rfl (by decide) (by decide) (by decide)) [] fun x8 => via (mulE (c := o2) (d := 990) (a := a2) (b := 2) (u := (x7.a 0)) (v := (x8.a 0)) ho2 (by decide)) [] fun b9 t9 x9 => via (mulE (c := 4) (d := 990) (a := 4) (b := 1) (u := (t9+4)) (v := (t0+1)) rfl (by decide)) [] fun b10 t10 x10 => vx (powE (c := pw) (d := 990) (b := 4) (e := 4 + (o1 + o2)) (u := (t9+3)) (v := (t10+1)) hpw (by decide) (by decide) hpe) [] fun x11 => via (fdE (c := fq) (d := 990) (a := N) (b := pw) (u := z) (v := (x11.a 0)) hfq hp0 hp1) [] fun b12 t12 x12 => via (mdE (c := fig) (d := 990) (a := fq) (b := 4) (u := (x12.a 0)) (v := (t12+1)) hfig (by decide)) [] fun b13 t13 x13 => vi (eqI (m := iN fig) (n := iN (1 + g)) (u := (x13.a 0)) (v := (t13+3)) hE) [] fun b14 t14 x14 => vj (eqI (m := iN fig) (n := 2 - iN g) (u := (x13.a 0)) (v := (t14+2)) hF) [] fun _ => vx (hX (tr0) (tq0) (.int 1 (t0+1)) (.int (iN g) (x3.a 0)) (.int (iN (o1 + o2)) (t9+1)) (.int (iN fig) (x13.a 0)) ) [0,1] fun x16 => finz [] (x16.a) (x16.o) (x16.v)) (by kernel_rfl)
theorem tk_1W (wl fr it tl : Addr) (N z W tw : Nat) (k0 k1 k2 k3 k4 k5 k6 k7 k8 k9 : Nat) (v6 v7 v8 v9 : Value) (r q tr0 tq0 : Nat) (a1 g o1 a2 o2 pw fq fig : Nat) (ha1 : W / 2 = a1) (hg : a1 % 2 = g) (ho1 : W % 2 = o1) (ha2 : W / 4 = a2) (ho2 : a2 * 2 = o2) (hpe : 4 + (o1 + o2) < 2 ^ 10) (hpw : 4 ^ (4 + (o1 + o2)) = pw) (hp0 : 0 < pw) (hp1 : pw < 2 ^ 60) (hfq : N / pw = fq) (hfig : fq % 4 = fig) (hE : (iN fig == iN (1 + g)) = false) (hF : (iN fig == 2 - iN g) = true) (R Q : Nat) (hX : ∀ (tr1 tq1 : Nat) (v6' v7' v8' v9' : Value), CS w os 600 (forC w 161 [1, 2] it fr) [(fr, fq16 w k0 (.ref wl) k1 (.int (iN N) z) k2 (.ref tl) k3 (.int (iN W) tw) k4 (.int (iN r) tr1) k5 (.int (iN (q+1)) tq1) k6 v6' k7 v7' k8 v8' k9 v9'), (it, rgI 2 1)] 0 rNx (fun x => [fq16 w k0 (.ref wl) k1 (.int (iN N) z) k2 (.ref tl) k3 (.int (iN W) tw) k4 (.int (iN R) (x.a 0)) k5 (.int (iN Q) (x.a 1)) k6 (x.v 0) k7 (x.v 1) k8 (x.v 2) k9 (x.v 3), x.o 0]) oNl) : CS w os 600 (forC w 161 [1, 2] it fr) [(fr, fq16 w k0 (.ref wl) k1 (.int (iN N) z) k2 (.ref tl) k3 (.int (iN W) tw) k4 (.int (iN r) tr0) k5 (.int (iN q) tq0) k6 v6 k7 v7 k8 v8 k9 v9), (it, rgI 1 2)] 0 rNx (fun x => [fq16 w k0 (.ref wl) k1 (.int (iN N) z) k2 (.ref tl) k3 (.int (iN W) tw) k4 (.int (iN R) (x.a 0)) k5 (.int (iN Q) (x.a 1)) k6 (x.v 0) k7 (x.v 1) k8 (x.v 2) k9 (x.v 3), x.o 0]) oNl :=
  CB (orS (isForAt [268]) (isB ["int.__floordiv__","int.__mod__","int.__mul__","int.__pow__","int.__eq__"])) 30000 oq27 (fun b0 t0 => vx (powE (c := 2) (d := 990) (b := 2) (e := 1) (u := (t0+3)) (v := (t0+1)) rfl (by decide) (by decide) (by decide)) [] fun x1 => via (fdE (c := a1) (d := 990) (a := W) (b := 2) (u := tw) (v := (x1.a 0)) ha1 (by decide) (by decide)) [] fun b2 t2 x2 => via (mdE (c := g) (d := 990) (a := a1) (b := 2) (u := (x2.a 0)) (v := (t2+1)) hg (by decide)) [] fun b3 t3 x3 => vx (powE (c := 2) (d := 990) (b := 2) (e := 1) (u := (t3+2)) (v := (t0+1)) rfl (by decide) (by decide) (by decide)) [] fun x4 => via (mdE (c := o1) (d := 990) (a := W) (b := 2) (u := tw) (v := (x4.a 0)) ho1 (by decide)) [] fun b5 t5 x5 => vx (powE (c := 4) (d := 990) (b := 2) (e := 2) (u := (t5+1)) (v := (t5+3)) rfl (by decide) (by decide) (by decide)) [] fun x6 => via (fdE (c := a2) (d := 990) (a := W) (b := 4) (u := tw) (v := (x6.a 0)) ha2 (by decide) (by decide)) [] fun b7 t7 x7 => vx (powE (c := 2) (d := 990) (b := 2) (e := 1) (u := (t7+1)) (v := (t0+1)) rfl (by decide) (by decide) (by decide)) [] fun x8 => via (mulE (c := o2) (d := 990) (a := a2) (b := 2) (u := (x7.a 0)) (v := (x8.a 0)) ho2 (by decide)) [] fun b9 t9 x9 => via (mulE (c := 4) (d := 990) (a := 4) (b := 1) (u := (t9+4)) (v := (t0+1)) rfl (by decide)) [] fun b10 t10 x10 => vx (powE (c := pw) (d := 990) (b := 4) (e := 4 + (o1 + o2)) (u := (t9+3)) (v := (t10+1)) hpw (by decide) (by decide) hpe) [] fun x11 => via (fdE (c := fq) (d := 990) (a := N) (b := pw) (u := z) (v := (x11.a 0)) hfq hp0 hp1) [] fun b12 t12 x12 => via (mdE (c := fig) (d := 990) (a := fq) (b := 4) (u := (x12.a 0)) (v := (t12+1)) hfig (by decide)) [] fun b13 t13 x13 => vi (eqI (m := iN fig) (n := iN (1 + g)) (u := (x13.a 0)) (v := (t13+3)) hE) [] fun b14 t14 x14 => vi (eqI (m := iN fig) (n := 2 - iN g) (u := (x13.a 0)) (v := (t14+2)) hF) [] fun b15 t15 x15 => vx (hX (tr0) (t15+2) (.int 1 (t0+1)) (.int (iN g) (x3.a 0)) (.int (iN (o1 + o2)) (t9+1)) (.int (iN fig) (x13.a 0)) ) [0,1] fun x16 => finz [] (x16.a) (x16.o) (x16.v)) (by kernel_rfl)
theorem tk_2R (wl fr it tl : Addr) (N z W tw : Nat) (k0 k1 k2 k3 k4 k5 k6 k7 k8 k9 : Nat) (v6 v7 v8 v9 : Value) (r q tr0 tq0 : Nat) (a1 g o1 a2 o2 pw fq fig : Nat) (ha1 : W / 4 = a1) (hg : a1 % 2 = g) (ho1 : W % 4 = o1) (ha2 : W / 8 = a2) (ho2 : a2 * 4 = o2) (hpe : 8 + (o1 + o2) < 2 ^ 10) (hpw : 4 ^ (8 + (o1 + o2)) = pw) (hp0 : 0 < pw) (hp1 : pw < 2 ^ 60) (hfq : N / pw = fq) (hfig : fq % 4 = fig) (hE : (iN fig == iN (1 + g)) = true) (hF : (iN fig == 2 - iN g) = false) (R Q : Nat) (hX : ∀ (tr1 tq1 : Nat) (v6' v7' v8' v9' : Value), CS w os 600 (forC w 161 [1, 2] it fr) [(fr, fq16 w k0 (.ref wl) k1 (.int (iN N) z) k2 (.ref tl) k3 (.int (iN W) tw) k4 (.int (iN (r+1)) tr1) k5 (.int (iN q) tq1) k6 v6' k7 v7' k8 v8' k9 v9'), (it, rgI 3 0)] 0 rNx (fun x => [fq16 w k0 (.ref wl) k1 (.int (iN N) z) k2 (.ref tl) k3 (.int (iN W) tw) k4 (.int (iN R) (x.a 0)) k5 (.int (iN Q) (x.a 1)) k6 (x.v 0) k7 (x.v 1) k8 (x.v 2) k9 (x.v 3), x.o 0]) oNl) : CS w os 600 (forC w 161 [1, 2] it fr) [(fr, fq16 w k0 (.ref wl) k1 (.int (iN N) z) k2 (.ref tl) k3 (.int (iN W) tw) k4 (.int (iN r) tr0) k5 (.int (iN q) tq0) k6 v6 k7 v7 k8 v8 k9 v9), (it, rgI 2 1)] 0 rNx (fun x => [fq16 w k0 (.ref wl) k1 (.int (iN N) z) k2 (.ref tl) k3 (.int (iN W) tw) k4 (.int (iN R) (x.a 0)) k5 (.int (iN Q) (x.a 1)) k6 (x.v 0) k7 (x.v 1) k8 (x.v 2) k9 (x.v 3), x.o 0]) oNl :=
  CB (orS (isForAt [268]) (isB ["int.__floordiv__","int.__mod__","int.__mul__","int.__pow__","int.__eq__"])) 30000 oq27 (fun b0 t0 => vx (powE (c := 4) (d := 990) (b := 2) (e := 2) (u := (t0+3)) (v := (t0+1)) rfl (by decide) (by decide) (by decide)) [] fun x1 => via (fdE (c := a1) (d := 990) (a := W) (b := 4) (u := tw) (v := (x1.a 0)) ha1 (by decide) (by decide)) [] fun b2 t2 x2 => via (mdE (c := g) (d := 990) (a := a1) (b := 2) (u := (x2.a 0)) (v := (t2+1)) hg (by decide)) [] fun b3 t3 x3 => vx (powE (c := 4) (d := 990) (b := 2) (e := 2) (u := (t3+2)) (v := (t0+1)) rfl (by decide) (by decide) (by decide)) [] fun x4 => via (mdE (c := o1) (d := 990) (a := W) (b := 4) (u := tw) (v := (x4.a 0)) ho1 (by decide)) [] fun b5 t5 x5 => vx (powE (c := 8) (d := 990) (b := 2) (e := 3) (u := (t5+1)) (v := (t5+3)) rfl (by decide) (by decide) (by decide)) [] fun x6 => via (fdE (c := a2) (d := 990) (a := W) (b := 8) (u := tw) (v := (x6.a 0)) ha2 (by decide) (by decide)) [] fun b7 t7 x7 => vx (powE (c := 4) (d := 990) (b := 2) (e := 2) (u := (t7+1)) (v := (t0+1)) rfl (by decide) (by decide) (by decide)) [] fun x8 => via (mulE (c := o2) (d := 990) (a := a2) (b := 4) (u := (x7.a 0)) (v := (x8.a 0)) ho2 (by decide)) [] fun b9 t9 x9 => via (mulE (c := 8) (d := 990) (a := 4) (b := 2) (u := (t9+4)) (v := (t0+1)) rfl (by decide)) [] fun b10 t10 x10 => vx (powE (c := pw) (d := 990) (b := 4) (e := 8 + (o1 + o2)) (u := (t9+3)) (v := (t10+1)) hpw (by decide) (by decide) hpe) [] fun x11 => via (fdE (c := fq) (d := 990) (a := N) (b := pw) (u := z) (v := (x11.a 0)) hfq hp0 hp1) [] fun b12 t12 x12 => via (mdE (c := fig) (d := 990) (a := fq) (b := 4) (u := (x12.a 0)) (v := (t12+1)) hfig (by decide)) [] fun b13 t13 x13 => vi (eqI (m := iN fig) (n := iN (1 + g)) (u := (x13.a 0)) (v := (t13+3)) hE) [] fun b14 t14 x14 => vj (eqI (m := iN fig) (n := 2 - iN g) (u := (x13.a 0)) (v := (t14+5)) hF) [] fun _ => vx (hX (t14+2) (tq0) (.int 2 (t0+1)) (.int (iN g) (x3.a 0)) (.int (iN (o1 + o2)) (t9+1)) (.int (iN fig) (x13.a 0)) ) [0,1] fun x16 => finz [] (x16.a) (x16.o) (x16.v)) (by kernel_rfl)
theorem tk_2S (wl fr it tl : Addr) (N z W tw : Nat) (k0 k1 k2 k3 k4 k5 k6 k7 k8 k9 : Nat) (v6 v7 v8 v9 : Value) (r q tr0 tq0 : Nat) (a1 g o1 a2 o2 pw fq fig : Nat) (ha1 : W / 4 = a1) (hg : a1 % 2 = g) (ho1 : W % 4 = o1) (ha2 : W / 8 = a2) (ho2 : a2 * 4 = o2) (hpe : 8 + (o1 + o2) < 2 ^ 10) (hpw : 4 ^ (8 + (o1 + o2)) = pw) (hp0 : 0 < pw) (hp1 : pw < 2 ^ 60) (hfq : N / pw = fq) (hfig : fq % 4 = fig) (hE : (iN fig == iN (1 + g)) = false) (hF : (iN fig == 2 - iN g) = false) (R Q : Nat) (hX : ∀ (tr1 tq1 : Nat) (v6' v7' v8' v9' : Value), CS w os 600 (forC w 161 [1, 2] it fr) [(fr, fq16 w k0 (.ref wl) k1 (.int (iN N) z) k2 (.ref tl) k3 (.int (iN W) tw) k4 (.int (iN r) tr1) k5 (.int (iN q) tq1) k6 v6' k7 v7' k8 v8' k9 v9'), (it, rgI 3 0)] 0 rNx (fun x => [fq16 w k0 (.ref wl) k1 (.int (iN N) z) k2 (.ref tl) k3 (.int (iN W) tw) k4 (.int (iN R) (x.a 0)) k5 (.int (iN Q) (x.a 1)) k6 (x.v 0) k7 (x.v 1) k8 (x.v 2) k9 (x.v 3), x.o 0]) oNl) : CS w os 600 (forC w 161 [1, 2] it fr) [(fr, fq16 w k0 (.ref wl) k1 (.int (iN N) z) k2 (.ref tl) k3 (.int (iN W) tw) k4 (.int (iN r) tr0) k5 (.int (iN q) tq0) k6 v6 k7 v7 k8 v8 k9 v9), (it, rgI 2 1)] 0 rNx (fun x => [fq16 w k0 (.ref wl) k1 (.int (iN N) z) k2 (.ref tl) k3 (.int (iN W) tw) k4 (.int (iN R) (x.a 0)) k5 (.int (iN Q) (x.a 1)) k6 (x.v 0) k7 (x.v 1) k8 (x.v 2) k9 (x.v 3), x.o 0]) oNl :=
  CB (orS (isForAt [268]) (isB ["int.__floordiv__","int.__mod__","int.__mul__","int.__pow__","int.__eq__"])) 30000 oq28 (fun b0 t0 => vx (powE (c := 4) (d := 990) (b := 2) (e := 2) (u := (t0+3)) (v := (t0+1)) rfl (by decide) (by decide) (by decide)) [] fun x1 => via (fdE (c := a1) (d := 990) (a := W) (b := 4) (u := tw) (v := (x1.a 0)) ha1 (by decide) (by decide)) [] fun b2 t2 x2 => via (mdE (c := g) (d := 990) (a := a1) (b := 2) (u := (x2.a 0)) (v := (t2+1)) hg (by decide)) [] fun b3 t3 x3 => vx (powE (c := 4) (d := 990) (b := 2) (e := 2) (u := (t3+2)) (v := (t0+1)) rfl (by decide) (by decide) (by decide)) [] fun x4 => via (mdE (c := o1) (d := 990) (a := W) (b := 4) (u := tw) (v := (x4.a 0)) ho1 (by decide)) [] fun b5 t5 x5 => vx (powE (c := 8) (d := 990) (b := 2) (e := 3) (u := (t5+1)) (v := (t5+3)) rfl (by decide) (by decide) (by decide)) [] fun x6 => via (fdE (c := a2) (d := 990) (a := W) (b := 8) (u := tw) (v := (x6.a 0)) ha2 (by decide) (by decide)) [] fun b7 t7 x7 => vx (powE (c := 4) (d := 990) (b := 2) (e := 2) (u := (t7+1)) (v := (t0+1)) rfl (by decide) (by decide) (by decide)) [] fun x8 => via (mulE (c := o2) (d := 990) (a := a2) (b := 4) (u := (x7.a 0)) (v := (x8.a 0)) ho2 (by decide)) [] fun b9 t9 x9 => via (mulE (c := 8) (d := 990) (a := 4) (b := 2) (u := (t9+4)) (v := (t0+1)) rfl (by decide)) [] fun b10 t10 x10 => vx (powE (c := pw) (d := 990) (b := 4) (e := 8 + (o1 + o2)) (u := (t9+3)) (v := (t10+1)) hpw (by decide) (by decide) hpe) [] fun x11 => via (fdE (c := fq) (d := 990) (a := N) (b := pw) (u := z) (v := (x11.a 0)) hfq hp0 hp1) [] fun b12 t12 x12 => via (mdE (c := fig) (d := 990) (a := fq) (b := 4) (u := (x12.a 0)) (v := (t12+1)) hfig (by decide)) [] fun b13 t13 x13 => vi (eqI (m := iN fig) (n := iN (1 + g)) (u := (x13.a 0)) (v := (t13+3)) hE) [] fun b14 t14 x14 => vj (eqI (m := iN fig) (n := 2 - iN g) (u := (x13.a 0)) (v := (t14+2)) hF) [] fun _ => vx (hX (tr0) (tq0) (.int 2 (t0+1)) (.int (iN g) (x3.a 0)) (.int (iN (o1 + o2)) (t9+1)) (.int (iN fig) (x13.a 0)) ) [0,1] fun x16 => finz [] (x16.a) (x16.o) (x16.v)) (by kernel_rfl)
theorem tk_2W (wl fr it tl : Addr) (N z W tw : Nat) (k0 k1 k2 k3 k4 k5 k6 k7 k8 k9 : Nat) (v6 v7 v8 v9 : Value) (r q tr0 tq0 : Nat) (a1 g o1 a2 o2 pw fq fig : Nat) (ha1 : W / 4 = a1) (hg : a1 % 2 = g) (ho1 : W % 4 = o1) (ha2 : W / 8 = a2) (ho2 : a2 * 4 = o2) (hpe : 8 + (o1 + o2) < 2 ^ 10) (hpw : 4 ^ (8 + (o1 + o2)) = pw) (hp0 : 0 < pw) (hp1 : pw < 2 ^ 60) (hfq : N / pw = fq) (hfig : fq % 4 = fig) (hE : (iN fig == iN (1 + g)) = false) (hF : (iN fig == 2 - iN g) = true) (R Q : Nat) (hX : ∀ (tr1 tq1 : Nat) (v6' v7' v8' v9' : Value), CS w os 600 (forC w 161 [1, 2] it fr) [(fr, fq16 w k0 (.ref wl) k1 (.int (iN N) z) k2 (.ref tl) k3 (.int (iN W) tw) k4 (.int (iN r) tr1) k5 (.int (iN (q+1)) tq1) k6 v6' k7 v7' k8 v8' k9 v9'), (it, rgI 3 0)] 0 rNx (fun x => [fq16 w k0 (.ref wl) k1 (.int (iN N) z) k2 (.ref tl) k3 (.int (iN W) tw) k4 (.int (iN R) (x.a 0)) k5 (.int (iN Q) (x.a 1)) k6 (x.v 0) k7 (x.v 1) k8 (x.v 2) k9 (x.v 3), x.o 0]) oNl) : CS w os 600 (forC w 161 [1, 2] it fr) [(fr, fq16 w k0 (.ref wl) k1 (.int (iN N) z) k2 (.ref tl) k3 (.int (iN W) tw) k4 (.int (iN r) tr0) k5 (.int (iN q) tq0) k6 v6 k7 v7 k8 v8 k9 v9), (it, rgI 2 1)] 0 rNx (fun x => [fq16 w k0 (.ref wl) k1 (.int (iN N) z) k2 (.ref tl) k3 (.int (iN W) tw) k4 (.int (iN R) (x.a 0)) k5 (.int (iN Q) (x.a 1)) k6 (x.v 0) k7 (x.v 1) k8 (x.v 2) k9 (x.v 3), x.o 0]) oNl :=
  CB (orS (isForAt [268]) (isB ["int.__floordiv__","int.__mod__","int.__mul__","int.__pow__","int.__eq__"])) 30000 oq27 (fun b0 t0 => vx (powE (c := 4) (d := 990) (b := 2) (e := 2) (u := (t0+3)) (v := (t0+1)) rfl (by decide) (by decide) (by decide)) [] fun x1 => via (fdE (c := a1) (d := 990) (a := W) (b := 4) (u := tw) (v := (x1.a 0)) ha1 (by decide) (by decide)) [] fun b2 t2 x2 => via (mdE (c := g) (d := 990) (a := a1) (b := 2) (u := (x2.a 0)) (v := (t2+1)) hg (by decide)) [] fun b3 t3 x3 => vx (powE (c := 4) (d := 990) (b := 2) (e := 2) (u := (t3+2)) (v := (t0+1)) rfl (by decide) (by decide) (by decide)) [] fun x4 => via (mdE (c := o1) (d := 990) (a := W) (b := 4) (u := tw) (v := (x4.a 0)) ho1 (by decide)) [] fun b5 t5 x5 => vx (powE (c := 8) (d := 990) (b := 2) (e := 3) (u := (t5+1)) (v := (t5+3)) rfl (by decide) (by decide) (by decide)) [] fun x6 => via (fdE (c := a2) (d := 990) (a := W) (b := 8) (u := tw) (v := (x6.a 0)) ha2 (by decide) (by decide)) [] fun b7 t7 x7 => vx (powE (c := 4) (d := 990) (b := 2) (e := 2) (u := (t7+1)) (v := (t0+1)) rfl (by decide) (by decide) (by decide)) [] fun x8 => via (mulE (c := o2) (d := 990) (a := a2) (b := 4) (u := (x7.a 0)) (v := (x8.a 0)) ho2 (by decide)) [] fun b9 t9 x9 => via (mulE (c := 8) (d := 990) (a := 4) (b := 2) (u := (t9+4)) (v := (t0+1)) rfl (by decide)) [] fun b10 t10 x10 => vx (powE (c := pw) (d := 990) (b := 4) (e := 8 + (o1 + o2)) (u := (t9+3)) (v := (t10+1)) hpw (by decide) (by decide) hpe) [] fun x11 => via (fdE (c := fq) (d := 990) (a := N) (b := pw) (u := z) (v := (x11.a 0)) hfq hp0 hp1) [] fun b12 t12 x12 => via (mdE (c := fig) (d := 990) (a := fq) (b := 4) (u := (x12.a 0)) (v := (t12+1)) hfig (by decide)) [] fun b13 t13 x13 => vi (eqI (m := iN fig) (n := iN (1 + g)) (u := (x13.a 0)) (v := (t13+3)) hE) [] fun b14 t14 x14 => vi (eqI (m := iN fig) (n := 2 - iN g) (u := (x13.a 0)) (v := (t14+2)) hF) [] fun b15 t15 x15 => vx (hX (tr0) (t15+2) (.int 2 (t0+1)) (.int (iN g) (x3.a 0)) (.int (iN (o1 + o2)) (t9+1)) (.int (iN fig) (x13.a 0)) ) [0,1] fun x16 => finz [] (x16.a) (x16.o) (x16.v)) (by kernel_rfl)
theorem tk_endF (wl fr it tl : Addr) (N z W tw : Nat) (k0 k1 k2 k3 k4 k5 k6 k7 k8 k9 : Nat) (v6 v7 v8 v9 : Value) (R Q tr tq : Nat) (k : Int) : CS w os 600 (forC w 161 [1, 2] it fr) [(fr, fq16 w k0 (.ref wl) k1 (.int (iN N) z) k2 (.ref tl) k3 (.int (iN W) tw) k4 (.int (iN R) tr) k5 (.int (iN Q) tq) k6 v6 k7 v7 k8 v8 k9 v9), (it, rgI k 0)] 0 rNx (fun x => [fq16 w k0 (.ref wl) k1 (.int (iN N) z) k2 (.ref tl) k3 (.int (iN W) tw) k4 (.int (iN R) (x.a 0)) k5 (.int (iN Q) (x.a 1)) k6 (x.v 0) k7 (x.v 1) k8 (x.v 2) k9 (x.v 3), x.o 0]) oNl :=
  CB (noStop) 30000 [2,2,2,2,2,4] (fun b0 t0 => finz [] (fun j => match j with | 0 => tr | _ => tq) (fun _ => rgI k 0) (fun j => match j with | 0 => v6 | 1 => v7 | 2 => v8 | _ => v9)) (by kernel_rfl)
theorem told_b (wl : Addr) (τ : Nat → Nat) (N z : Nat) (out : List Value) (nn : Nat) (hT : ∀ (it fr tl k0 k1 k2 : Nat), CS w os 440 (forC w 161 [1] it fr) [(wl, wordsO τ), (tl, lsO [] 0), (fr, fq18 w k0 (.ref wl) k1 (.int (iN N) z) k2 (.ref tl)), (it, rgI 0 8)] 0 rNx (fun x => [wordsO τ, lsO out nn, fq16 w k0 (.ref wl) k1 (.int (iN N) z) k2 (.ref tl) (x.a 0) (x.v 0) (x.a 1) (x.v 1) (x.a 2) (x.v 2) (x.a 3) (x.v 3) (x.a 4) (x.v 4) (x.a 5) (x.v 5) (x.a 6) (x.v 6), x.o 0]) oNl) : CS w os 430 (.call (.ref 161) ⟨[.ref wl, .int (iN N) z], []⟩) [(wl, wordsO τ)] 1 (fun x => rOk (.ref (x.a 0))) (fun _ => [wordsO τ]) (fun x => [lsO out nn]) :=
  CB (isForAt [265]) 30000 [1,0,2,2,2,2,2,2,0,0,4,4,4,4,4,4,4,4,4,4,5,2] (fun b0 t0 => vx (hT (b0+3) (b0+0) (b0+1) (t0+1) (t0+2) (t0+3)) [0,2,1,4] fun _ => fin [2] []) (by kernel_rfl)
theorem tt_bad (wl tl fr it : Addr) (τ : Nat → Nat) (N z : Nat) (n : Nat) (xs : List Value) (sW : Str) (uW : Nat) (hx : xs.length ≤ 50) (t m : Nat) (hG : ∀ u, CS w os 900 (.builtin "list.__getitem__" ⟨[.ref wl, .int (iN t) u], []⟩) [(wl, wordsO τ)] 0 (fun _ => rOk (.str sW uW)) (fun _ => [wordsO τ]) oNl) (k0 k1 k2 : Nat) (k3 k4 k5 k6 k7 k8 k9 : Nat) (v3 v4 v5 v6 v7 v8 v9 : Value) (r : Nat) (q : Nat) (hK : ∀ (it tr0 tq0 : Nat) (tw : Nat) (v6 v7 v8 v9 : Value), CS w os 600 (forC w 161 [1, 2] it fr) [(fr, fq16 w k0 (.ref wl) k1 (.int (iN N) z) k2 (.ref tl) k3 (.int (iN t) tw) k4 (.int 0 tr0) k5 (.int 0 tq0) k6 v6 k7 v7 k8 v8 k9 v9), (it, rgI 0 3)] 0 rNx (fun x => [fq16 w k0 (.ref wl) k1 (.int (iN N) z) k2 (.ref tl) k3 (.int (iN t) tw) k4 (.int (iN (r+1)) (x.a 0)) k5 (.int (iN (q+1)) (x.a 1)) k6 (x.v 0) k7 (x.v 1) k8 (x.v 2) k9 (x.v 3), x.o 0]) oNl) (out : List Value) (nn : Nat) (hN : ∀ (v3 v4 v5 v6 v7 v8 v9 : Value), CS w os 440 (forC w 161 [1] it fr) [(wl, wordsO τ), (tl, lsO (xs ++ [.str sW uW]) (n + 1)), (fr, fq16 w k0 (.ref wl) k1 (.int (iN N) z) k2 (.ref tl) k3 v3 k4 v4 k5 v5 k6 v6 k7 v7 k8 v8 k9 v9), (it, rgI (iN (t+1)) (iN m))] 0 rNx (fun x => [wordsO τ, lsO out nn, fq16 w k0 (.ref wl) k1 (.int (iN N) z) k2 (.ref tl) k3 (x.v 0) k4 (x.v 1) k5 (x.v 2) k6 (x.v 3) k7 (x.v 4) k8 (x.v 5) k9 (x.v 6), x.o 0]) oNl) : CS w os 440 (forC w 161 [1] it fr) [(wl, wordsO τ), (tl, lsO xs n), (fr, fq16 w k0 (.ref wl) k1 (.int (iN N) z) k2 (.ref tl) k3 v3 k4 v4 k5 v5 k6 v6 k7 v7 k8 v8 k9 v9), (it, rgI (iN t) (iN (m+1)))] 0 rNx (fun x => [wordsO τ, lsO out nn, fq16 w k0 (.ref wl) k1 (.int (iN N) z) k2 (.ref tl) k3 (x.v 0) k4 (x.v 1) k5 (x.v 2) k6 (x.v 3) k7 (x.v 4) k8 (x.v 5) k9 (x.v 6), x.o 0]) oNl :=
  CB (orS (isForAt [265,268]) (isB ["int.__gt__","list.__getitem__","list.append"])) 30000 oq29 (fun b0 t0 => rwv 3 1 (rgN t m) (rgI (iN (t+1)) (iN m)) (rgI_next t m) <| via (hK (b0+1) (t0+3) (t0+5) (t0+1) v6 v7 v8 v9) [2,5] fun b1 t1 x1 => vj (gtI (m := iN (q+1)) (n := 0) (u := (x1.a 1)) (v := (t1+2)) (b := true) (by simp)) [] fun _ => vx (hG (t0+1)) [0] fun _ => vj (append_s (l := tl) (xs := xs) (n := n) (v := .str sW uW) (by omega)) [1] fun _ => vx (hN  (.int (iN t) (t0+1)) (.int (iN (r+1)) (x1.a 0)) (.int (iN (q+1)) (x1.a 1)) (x1.v 0) (x1.v 1) (x1.v 2) (x1.v 3)) [0,1,2,3] fun x5 => finz [] (fun j => j) (x5.o) (x5.v)) (by kernel_rfl)
theorem tt_badf (wl tl fr it : Addr) (τ : Nat → Nat) (N z : Nat) (n : Nat) (xs : List Value) (sW : Str) (uW : Nat) (hx : xs.length ≤ 50) (t m : Nat) (hG : ∀ u, CS w os 900 (.builtin "list.__getitem__" ⟨[.ref wl, .int (iN t) u], []⟩) [(wl, wordsO τ)] 0 (fun _ => rOk (.str sW uW)) (fun _ => [wordsO τ]) oNl) (k0 k1 k2 : Nat) (r : Nat) (q : Nat) (hK : ∀ (it tr0 tq0 : Nat) (tw : Nat) (k3 k4 k5 : Nat), CS w os 600 (forC w 161 [1, 2] it fr) [(fr, fq17 w k0 (.ref wl) k1 (.int (iN N) z) k2 (.ref tl) k3 (.int (iN t) tw) k4 (.int 0 tr0) k5 (.int 0 tq0)), (it, rgI 0 3)] 0 rNx (fun x => [fq16 w k0 (.ref wl) k1 (.int (iN N) z) k2 (.ref tl) k3 (.int (iN t) tw) k4 (.int (iN (r+1)) (x.a 0)) k5 (.int (iN (q+1)) (x.a 1)) (x.a 2) (x.v 0) (x.a 3) (x.v 1) (x.a 4) (x.v 2) (x.a 5) (x.v 3), x.o 0]) oNl) (out : List Value) (nn : Nat) (hN : ∀ (k3 k4 k5 k6 k7 k8 k9 : Nat) (v3 v4 v5 v6 v7 v8 v9 : Value), CS w os 440 (forC w 161 [1] it fr) [(wl, wordsO τ), (tl, lsO (xs ++ [.str sW uW]) (n + 1)), (fr, fq16 w k0 (.ref wl) k1 (.int (iN N) z) k2 (.ref tl) k3 v3 k4 v4 k5 v5 k6 v6 k7 v7 k8 v8 k9 v9), (it, rgI (iN (t+1)) (iN m))] 0 rNx (fun x => [wordsO τ, lsO out nn, fq16 w k0 (.ref wl) k1 (.int (iN N) z) k2 (.ref tl) k3 (x.v 0) k4 (x.v 1) k5 (x.v 2) k6 (x.v 3) k7 (x.v 4) k8 (x.v 5) k9 (x.v 6), x.o 0]) oNl) : CS w os 440 (forC w 161 [1] it fr) [(wl, wordsO τ), (tl, lsO xs n), (fr, fq18 w k0 (.ref wl) k1 (.int (iN N) z) k2 (.ref tl)), (it, rgI (iN t) (iN (m+1)))] 0 rNx (fun x => [wordsO τ, lsO out nn, fq16 w k0 (.ref wl) k1 (.int (iN N) z) k2 (.ref tl) (x.a 0) (x.v 0) (x.a 1) (x.v 1) (x.a 2) (x.v 2) (x.a 3) (x.v 3) (x.a 4) (x.v 4) (x.a 5) (x.v 5) (x.a 6) (x.v 6), x.o 0]) oNl :=
  CB (orS (isForAt [265,268]) (isB ["int.__gt__","list.__getitem__","list.append"])) 30000 oq29 (fun b0 t0 => rwv 3 1 (rgN t m) (rgI (iN (t+1)) (iN m)) (rgI_next t m) <| via (hK (b0+1) (t0+3) (t0+5) (t0+1) (t0+2) (t0+4) (t0+6)) [2,5] fun b1 t1 x1 => vj (gtI (m := iN (q+1)) (n := 0) (u := (x1.a 1)) (v := (t1+2)) (b := true) (by simp)) [] fun _ => vx (hG (t0+1)) [0] fun _ => vj (append_s (l := tl) (xs := xs) (n := n) (v := .str sW uW) (by omega)) [1] fun _ => vx (hN (t0+2) (t0+4) (t0+6) (x1.a 2) (x1.a 3) (x1.a 4) (x1.a 5) (.int (iN t) (t0+1)) (.int (iN (r+1)) (x1.a 0)) (.int (iN (q+1)) (x1.a 1)) (x1.v 0) (x1.v 1) (x1.v 2) (x1.v 3)) [0,1,2,3] fun x5 => finz [] (nth [(t0+2), (t0+4), (t0+6), (x1.a 2), (x1.a 3), (x1.a 4), (x1.a 5)]) (x5.o) (x5.v)) (by kernel_rfl)
theorem tt_endF (wl tl fr it : Addr) (τ : Nat → Nat) (N z : Nat) (n : Nat) (xs : List Value) (k0 k1 k2 k3 k4 k5 k6 k7 k8 k9 : Nat) (v3 v4 v5 v6 v7 v8 v9 : Value) (k : Int) : CS w os 440 (forC w 161 [1] it fr) [(wl, wordsO τ), (tl, lsO xs n), (fr, fq16 w k0 (.ref wl) k1 (.int (iN N) z) k2 (.ref tl) k3 v3 k4 v4 k5 v5 k6 v6 k7 v7 k8 v8 k9 v9), (it, rgI k 0)] 0 rNx (fun x => [wordsO τ, lsO xs n, fq16 w k0 (.ref wl) k1 (.int (iN N) z) k2 (.ref tl) k3 (x.v 0) k4 (x.v 1) k5 (x.v 2) k6 (x.v 3) k7 (x.v 4) k8 (x.v 5) k9 (x.v 6), x.o 0]) oNl :=
  CB (noStop) 30000 [4,4,4,4,4,6] (fun b0 t0 => finz [] (fun j => j) (fun _ => rgI k 0) (fun j => match j with | 0 => v3 | 1 => v4 | 2 => v5 | 3 => v6 | 4 => v7 | 5 => v8 | _ => v9)) (by kernel_rfl)
theorem tt_none (wl tl fr it : Addr) (τ : Nat → Nat) (N z : Nat) (n : Nat) (xs : List Value) (sW : Str) (uW : Nat) (hx : xs.length ≤ 50) (t m : Nat) (hG : ∀ u, CS w os 900 (.builtin "list.__getitem__" ⟨[.ref wl, .int (iN t) u], []⟩) [(wl, wordsO τ)] 0 (fun _ => rOk (.str sW uW)) (fun _ => [wordsO τ]) oNl) (k0 k1 k2 : Nat) (k3 k4 k5 k6 k7 k8 k9 : Nat) (v3 v4 v5 v6 v7 v8 v9 : Value) (q : Nat) (hK : ∀ (it tr0 tq0 : Nat) (tw : Nat) (v6 v7 v8 v9 : Value), CS w os 600 (forC w 161 [1, 2] it fr) [(fr, fq16 w k0 (.ref wl) k1 (.int (iN N) z) k2 (.ref tl) k3 (.int (iN t) tw) k4 (.int 0 tr0) k5 (.int 0 tq0) k6 v6 k7 v7 k8 v8 k9 v9), (it, rgI 0 3)] 0 rNx (fun x => [fq16 w k0 (.ref wl) k1 (.int (iN N) z) k2 (.ref tl) k3 (.int (iN t) tw) k4 (.int (iN 0) (x.a 0)) k5 (.int (iN q) (x.a 1)) k6 (x.v 0) k7 (x.v 1) k8 (x.v 2) k9 (x.v 3), x.o 0]) oNl) (out : List Value) (nn : Nat) (hN : ∀ (v3 v4 v5 v6 v7 v8 v9 : Value), CS w os 440 (forC w 161 [1] it fr) [(wl, wordsO τ), (tl, lsO (xs ++ [.str sW uW]) (n + 1)), (fr, fq16 w k0 (.ref wl) k1 (.int (iN N) z) k2 (.ref tl) k3 v3 k4 v4 k5 v5 k6 v6 k7 v7 k8 v8 k9 v9), (it, rgI (iN (t+1)) (iN m))] 0 rNx (fun x => [wordsO τ, lsO out nn, fq16 w k0 (.ref wl) k1 (.int (iN N) z) k2 (.ref tl) k3 (x.v 0) k4 (x.v 1) k5 (x.v 2) k6 (x.v 3) k7 (x.v 4) k8 (x.v 5) k9 (x.v 6), x.o 0]) oNl) : CS w os 440 (forC w 161 [1] it fr) [(wl, wordsO τ), (tl, lsO xs n), (fr, fq16 w k0 (.ref wl) k1 (.int (iN N) z) k2 (.ref tl) k3 v3 k4 v4 k5 v5 k6 v6 k7 v7 k8 v8 k9 v9), (it, rgI (iN t) (iN (m+1)))] 0 rNx (fun x => [wordsO τ, lsO out nn, fq16 w k0 (.ref wl) k1 (.int (iN N) z) k2 (.ref tl) k3 (x.v 0) k4 (x.v 1) k5 (x.v 2) k6 (x.v 3) k7 (x.v 4) k8 (x.v 5) k9 (x.v 6), x.o 0]) oNl :=
  CB (orS (isForAt [265,268]) (isB ["int.__gt__","list.__getitem__","list.append"])) 30000 oq30 (fun b0 t0 => rwv 3 1 (rgN t m) (rgI (iN (t+1)) (iN m)) (rgI_next t m) <| vx (hK (b0+1) (t0+3) (t0+5) (t0+1) v6 v7 v8 v9) [2,5] fun x1 => vx (hG (t0+1)) [0] fun _ => vj (append_s (l := tl) (xs := xs) (n := n) (v := .str sW uW) (by omega)) [1] fun _ => vx (hN  (.int (iN t) (t0+1)) (.int (iN 0) (x1.a 0)) (.int (iN q) (x1.a 1)) (x1.v 0) (x1.v 1) (x1.v 2) (x1.v 3)) [0,1,2,3] fun x4 => finz [] (fun j => j) (x4.o) (x4.v)) (by kernel_rfl)
theorem tt_nonef (wl tl fr it : Addr) (τ : Nat → Nat) (N z : Nat) (n : Nat) (xs : List Value) (sW : Str) (uW : Nat) (hx : xs.length ≤ 50) (t m : Nat) (hG : ∀ u, CS w os 900 (.builtin "list.__getitem__" ⟨[.ref wl, .int (iN t) u], []⟩) [(wl, wordsO τ)] 0 (fun _ => rOk (.str sW uW)) (fun _ => [wordsO τ]) oNl) (k0 k1 k2 : Nat) (q : Nat) (hK : ∀ (it tr0 tq0 : Nat) (tw : Nat) (k3 k4 k5 : Nat), CS w os 600 (forC w 161 [1, 2] it fr) [(fr, fq17 w k0 (.ref wl) k1 (.int (iN N) z) k2 (.ref tl) k3 (.int (iN t) tw) k4 (.int 0 tr0) k5 (.int 0 tq0)), (it, rgI 0 3)] 0 rNx (fun x => [fq16 w k0 (.ref wl) k1 (.int (iN N) z) k2 (.ref tl) k3 (.int (iN t) tw) k4 (.int (iN 0) (x.a 0)) k5 (.int (iN q) (x.a 1)) (x.a 2) (x.v 0) (x.a 3) (x.v 1) (x.a 4) (x.v 2) (x.a 5) (x.v 3), x.o 0]) oNl) (out : List Value) (nn : Nat) (hN : ∀ (k3 k4 k5 k6 k7 k8 k9 : Nat) (v3 v4 v5 v6 v7 v8 v9 : Value), CS w os 440 (forC w 161 [1] it fr) [(wl, wordsO τ), (tl, lsO (xs ++ [.str sW uW]) (n + 1)), (fr, fq16 w k0 (.ref wl) k1 (.int (iN N) z) k2 (.ref tl) k3 v3 k4 v4 k5 v5 k6 v6 k7 v7 k8 v8 k9 v9), (it, rgI (iN (t+1)) (iN m))] 0 rNx (fun x => [wordsO τ, lsO out nn, fq16 w k0 (.ref wl) k1 (.int (iN N) z) k2 (.ref tl) k3 (x.v 0) k4 (x.v 1) k5 (x.v 2) k6 (x.v 3) k7 (x.v 4) k8 (x.v 5) k9 (x.v 6), x.o 0]) oNl) : CS w os 440 (forC w 161 [1] it fr) [(wl, wordsO τ), (tl, lsO xs n), (fr, fq18 w k0 (.ref wl) k1 (.int (iN N) z) k2 (.ref tl)), (it, rgI (iN t) (iN (m+1)))] 0 rNx (fun x => [wordsO τ, lsO out nn, fq16 w k0 (.ref wl) k1 (.int (iN N) z) k2 (.ref tl) (x.a 0) (x.v 0) (x.a 1) (x.v 1) (x.a 2) (x.v 2) (x.a 3) (x.v 3) (x.a 4) (x.v 4) (x.a 5) (x.v 5) (x.a 6) (x.v 6), x.o 0]) oNl :=
  CB (orS (isForAt [265,268]) (isB ["int.__gt__","list.__getitem__","list.append"])) 30000 oq30 (fun b0 t0 => rwv 3 1 (rgN t m) (rgI (iN (t+1)) (iN m)) (rgI_next t m) <| vx (hK (b0+1) (t0+3) (t0+5) (t0+1) (t0+2) (t0+4) (t0+6)) [2,5] fun x1 => vx (hG (t0+1)) [0] fun _ => vj (append_s (l := tl) (xs := xs) (n := n) (v := .str sW uW) (by omega)) [1] fun _ => vx (hN (t0+2) (t0+4) (t0+6) (x1.a 2) (x1.a 3) (x1.a 4) (x1.a 5) (.int (iN t) (t0+1)) (.int (iN 0) (x1.a 0)) (.int (iN q) (x1.a 1)) (x1.v 0) (x1.v 1) (x1.v 2) (x1.v 3)) [0,1,2,3] fun x4 => finz [] (nth [(t0+2), (t0+4), (t0+6), (x1.a 2), (x1.a 3), (x1.a 4), (x1.a 5)]) (x4.o) (x4.v)) (by kernel_rfl)
theorem tt_ok (wl tl fr it : Addr) (τ : Nat → Nat) (N z : Nat) (n : Nat) (xs : List Value) (sW : Str) (uW : Nat) (hx : xs.length ≤ 50) (t m : Nat) (hG : ∀ u, CS w os 900 (.builtin "list.__getitem__" ⟨[.ref wl, .int (iN t) u], []⟩) [(wl, wordsO τ)] 0 (fun _ => rOk (.str sW uW)) (fun _ => [wordsO τ]) oNl) (k0 k1 k2 : Nat) (k3 k4 k5 k6 k7 k8 k9 : Nat) (v3 v4 v5 v6 v7 v8 v9 : Value) (r : Nat) (hK : ∀ (it tr0 tq0 : Nat) (tw : Nat) (v6 v7 v8 v9 : Value), CS w os 600 (forC w 161 [1, 2] it fr) [(fr, fq16 w k0 (.ref wl) k1 (.int (iN N) z) k2 (.ref tl) k3 (.int (iN t) tw) k4 (.int 0 tr0) k5 (.int 0 tq0) k6 v6 k7 v7 k8 v8 k9 v9), (it, rgI 0 3)] 0 rNx (fun x => [fq16 w k0 (.ref wl) k1 (.int (iN N) z) k2 (.ref tl) k3 (.int (iN t) tw) k4 (.int (iN (r+1)) (x.a 0)) k5 (.int (iN 0) (x.a 1)) k6 (x.v 0) k7 (x.v 1) k8 (x.v 2) k9 (x.v 3), x.o 0]) oNl) (out : List Value) (nn : Nat) (hN : ∀ (v3 v4 v5 v6 v7 v8 v9 : Value), CS w os 440 (forC w 161 [1] it fr) [(wl, wordsO τ), (tl, lsO xs n), (fr, fq16 w k0 (.ref wl) k1 (.int (iN N) z) k2 (.ref tl) k3 v3 k4 v4 k5 v5 k6 v6 k7 v7 k8 v8 k9 v9), (it, rgI (iN (t+1)) (iN m))] 0 rNx (fun x => [wordsO τ, lsO out nn, fq16 w k0 (.ref wl) k1 (.int (iN N) z) k2 (.ref tl) k3 (x.v 0) k4 (x.v 1) k5 (x.v 2) k6 (x.v 3) k7 (x.v 4) k8 (x.v 5) k9 (x.v 6), x.o 0]) oNl) : CS w os 440 (forC w 161 [1] it fr) [(wl, wordsO τ), (tl, lsO xs n), (fr, fq16 w k0 (.ref wl) k1 (.int (iN N) z) k2 (.ref tl) k3 v3 k4 v4 k5 v5 k6 v6 k7 v7 k8 v8 k9 v9), (it, rgI (iN t) (iN (m+1)))] 0 rNx (fun x => [wordsO τ, lsO out nn, fq16 w k0 (.ref wl) k1 (.int (iN N) z) k2 (.ref tl) k3 (x.v 0) k4 (x.v 1) k5 (x.v 2) k6 (x.v 3) k7 (x.v 4) k8 (x.v 5) k9 (x.v 6), x.o 0]) oNl :=
  CB (orS (isForAt [265,268]) (isB ["int.__gt__","list.__getitem__","list.append"])) 30000 oq31 (fun b0 t0 => rwv 3 1 (rgN t m) (rgI (iN (t+1)) (iN m)) (rgI_next t m) <| via (hK (b0+1) (t0+3) (t0+5) (t0+1) v6 v7 v8 v9) [2,5] fun b1 t1 x1 => vj (gtI (m := iN 0) (n := 0) (u := (x1.a 1)) (v := (t1+2)) (b := false) (by simp)) [] fun _ => vx (hN  (.int (iN t) (t0+1)) (.int (iN (r+1)) (x1.a 0)) (.int (iN 0) (x1.a 1)) (x1.v 0) (x1.v 1) (x1.v 2) (x1.v 3)) [0,1,2,3] fun x3 => finz [] (fun j => j) (x3.o) (x3.v)) (by kernel_rfl)
theorem tt_okf (wl tl fr it : Addr) (τ : Nat → Nat) (N z : Nat) (n : Nat) (xs : List Value) (sW : Str) (uW : Nat) (hx : xs.length ≤ 50) (t m : Nat) (hG : ∀ u, CS w os 900 (.builtin "list.__getitem__" ⟨[.ref wl, .int (iN t) u], []⟩) [(wl, wordsO τ)] 0 (fun _ => rOk (.str sW uW)) (fun _ => [wordsO τ]) oNl) (k0 k1 k2 : Nat) (r : Nat) (hK : ∀ (it tr0 tq0 : Nat) (tw : Nat) (k3 k4 k5 : Nat), CS w os 600 (forC w 161 [1, 2] it fr) [(fr, fq17 w k0 (.ref wl) k1 (.int (iN N) z) k2 (.ref tl) k3 (.int (iN t) tw) k4 (.int 0 tr0) k5 (.int 0 tq0)), (it, rgI 0 3)] 0 rNx (fun x => [fq16 w k0 (.ref wl) k1 (.int (iN N) z) k2 (.ref tl) k3 (.int (iN t) tw) k4 (.int (iN (r+1)) (x.a 0)) k5 (.int (iN 0) (x.a 1)) (x.a 2) (x.v 0) (x.a 3) (x.v 1) (x.a 4) (x.v 2) (x.a 5) (x.v 3), x.o 0]) oNl) (out : List Value) (nn : Nat) (hN : ∀ (k3 k4 k5 k6 k7 k8 k9 : Nat) (v3 v4 v5 v6 v7 v8 v9 : Value), CS w os 440 (forC w 161 [1] it fr) [(wl, wordsO τ), (tl, lsO xs n), (fr, fq16 w k0 (.ref wl) k1 (.int (iN N) z) k2 (.ref tl) k3 v3 k4 v4 k5 v5 k6 v6 k7 v7 k8 v8 k9 v9), (it, rgI (iN (t+1)) (iN m))] 0 rNx (fun x => [wordsO τ, lsO out nn, fq16 w k0 (.ref wl) k1 (.int (iN N) z) k2 (.ref tl) k3 (x.v 0) k4 (x.v 1) k5 (x.v 2) k6 (x.v 3) k7 (x.v 4) k8 (x.v 5) k9 (x.v 6), x.o 0]) oNl) : CS w os 440 (forC w 161 [1] it fr) [(wl, wordsO τ), (tl, lsO xs n), (fr, fq18 w k0 (.ref wl) k1 (.int (iN N) z) k2 (.ref tl)), (it, rgI (iN t) (iN (m+1)))] 0 rNx (fun x => [wordsO τ, lsO out nn, fq16 w k0 (.ref wl) k1 (.int (iN N) z) k2 (.ref tl) (x.a 0) (x.v 0) (x.a 1) (x.v 1) (x.a 2) (x.v 2) (x.a 3) (x.v 3) (x.a 4) (x.v 4) (x.a 5) (x.v 5) (x.a 6) (x.v 6), x.o 0]) oNl :=
  CB (orS (isForAt [265,268]) (isB ["int.__gt__","list.__getitem__","list.append"])) 30000 oq31 (fun b0 t0 => rwv 3 1 (rgN t m) (rgI (iN (t+1)) (iN m)) (rgI_next t m) <| via (hK (b0+1) (t0+3) (t0+5) (t0+1) (t0+2) (t0+4) (t0+6)) [2,5] fun b1 t1 x1 => vj (gtI (m := iN 0) (n := 0) (u := (x1.a 1)) (v := (t1+2)) (b := false) (by simp)) [] fun _ => vx (hN (t0+2) (t0+4) (t0+6) (x1.a 2) (x1.a 3) (x1.a 4) (x1.a 5) (.int (iN t) (t0+1)) (.int (iN (r+1)) (x1.a 0)) (.int (iN 0) (x1.a 1)) (x1.v 0) (x1.v 1) (x1.v 2) (x1.v 3)) [0,1,2,3] fun x3 => finz [] (nth [(t0+2), (t0+4), (t0+6), (x1.a 2), (x1.a 3), (x1.a 4), (x1.a 5)]) (x3.o) (x3.v)) (by kernel_rfl)
theorem wc_A (it acc loc fr : Addr) (ds : List Nat) (t i : Nat) (cs : List (List Nat)) (tka : Nat → Nat) (nx : Nat) (c : Nat) (hx : cs.length ≤ 100) (hv : ds[i]? = some c) (k0 : Nat) (v0 : Value) (co : List (List Nat)) (nn : Nat) (hX : ∀ (v0' : Value) (tka' : Nat → Nat), CS w os 560 (compC w 118 [0, 0] it acc loc fr []) [(it, siO ds t (i+1)), (acc, lsO (stL (cs ++ [[c]]) tka') (nx+1)), (loc, dq19 w k0 v0')] 0 rNx (fun x => [x.o 0, lsO (stL co (fun j => x.a (j + 3))) nn, dq19 w k0 (x.v 0)]) oNl) : CS w os 560 (compC w 118 [0, 0] it acc loc fr []) [(it, siO ds t i), (acc, lsO (stL cs tka) nx), (loc, dq19 w k0 v0)] 0 rNx (fun x => [x.o 0, lsO (stL co (fun j => x.a (j + 3))) nn, dq19 w k0 (x.v 0)]) oNl :=
  CB (orS isFor (isB ["str_ascii_iterator.__next__","list.append","str.__add__"])) 30000 [1,1,3,3,3,2] (fun b0 t0 => vj (sNext (it := it) (i := i) (t := t) (ds := ds) hv) [0] fun x1 => vj (appendT (a := acc) (l := cs) (tk := tka) (n := nx) (s := [c]) (t := (x1.a 0)) hx) [1] fun _ => vx (hX (sv [c] (x1.a 0)) (updT tka cs.length (x1.a 0)) ) [0,1,2] fun x3 => finz [] (x3.a) (x3.o) (x3.v)) (by kernel_rfl)
theorem wc_Af (it acc loc fr : Addr) (ds : List Nat) (t i : Nat) (cs : List (List Nat)) (tka : Nat → Nat) (nx : Nat) (c : Nat) (hx : cs.length ≤ 100) (hv : ds[i]? = some c) (co : List (List Nat)) (nn : Nat) (hX : ∀ (v0' : Value) (tka' : Nat → Nat) (k0' : Nat), CS w os 560 (compC w 118 [0, 0] it acc loc fr []) [(it, siO ds t (i+1)), (acc, lsO (stL (cs ++ [[c]]) tka') (nx+1)), (loc, dq19 w k0' v0')] 0 rNx (fun x => [x.o 0, lsO (stL co (fun j => x.a (j + 3))) nn, dq19 w k0' (x.v 0)]) oNl) : CS w os 560 (compC w 118 [0, 0] it acc loc fr []) [(it, siO ds t i), (acc, lsO (stL cs tka) nx), (loc, dcE w [])] 0 rNx (fun x => [x.o 0, lsO (stL co (fun j => x.a (j + 3))) nn, dq19 w (x.a 0) (x.v 0)]) oNl :=
  CB (orS isFor (isB ["str_ascii_iterator.__next__","list.append","str.__add__"])) 30000 [1,1,3,3,3,2] (fun b0 t0 => vi (sNext (it := it) (i := i) (t := t) (ds := ds) hv) [0] fun b1 t1 x1 => vj (appendT (a := acc) (l := cs) (tk := tka) (n := nx) (s := [c]) (t := (x1.a 0)) hx) [1] fun _ => vx (hX (sv [c] (x1.a 0)) (updT tka cs.length (x1.a 0)) (t1+1)) [0,1,2] fun x3 => finz [] (fun j => match j with | 0 => (t1+1) | j + 1 => x3.a (j + 1)) (x3.o) (x3.v)) (by kernel_rfl)
theorem wc_B (it acc loc fr : Addr) (ds : List Nat) (t i : Nat) (cs : List (List Nat)) (tka : Nat → Nat) (nx : Nat) (c : Nat) (hx : cs.length ≤ 100) (hv : ds[i]? = some c) (k0 : Nat) (v0 : Value) (co : List (List Nat)) (nn : Nat) (hX : ∀ (v0' : Value) (tka' : Nat → Nat), CS w os 560 (compC w 118 [2] it acc loc fr []) [(it, siO ds t (i+1)), (acc, lsO (stL (cs ++ [[92, c]]) tka') (nx+1)), (loc, dq19 w k0 v0')] 0 rNx (fun x => [x.o 0, lsO (stL co (fun j => x.a (j + 3))) nn, dq19 w k0 (x.v 0)]) oNl) : CS w os 560 (compC w 118 [2] it acc loc fr []) [(it, siO ds t i), (acc, lsO (stL cs tka) nx), (loc, dq19 w k0 v0)] 0 rNx (fun x => [x.o 0, lsO (stL co (fun j => x.a (j + 3))) nn, dq19 w k0 (x.v 0)]) oNl :=
  CB (orS isFor (isB ["str_ascii_iterator.__next__","list.append","str.__add__"])) 30000 [1,1,3,3,3,2] (fun b0 t0 => vi (sNext (it := it) (i := i) (t := t) (ds := ds) hv) [0] fun b1 t1 x1 => vj (addS (s := [92]) (r := [c]) (t := (t1+2)) (u := (x1.a 0)) (by simp)) [] fun x2 => vj (appendT (a := acc) (l := cs) (tk := tka) (n := nx) (s := [92, c]) (t := (x2.a 0)) hx) [1] fun _ => vx (hX (sv [c] (x1.a 0)) (updT tka cs.length (x2.a 0)) ) [0,1,2] fun x4 => finz [] (x4.a) (x4.o) (x4.v)) (by kernel_rfl)
theorem wc_Bf (it acc loc fr : Addr) (ds : List Nat) (t i : Nat) (cs : List (List Nat)) (tka : Nat → Nat) (nx : Nat) (c : Nat) (hx : cs.length ≤ 100) (hv : ds[i]? = some c) (co : List (List Nat)) (nn : Nat) (hX : ∀ (v0' : Value) (tka' : Nat → Nat) (k0' : Nat), CS w os 560 (compC w 118 [2] it acc loc fr []) [(it, siO ds t (i+1)), (acc, lsO (stL (cs ++ [[92, c]]) tka') (nx+1)), (loc, dq19 w k0' v0')] 0 rNx (fun x => [x.o 0, lsO (stL co (fun j => x.a (j + 3))) nn, dq19 w k0' (x.v 0)]) oNl) : CS w os 560 (compC w 118 [2] it acc loc fr []) [(it, siO ds t i), (acc, lsO (stL cs tka) nx), (loc, dcE w [])] 0 rNx (fun x => [x.o 0, lsO (stL co (fun j => x.a (j + 3))) nn, dq19 w (x.a 0) (x.v 0)]) oNl :=
  CB (orS isFor (isB ["str_ascii_iterator.__next__","list.append","str.__add__"])) 30000 [1,1,3,3,3,2] (fun b0 t0 => vi (sNext (it := it) (i := i) (t := t) (ds := ds) hv) [0] fun b1 t1 x1 => vj (addS (s := [92]) (r := [c]) (t := (t1+2)) (u := (x1.a 0)) (by simp)) [] fun x2 => vj (appendT (a := acc) (l := cs) (tk := tka) (n := nx) (s := [92, c]) (t := (x2.a 0)) hx) [1] fun _ => vx (hX (sv [c] (x1.a 0)) (updT tka cs.length (x2.a 0)) (t1+1)) [0,1,2] fun x4 => finz [] (fun j => match j with | 0 => (t1+1) | j + 1 => x4.a (j + 1)) (x4.o) (x4.v)) (by kernel_rfl)
theorem wc_endA (it acc loc fr : Addr) (ds : List Nat) (t i : Nat) (cs : List (List Nat)) (tka : Nat → Nat) (nx : Nat) (hv : ds[i]? = none) (k0 : Nat) (v0 : Value) : CS w os 560 (compC w 118 [0, 0] it acc loc fr []) [(it, siO ds t i), (acc, lsO (stL cs tka) nx), (loc, dq19 w k0 v0)] 0 rNx (fun x => [x.o 0, lsO (stL cs (fun j => x.a (j + 3))) nx, dq19 w k0 (x.v 0)]) oNl :=
  CB (isB ["str_ascii_iterator.__next__"]) 30000 [1,1,5] (fun b0 t0 => vj (sNextE (it := it) (i := i) (t := t) (ds := ds) hv) [0] fun _ => finz [] (fun j => tka (j - 3)) (fun _ => siE i) (fun _ => v0)) (by kernel_rfl)
theorem wc_endB (it acc loc fr : Addr) (ds : List Nat) (t i : Nat) (cs : List (List Nat)) (tka : Nat → Nat) (nx : Nat) (hv : ds[i]? = none) (k0 : Nat) (v0 : Value) : CS w os 560 (compC w 118 [2] it acc loc fr []) [(it, siO ds t i), (acc, lsO (stL cs tka) nx), (loc, dq19 w k0 v0)] 0 rNx (fun x => [x.o 0, lsO (stL cs (fun j => x.a (j + 3))) nx, dq19 w k0 (x.v 0)]) oNl :=
  CB (isB ["str_ascii_iterator.__next__"]) 30000 [1,1,5] (fun b0 t0 => vj (sNextE (it := it) (i := i) (t := t) (ds := ds) hv) [0] fun _ => finz [] (fun j => tka (j - 3)) (fun _ => siE i) (fun _ => v0)) (by kernel_rfl)
theorem wr_0 (ds : List Nat) (t : Nat) (way : Int) (z : Nat)  (m0 : (way.fmod 3 == 0) = true) (hds : ∀ c ∈ ds, c < 128) (l : List (List Nat)) (nn : Nat) (hC : ∀ (it acc loc fr : Nat), CS w os 560 (compC w 118 [0, 0] it acc loc fr []) [(it, siO ds t 0), (acc, lsO [] 0), (loc, dcE w [])] 0 rNx (fun x => [x.o 0, lsO (stL l (fun j => x.a (j + 3))) nn, dq19 w (x.a 0) (x.v 0)]) oNl) (r : List Nat) (hl : Builtin.Str.tooLong ((l.map fun s => (⟨s.toArray⟩ : Str)).toArray.foldl (· + ·.length + (⟨#[95]⟩ : Str).length) 0) = false) (hr : Builtin.Str.glued (⟨#[95]⟩ : Str) (l.map fun s => (⟨s.toArray⟩ : Str)) = ⟨r.toArray⟩) (hn : r.length ≤ 900) : CS w os 430 (.call (.ref 118) ⟨[sv ds t, .int way z], []⟩) [] 0 (fun x => rOk (sv ([34] ++ r ++ [32, 34]) (x.a 0))) oNl oNl :=
  CB2 (orS isFor (isB ["int.__eq__","str.__iter__","str.join","str.__add__"])) 30000 [1,0,1,1,1,1,1,1,2,4,4,4] [1,0,1,1,1,1,1,1,2,2,2,2,2,4,4,4] (fun b0 t0 => vi (eqI (m := way.fmod 3) (n := 0) (u := (t0+4)) (v := (t0+5)) m0) [] fun b1 t1 x1 => vi (sIter (ds := ds) (t := t) hds) [] fun b2 t2 x2 => vx (hC (x2.a 0) (b2+0) (b2+1) (b0+0)) [1,2,3] fun x3 => vj (joinT (a := (b2+0)) (tk := fun j => x3.a (j + 3)) (t := (t1+2)) (n := nn) (sep := (⟨#[95]⟩ : Str)) (l := l) (r := r) hl hr (by omega)) [2] fun x4 => vi (addS (s := [34]) (r := r) (t := (t1+1)) (u := (x4.a 0)) (by simp; omega)) [] fun b5 t5 x5 => vj (addS (s := [34] ++ r) (r := [32, 34]) (t := (x5.a 0)) (u := (t5+1)) (by simp; omega)) [] fun x6 => fin [] [(x6.a 0)]) (by kernel_rfl) (by kernel_rfl)
theorem wr_1 (ds : List Nat) (t : Nat) (way : Int) (z : Nat) (m0 : (way.fmod 3 == 0) = false) (m1 : (way.fmod 3 == 1) = true) : CS w os 430 (.call (.ref 118) ⟨[sv ds t, .int way z], []⟩) [] 0 (fun x => rOk (sv ds (x.a 0))) oNl oNl :=
  CB (orS isFor (isB ["int.__eq__","str.__iter__","str.join","str.__add__"])) 30000 [1,0,1,1,1,1,1,1,1] (fun b0 t0 => vi (eqI (m := way.fmod 3) (n := 0) (u := (t0+4)) (v := (t0+5)) m0) [] fun b1 t1 x1 => vj (eqI (m := way.fmod 3) (n := 1) (u := (t1+2)) (v := (t1+3)) m1) [] fun _ => fin [] [t]) (by kernel_rfl)
theorem wr_2 (ds : List Nat) (t : Nat) (way : Int) (z : Nat)  (m0 : (way.fmod 3 == 0) = false) (m1 : (way.fmod 3 == 1) = false) (hds : ∀ c ∈ ds, c < 128) (l : List (List Nat)) (nn : Nat) (hC : ∀ (it acc loc fr : Nat), CS w os 560 (compC w 118 [2] it acc loc fr []) [(it, siO ds t 0), (acc, lsO [] 0), (loc, dcE w [])] 0 rNx (fun x => [x.o 0, lsO (stL l (fun j => x.a (j + 3))) nn, dq19 w (x.a 0) (x.v 0)]) oNl) (r : List Nat) (hl : Builtin.Str.tooLong ((l.map fun s => (⟨s.toArray⟩ : Str)).toArray.foldl (· + ·.length + (⟨#[]⟩ : Str).length) 0) = false) (hr : Builtin.Str.glued (⟨#[]⟩ : Str) (l.map fun s => (⟨s.toArray⟩ : Str)) = ⟨r.toArray⟩) (hn : r.length ≤ 900) : CS w os 430 (.call (.ref 118) ⟨[sv ds t, .int way z], []⟩) [] 0 (fun x => rOk (sv r (x.a 0))) oNl oNl :=
  CB2 (orS isFor (isB ["int.__eq__","str.__iter__","str.join","str.__add__"])) 30000 [1,0,1,1,1,1,1,1,1,2,4,4,4] [1,0,1,1,1,1,1,1,1,2,2,2,2,2,4,4,4] (fun b0 t0 => vi (eqI (m := way.fmod 3) (n := 0) (u := (t0+4)) (v := (t0+5)) m0) [] fun b1 t1 x1 => vi (eqI (m := way.fmod 3) (n := 1) (u := (t1+2)) (v := (t1+3)) m1) [] fun b2 t2 x2 => vi (sIter (ds := ds) (t := t) hds) [] fun b3 t3 x3 => vx (hC (x3.a 0) (b3+0) (b3+1) (b0+0)) [1,2,3] fun x4 => vj (joinT (a := (b3+0)) (tk := fun j => x4.a (j + 3)) (t := (t2+1)) (n := nn) (sep := (⟨#[]⟩ : Str)) (l := l) (r := r) hl hr (by omega)) [2] fun x5 => fin [] [(x5.a 0)]) (by kernel_rfl) (by kernel_rfl)
theorem law (fr cp cw cb cc cf : Addr) (k0 : Nat) (vs : List Value)  (ev0 ev1 : List Value) (S0 S1 S2 M1 A1 A2 W3 : Int) (N P : Nat) (hS0 : ∀ sl t1 t2, CS w os 900 (.builtin "list.__getitem__" ⟨[.ref 167, .ref sl], []⟩) [(167, lsO vs 0), (sl, (⟨.type "slice", none, .fields #[.int 0 t1, .none, .int 2 t2], #[]⟩ : Obj))] 1 (fun x => rOk (.ref (x.a 0))) (fun _ => [lsO vs 0, (⟨.type "slice", none, .fields #[.int 0 t1, .none, .int 2 t2], #[]⟩ : Obj)]) (fun _ => [lsO ev0 0])) (hQ0 : ∀ l, CS w os 900 (.builtin "sum" ⟨[.ref l], []⟩) [(l, lsO ev0 0)] 0 (fun x => rOk (.int S0 (x.a 0))) (fun _ => [lsO ev0 0]) oNl) (hS1 : ∀ sl t1 t2, CS w os 900 (.builtin "list.__getitem__" ⟨[.ref 167, .ref sl], []⟩) [(167, lsO vs 0), (sl, (⟨.type "slice", none, .fields #[.int 1 t1, .none, .int 2 t2], #[]⟩ : Obj))] 1 (fun x => rOk (.ref (x.a 0))) (fun _ => [lsO vs 0, (⟨.type "slice", none, .fields #[.int 1 t1, .none, .int 2 t2], #[]⟩ : Obj)]) (fun _ => [lsO ev1 0])) (hQ1 : ∀ l, CS w os 900 (.builtin "sum" ⟨[.ref l], []⟩) [(l, lsO ev1 0)] 0 (fun x => rOk (.int S1 (x.a 0))) (fun _ => [lsO ev1 0]) oNl) (hQ2 : CS w os 900 (.builtin "sum" ⟨[.ref 167], []⟩) [(167, lsO vs 0)] 0 (fun x => rOk (.int S2 (x.a 0))) (fun _ => [lsO vs 0]) oNl) (hM1 : 40503 * S0 = M1) (hA1 : 4342338 + M1 = A1) (hN : A1.fmod 16777216 = iN N) (hA2 : 3 + S1 = A2) (hP : A2.fmod 256 = iN P) (hW3 : S2.fdiv 3 = W3) (dsN dsP t1s t2s : List Nat) (hR1 : ∀ u, CS w os 900 (.builtin "int.__repr__" ⟨[.int (iN N) u], []⟩) [] 0 (fun x => rOk (sv dsN (x.a 0))) oNl oNl) (hR2 : ∀ u, CS w os 900 (.builtin "int.__repr__" ⟨[.int (iN P) u], []⟩) [] 0 (fun x => rOk (sv dsP (x.a 0))) oNl oNl) (hV1 : ∀ t z, CS w os 430 (.call (.ref 118) ⟨[sv dsN t, .int S2 z], []⟩) [] 0 (fun x => rOk (sv t1s (x.a 0))) oNl oNl) (hV2 : ∀ t z, CS w os 430 (.call (.ref 118) ⟨[sv dsP t, .int W3 z], []⟩) [] 0 (fun x => rOk (sv t2s (x.a 0))) oNl oNl) (hl1 : t1s.length ≤ 200) (hl2 : t2s.length ≤ 200) (tk1 tk2 : List Nat) (p1 p2 : Nat) (L1 L2 : Int) (hG1 : ∀ (mi md pb st sd rf cd ct ca al tu cl : Nat) (ν : Nat → Nat) (rd : Nat) (a0 : Value) (rest : List Value) (q ts na tp lt n : Nat), CS w os 470 (.call (.ref 78) ⟨[.ref mi], []⟩) [(mi, machI md), (md, machD w (.int 1 lt) st pb ν), (pb, lsO [] n), (st, lamO w cl sd), (sd, dq0 w rd (.ref rf)), (rf, rfO w ct ca cd tu), (cd, cdO a0 q rest), (ct, cellO (sv (t1s ++ [10] ++ t2s ++ [10]) ts)), (ca, cellO (.ref al)), (al, lsO [.int (iN 0) tp] na)] 0 (fun x => rOk (sv tk1 (x.a 0))) (fun x => [machI md, machD w (.int L1 (x.a 2)) st pb ν, lsO [] n, lamO w cl sd, dq0 w rd (.ref rf), rfO w ct ca cd tu, cdO a0 q rest, cellO (sv (t1s ++ [10] ++ t2s ++ [10]) ts), cellO (.ref al), lsO [.int (iN p1) (x.a 1)] na]) oNl) (hG2 : ∀ (mi md pb st sd rf cd ct ca al tu cl : Nat) (ν : Nat → Nat) (rd : Nat) (a0 : Value) (rest : List Value) (q ts na tp lt n : Nat), CS w os 470 (.call (.ref 78) ⟨[.ref mi], []⟩) [(mi, machI md), (md, machD w (.int L1 lt) st pb ν), (pb, lsO [] n), (st, lamO w cl sd), (sd, dq0 w rd (.ref rf)), (rf, rfO w ct ca cd tu), (cd, cdO a0 q rest), (ct, cellO (sv (t1s ++ [10] ++ t2s ++ [10]) ts)), (ca, cellO (.ref al)), (al, lsO [.int (iN p1) tp] na)] 0 (fun x => rOk (sv tk2 (x.a 0))) (fun x => [machI md, machD w (.int L2 (x.a 2)) st pb ν, lsO [] n, lamO w cl sd, dq0 w rd (.ref rf), rfO w ct ca cd tu, cdO a0 q rest, cellO (sv (t1s ++ [10] ++ t2s ++ [10]) ts), cellO (.ref al), lsO [.int (iN p2) (x.a 1)] na]) oNl) (hF1 : ∀ t, CS w os 430 (.call (.ref 36) ⟨[sv tk1 t], []⟩) [(24, tableObj #[])] 1 (fun x => rOk (.int (iN N) (x.a 1))) (fun x => [tableObj #[.int 46 0, .int 4 0, .ref (x.a 0)]]) (fun x => [cdG (x.v 0) siQ (x.a 2) [x.v 1, x.v 2, x.v 3, x.v 4, x.v 5, x.v 6, x.v 7, x.v 8, x.v 9, x.v 10, x.v 11, x.v 12, x.v 13, x.v 14, x.v 15, x.v 16, x.v 17]])) (hF2 : ∀ t cd a0 q rest, CS w os 430 (.call (.ref 36) ⟨[sv tk2 t], []⟩) [(24, tableObj #[.int 46 0, .int 4 0, .ref cd]), (cd, cdG a0 siQ q rest)] 0 (fun x => rOk (.int (iN P) (x.a 0))) (fun x => [tableObj #[.int 46 0, .int 4 0, .ref cd], cdG a0 siQ q rest]) oNl) (B1 B2 : Nat) (hB1 : 16777216 + N = B1 + 1) (hB2 : 256 + P = B2 + 1) (G1 G2 : List Nat) (hD1 : ∀ u v, CS w os 440 (.call (.ref 43) ⟨[.int (iN (B1 + 1)) u, .int 2 v], []⟩) [(38, tableObj #[])] 2 (fun x => rOk (.ref (x.a 0))) (fun x => [tableObj #[.int 59 0, .int 4 0, .ref (x.a 1)]]) (fun x => [lsO (DL G1 (fun j => x.a (j + 20))) 0, cdG (x.v 0) idQ (x.a 2) [x.v 1, x.v 2, x.v 3, x.v 4, x.v 5, x.v 6, x.v 7, x.v 8, x.v 9, x.v 10, x.v 11, x.v 12, x.v 13, x.v 14, x.v 15, x.v 16, x.v 17]])) (hD2 : ∀ u v cd0 a0 q rest, CS w os 440 (.call (.ref 43) ⟨[.int (iN (B2 + 1)) u, .int 1 v], []⟩) [(38, tableObj #[.int 59 0, .int 4 0, .ref cd0]), (cd0, cdG a0 idQ q rest)] 1 (fun x => rOk (.ref (x.a 0))) (fun x => [tableObj #[.int 59 0, .int 4 0, .ref cd0], cdG a0 idQ q rest]) (fun x => [lsO (DL G2 (fun j => x.a (j + 20))) 0])) (mk ch fa lo ag wi du to : (Nat → Nat) → List Value) (nmk nch nfa nlo nag nwi ndu nto nf2 m1 m2 m3 : Nat) (hC1 : ∀ (it acc loc fr cf cc cb cw cp : Addr) wl bl τ tk, CS w os 560 (compC w 166 [9] it acc loc fr [(⟨Zae⟩, cw), (⟨Zai⟩, cb)]) [(it, rgI 0 8), (acc, lsO [] 0), (loc, dcE w []), (cw, cellO (.ref wl)), (cb, cellO (.ref bl)), (wl, wordsO τ), (bl, lsO (DL G2 tk) 0)] 0 rNx (fun x => [x.o 0, lsO (mk τ) nmk, dq10 w (x.a 0) (x.v 0), cellO (.ref wl), cellO (.ref bl), wordsO τ, lsO (DL G2 tk) 0]) oNl) (hC2 : ∀ (it acc loc fr cf cc cb cw cp : Addr) wl τ z, CS w os 560 (compC w 166 [10] it acc loc fr [(⟨Zae⟩, cw), (⟨Zaj⟩, cp)]) [(it, rgI 0 8), (acc, lsO [] 0), (loc, dcE w []), (cw, cellO (.ref wl)), (cp, cellO (.int (iN P) z)), (wl, wordsO τ)] 0 rNx (fun x => [x.o 0, lsO (ch τ) nch, dq10 w (x.a 0) (x.v 0), cellO (.ref wl), cellO (.int (iN P) z), wordsO τ]) oNl) (hFa : ∀ wl ml τ, CS w os 430 (.call (.ref 154) ⟨[.ref wl, .ref ml], []⟩) [(wl, wordsO τ), (ml, lsO (ch τ) nch)] 1 (fun x => rOk (.ref (x.a 0))) (fun _ => [wordsO τ, lsO (ch τ) nch]) (fun _ => [lsO (fa τ) nfa])) (T1 T2 T3 : (Nat → Nat) → List (List Nat × Nat × List Nat)) (hDr : ∀ (vl : Nat) (e : Nat → Nat) (kt vt : Nat → Nat) fl tk, CS w os 400 (.call (.ref 137) ⟨[.ref vl, .ref fl], []⟩) [(vl, lst [.ref (e 0), .ref (e 1), .ref (e 2), .ref (e 3), .ref (e 4), .ref (e 5), .ref (e 6), .ref (e 7), .ref (e 8), .ref (e 9), .ref (e 10), .ref (e 11)] 12), (fl, lsO (DL G1 tk) 0), ((e 0), tupO [.int 0 (kt 0), sv [46, 46, 46, 98, 99] (vt 0)]), ((e 1), tupO [.int 0 (kt 0), sv [46, 46, 46, 66, 99] (vt 1)]), ((e 2), tupO [.int 0 (kt 0), sv [46, 46, 46, 98, 67] (vt 2)]), ((e 3), tupO [.int 0 (kt 0), sv [46, 46, 46, 66, 67] (vt 3)]), ((e 4), tupO [.int 1 (kt 1), sv [97, 46, 46, 46, 99] (vt 4)]), ((e 5), tupO [.int 1 (kt 1), sv [65, 46, 46, 46, 99] (vt 5)]), ((e 6), tupO [.int 1 (kt 1), sv [97, 46, 46, 46, 67] (vt 6)]), ((e 7), tupO [.int 1 (kt 1), sv [65, 46, 46, 46, 67] (vt 7)]), ((e 8), tupO [.int 2 (kt 2), sv [97, 98, 46, 46, 46] (vt 8)]), ((e 9), tupO [.int 2 (kt 2), sv [65, 98, 46, 46, 46] (vt 9)]), ((e 10), tupO [.int 2 (kt 2), sv [97, 66, 46, 46, 46] (vt 10)]), ((e 11), tupO [.int 2 (kt 2), sv [65, 66, 46, 46, 46] (vt 11)])] 1 (fun x => rOk (.ref (x.a 0))) (fun _ => [lst [.ref (e 0), .ref (e 1), .ref (e 2), .ref (e 3), .ref (e 4), .ref (e 5), .ref (e 6), .ref (e 7), .ref (e 8), .ref (e 9), .ref (e 10), .ref (e 11)] 12, lsO (DL G1 tk) 0, tupO [.int 0 (kt 0), sv [46, 46, 46, 98, 99] (vt 0)], tupO [.int 0 (kt 0), sv [46, 46, 46, 66, 99] (vt 1)], tupO [.int 0 (kt 0), sv [46, 46, 46, 98, 67] (vt 2)], tupO [.int 0 (kt 0), sv [46, 46, 46, 66, 67] (vt 3)], tupO [.int 1 (kt 1), sv [97, 46, 46, 46, 99] (vt 4)], tupO [.int 1 (kt 1), sv [65, 46, 46, 46, 99] (vt 5)], tupO [.int 1 (kt 1), sv [97, 46, 46, 46, 67] (vt 6)], tupO [.int 1 (kt 1), sv [65, 46, 46, 46, 67] (vt 7)], tupO [.int 2 (kt 2), sv [97, 98, 46, 46, 46] (vt 8)], tupO [.int 2 (kt 2), sv [65, 98, 46, 46, 46] (vt 9)], tupO [.int 2 (kt 2), sv [97, 66, 46, 46, 46] (vt 10)], tupO [.int 2 (kt 2), sv [65, 66, 46, 46, 46] (vt 11)]]) (fun x => [dcE w (tabL (T1 vt) (fun j => x.a (j + 3)))])) (hL1 : ∀ (mi md pb st wl td : Nat) (ln : Value) (ν τ vt tr : Nat → Nat), CS w os 430 (.call (.ref 149) ⟨[.ref mi, .ref wl, .ref td], []⟩) (machIns w mi md pb st ln ν [] 0 ++ [(wl, wordsO τ), (td, dcE w (tabL (T1 vt) tr))]) 1 (fun x => rOk (.ref (x.a 0))) (fun _ => machOut w md pb st ln ν [] m1 ++ [wordsO τ, dcE w (tabL (T1 vt) tr)]) (fun x => [lsO (lo τ) nlo])) (hMa : ∀ (vl : Nat) (e : Nat → Nat) (kt vt : Nat → Nat) ml τ, CS w os 430 (.call (.ref 142) ⟨[.ref vl, .ref ml], []⟩) [(vl, lst [.ref (e 0), .ref (e 1), .ref (e 2), .ref (e 3), .ref (e 4), .ref (e 5), .ref (e 6), .ref (e 7), .ref (e 8), .ref (e 9), .ref (e 10), .ref (e 11)] 12), (ml, lsO (lo τ) nlo), ((e 0), tupO [.int 0 (kt 0), sv [46, 46, 46, 98, 99] (vt 0)]), ((e 1), tupO [.int 0 (kt 0), sv [46, 46, 46, 66, 99] (vt 1)]), ((e 2), tupO [.int 0 (kt 0), sv [46, 46, 46, 98, 67] (vt 2)]), ((e 3), tupO [.int 0 (kt 0), sv [46, 46, 46, 66, 67] (vt 3)]), ((e 4), tupO [.int 1 (kt 1), sv [97, 46, 46, 46, 99] (vt 4)]), ((e 5), tupO [.int 1 (kt 1), sv [65, 46, 46, 46, 99] (vt 5)]), ((e 6), tupO [.int 1 (kt 1), sv [97, 46, 46, 46, 67] (vt 6)]), ((e 7), tupO [.int 1 (kt 1), sv [65, 46, 46, 46, 67] (vt 7)]), ((e 8), tupO [.int 2 (kt 2), sv [97, 98, 46, 46, 46] (vt 8)]), ((e 9), tupO [.int 2 (kt 2), sv [65, 98, 46, 46, 46] (vt 9)]), ((e 10), tupO [.int 2 (kt 2), sv [97, 66, 46, 46, 46] (vt 10)]), ((e 11), tupO [.int 2 (kt 2), sv [65, 66, 46, 46, 46] (vt 11)])] 1 (fun x => rOk (.ref (x.a 0))) (fun _ => [lst [.ref (e 0), .ref (e 1), .ref (e 2), .ref (e 3), .ref (e 4), .ref (e 5), .ref (e 6), .ref (e 7), .ref (e 8), .ref (e 9), .ref (e 10), .ref (e 11)] 12, lsO (lo τ) nlo, tupO [.int 0 (kt 0), sv [46, 46, 46, 98, 99] (vt 0)], tupO [.int 0 (kt 0), sv [46, 46, 46, 66, 99] (vt 1)], tupO [.int 0 (kt 0), sv [46, 46, 46, 98, 67] (vt 2)], tupO [.int 0 (kt 0), sv [46, 46, 46, 66, 67] (vt 3)], tupO [.int 1 (kt 1), sv [97, 46, 46, 46, 99] (vt 4)], tupO [.int 1 (kt 1), sv [65, 46, 46, 46, 99] (vt 5)], tupO [.int 1 (kt 1), sv [97, 46, 46, 46, 67] (vt 6)], tupO [.int 1 (kt 1), sv [65, 46, 46, 46, 67] (vt 7)], tupO [.int 2 (kt 2), sv [97, 98, 46, 46, 46] (vt 8)], tupO [.int 2 (kt 2), sv [65, 98, 46, 46, 46] (vt 9)], tupO [.int 2 (kt 2), sv [97, 66, 46, 46, 46] (vt 10)], tupO [.int 2 (kt 2), sv [65, 66, 46, 46, 46] (vt 11)]]) (fun x => [dcE w (tabL (T2 vt) (fun j => x.a (j + 3)))])) (hL2 : ∀ (mi md pb st wl td : Nat) (ln : Value) (ν τ vt tr : Nat → Nat), CS w os 430 (.call (.ref 149) ⟨[.ref mi, .ref wl, .ref td], []⟩) (machIns w mi md pb st ln ν [] m1 ++ [(wl, wordsO τ), (td, dcE w (tabL (T2 vt) tr))]) 1 (fun x => rOk (.ref (x.a 0))) (fun _ => machOut w md pb st ln ν [] m2 ++ [wordsO τ, dcE w (tabL (T2 vt) tr)]) (fun x => [lsO (ag τ) nag])) (hMb : ∀ (vl : Nat) (e : Nat → Nat) (kt vt : Nat → Nat) ml τ, CS w os 430 (.call (.ref 142) ⟨[.ref vl, .ref ml], []⟩) [(vl, lst [.ref (e 0), .ref (e 1), .ref (e 2), .ref (e 3), .ref (e 4), .ref (e 5), .ref (e 6), .ref (e 7), .ref (e 8), .ref (e 9), .ref (e 10), .ref (e 11)] 12), (ml, lsO (mk τ) nmk), ((e 0), tupO [.int 0 (kt 0), sv [46, 46, 46, 98, 99] (vt 0)]), ((e 1), tupO [.int 0 (kt 0), sv [46, 46, 46, 66, 99] (vt 1)]), ((e 2), tupO [.int 0 (kt 0), sv [46, 46, 46, 98, 67] (vt 2)]), ((e 3), tupO [.int 0 (kt 0), sv [46, 46, 46, 66, 67] (vt 3)]), ((e 4), tupO [.int 1 (kt 1), sv [97, 46, 46, 46, 99] (vt 4)]), ((e 5), tupO [.int 1 (kt 1), sv [65, 46, 46, 46, 99] (vt 5)]), ((e 6), tupO [.int 1 (kt 1), sv [97, 46, 46, 46, 67] (vt 6)]), ((e 7), tupO [.int 1 (kt 1), sv [65, 46, 46, 46, 67] (vt 7)]), ((e 8), tupO [.int 2 (kt 2), sv [97, 98, 46, 46, 46] (vt 8)]), ((e 9), tupO [.int 2 (kt 2), sv [65, 98, 46, 46, 46] (vt 9)]), ((e 10), tupO [.int 2 (kt 2), sv [97, 66, 46, 46, 46] (vt 10)]), ((e 11), tupO [.int 2 (kt 2), sv [65, 66, 46, 46, 46] (vt 11)])] 1 (fun x => rOk (.ref (x.a 0))) (fun _ => [lst [.ref (e 0), .ref (e 1), .ref (e 2), .ref (e 3), .ref (e 4), .ref (e 5), .ref (e 6), .ref (e 7), .ref (e 8), .ref (e 9), .ref (e 10), .ref (e 11)] 12, lsO (mk τ) nmk, tupO [.int 0 (kt 0), sv [46, 46, 46, 98, 99] (vt 0)], tupO [.int 0 (kt 0), sv [46, 46, 46, 66, 99] (vt 1)], tupO [.int 0 (kt 0), sv [46, 46, 46, 98, 67] (vt 2)], tupO [.int 0 (kt 0), sv [46, 46, 46, 66, 67] (vt 3)], tupO [.int 1 (kt 1), sv [97, 46, 46, 46, 99] (vt 4)], tupO [.int 1 (kt 1), sv [65, 46, 46, 46, 99] (vt 5)], tupO [.int 1 (kt 1), sv [97, 46, 46, 46, 67] (vt 6)], tupO [.int 1 (kt 1), sv [65, 46, 46, 46, 67] (vt 7)], tupO [.int 2 (kt 2), sv [97, 98, 46, 46, 46] (vt 8)], tupO [.int 2 (kt 2), sv [65, 98, 46, 46, 46] (vt 9)], tupO [.int 2 (kt 2), sv [97, 66, 46, 46, 46] (vt 10)], tupO [.int 2 (kt 2), sv [65, 66, 46, 46, 46] (vt 11)]]) (fun x => [dcE w (tabL (T3 vt) (fun j => x.a (j + 3)))])) (hL3 : ∀ (mi md pb st wl td : Nat) (ln : Value) (ν τ vt tr : Nat → Nat), CS w os 430 (.call (.ref 149) ⟨[.ref mi, .ref wl, .ref td], []⟩) (machIns w mi md pb st ln ν [] m2 ++ [(wl, wordsO τ), (td, dcE w (tabL (T3 vt) tr))]) 1 (fun x => rOk (.ref (x.a 0))) (fun _ => machOut w md pb st ln ν [] m3 ++ [wordsO τ, dcE w (tabL (T3 vt) tr)]) (fun x => [lsO (wi τ) nwi])) (hC3 : ∀ (it acc loc fr cf cc cb cw cp : Addr) wl chl fal τ, CS w os 560 (compC w 166 [15] it acc loc fr [(⟨Zag⟩, cf), (⟨Zah⟩, cc)]) [(it, itO wl 0), (wl, wordsO τ), (acc, lsO [] 0), (loc, dcE w []), (cc, cellO (.ref chl)), (cf, cellO (.ref fal)), (chl, lsO (ch τ) nch), (fal, lsO (fa τ) nfa)] 0 rNx (fun x => [x.o 0, wordsO τ, lsO (du τ) ndu, dq11 w (x.a 0) (x.v 0), cellO (.ref chl), cellO (.ref fal), lsO (ch τ) nch, lsO (fa τ) nfa]) oNl) (hTo : ∀ wl τ z, CS w os 430 (.call (.ref 161) ⟨[.ref wl, .int (iN N) z], []⟩) [(wl, wordsO τ)] 1 (fun x => rOk (.ref (x.a 0))) (fun _ => [wordsO τ]) (fun _ => [lsO (to τ) nto])) (hFb : ∀ wl ml τ, CS w os 430 (.call (.ref 154) ⟨[.ref wl, .ref ml], []⟩) [(wl, wordsO τ), (ml, lsO (lo τ) nlo)] 1 (fun x => rOk (.ref (x.a 0))) (fun _ => [wordsO τ, lsO (lo τ) nlo]) (fun _ => [lsO [] nf2])) (e1 : ∀ τ, lo τ = to τ) (e2 : ∀ τ, ag τ = lo τ) (e3 : ∀ τ, wi τ = du τ) (v1 : ∀ τ, ∀ y ∈ lo τ, ∃ t u, y = sv t u) (v3 : ∀ τ, ∀ y ∈ du τ, ∃ t u, y = sv t u) : CS w os 330 (lawFn w fr [(⟨Zag⟩, cf), (⟨Zah⟩, cc), (⟨Zai⟩, cb), (⟨Zae⟩, cw), (⟨Zaj⟩, cp)]) [(167, lsO vs 0), (108, tableObj #[]), (38, tableObj #[]), (24, tableObj #[]), (fr, fq9 w k0 (.ref 167)), (cp, cNo), (cw, cNo), (cb, cNo), (cc, cNo), (cf, cNo)] 0 (fun _ => rOk (.bool true)) (fun x => [lsO vs 0, tableObj #[.int (iN 198) 0, .int (iN 4) 0, .ref (x.a 0), .int (iN 202) 0, .int (iN 13) 0, .ref (x.a 1)], tableObj #[.int 59 0, .int 4 0, .ref (x.a 2)], tableObj #[.int 46 0, .int 4 0, .ref (x.a 3)], x.o 0, x.o 1, x.o 2, x.o 3, x.o 4, x.o 5]) oNl :=
  law_le (by decide) (TB2 (orS isFor (orS (isCallTo [123,130,118,113,78,36,43,154,149,137,142,161]) (isB ["sum","list.__getitem__","int.__mod__","int.__mul__","int.__add__","int.__floordiv__","int.__repr__","str.__add__","list.__eq__"]))) 100000 [0,0,5,1,1,1,1,5,5,0,0,5,1,1,1,1,6,6,0,0,5,5,5,0,0,7,7,0,7,0,5,5,0,0,0,5,5,0,0,0,0,6,5,0,5,5,0,5,0,5,5,0,0,5,29,0,0,0,29,0,0,0,29,0,0,0,0,29,30,0,0,0,5,5,0,0,5,29,0,0,0,29,0,0,0,29,0,0,0,0,29,30,0,0,0,8,8,0,0,43,43,43,43,43,43,43,43,43,43,44,5,5,46,46,46,0,0,47,47,47,47,47,47,47,47,47,47,48,50,50,50,9,9,0,7,9,0,10,10,0,5,7,0,5,5,0,0,5,5,0,5,7,0,5,5,0,0,5,5,0,5,7,0,5,5,0,0,5,5,7,15,15,15,58,5,5,60,60,60,5,0,7,5,0,53,61,53,53,0,7,5,0,62,63,62,62,5,5,55,53,55,55,5,5,57,59,57,57] [0,0,5,1,1,1,1,5,5,0,0,5,1,1,1,1,6,6,0,0,5,5,5,0,0,7,7,0,7,0,5,5,0,0,0,5,5,0,0,0,0,6,5,0,5,5,0,5,0,5,5,0,0,5,29,0,0,0,29,0,0,0,29,0,0,0,0,29,30,0,0,0,5,5,0,0,5,29,0,0,0,29,0,0,0,29,0,0,0,0,29,30,0,0,0,8,8,0,0,43,43,43,43,43,43,43,43,43,43,44,44,44,44,44,5,5,46,46,46,0,0,47,47,47,47,47,47,47,47,47,47,48,48,48,48,48,50,50,50,9,9,0,7,9,0,10,10,0,5,7,0,5,5,0,0,5,5,0,5,7,0,5,5,0,0,5,5,0,5,7,0,5,5,0,0,5,5,7,15,15,15,58,58,58,58,58,5,5,60,60,60,5,0,7,5,0,53,61,53,53,0,7,5,0,62,63,62,62,5,5,55,53,55,55,5,5,57,59,57,57] (fun b0 t0 => vx (hS0 (b0+0) (t0+3) (t0+4)) [0,10] fun x1 => vx (hQ0 (x1.a 0)) [11] fun x2 => vj (mulZ (a := 40503) (b := S0) (c := M1) (u := (t0+2)) (v := (x2.a 0)) hM1 (by decide)) [] fun x3 => vi (addZ (a := 4342338) (b := M1) (c := A1) (u := (t0+1)) (v := (x3.a 0)) hA1) [] fun b4 t4 x4 => vi (modZ (a := A1) (b := 16777216) (c := iN N) (u := (x4.a 0)) (v := (t4+3)) hN (by decide)) [] fun b5 t5 x5 => vx (hS1 (b5+0) (t5+3) (t5+4)) [0,12] fun x6 => vx (hQ1 (x6.a 0)) [13] fun x7 => vi (addZ (a := 3) (b := S1) (c := A2) (u := (t5+2)) (v := (x7.a 0)) hA2) [] fun b8 t8 x8 => vj (modZ (a := A2) (b := 256) (c := iN P) (u := (x8.a 0)) (v := (t8+1)) hP (by decide)) [] fun x9 => via (hQ2) [0] fun b10 t10 x10 => vx (words_s w os) [] fun x11 => via (views_s w os (x11.a 0) (fun i => x11.a (i + 1))) [14] fun b12 t12 x12 => vx (hR1 (x5.a 0)) [] fun x13 => via (hV1 (x13.a 0) (x10.a 0)) [] fun b14 t14 x14 => vj (addS (s := t1s) (r := [10]) (t := (x14.a 0)) (u := (t14+1)) (by simp; omega)) [] fun x15 => via (hR2 (x9.a 0)) [] fun b16 t16 x16 => vj (fdZ (a := S2) (b := 3) (c := W3) (u := (x10.a 0)) (v := (t16+1)) hW3 (by decide) (by decide)) [] fun x17 => vx (hV2 (x16.a 0) (x17.a 0)) [] fun x18 => vi (addS (s := (t1s ++ [10])) (r := t2s) (t := (x15.a 0)) (u := (x18.a 0)) (by simp; omega)) [] fun b19 t19 x19 => vi (addS (s := (t1s ++ [10] ++ t2s)) (r := [10]) (t := (x19.a 0)) (u := (t19+1)) (by simp; omega)) [] fun b20 t20 x20 => via (machine_m w os ⟨(t1s ++ [10] ++ t2s ++ [10]).toArray⟩ (x20.a 0)) [1] fun b21 t21 x21 => vx (hG1 (x21.a 0) (x21.a 1) (x21.a 2) (x21.a 3) (x21.a 4) (x21.a 5) (x21.a 6) (x21.a 7) (x21.a 8) (x21.a 9) (x21.a 18) (x21.a 16) (fun j => x21.a (11 + j)) (x21.a 17) (x21.v 17) [x21.v 0, x21.v 1, x21.v 2, x21.v 3, x21.v 4, x21.v 5, x21.v 6, x21.v 7, x21.v 8, x21.v 9, x21.v 10, x21.v 11, x21.v 12, x21.v 13, x21.v 14, x21.v 15, x21.v 16] (x21.a 19) (x20.a 0) 0 (x21.a 20) (x21.a 10) 0) [28,29,30,31,32,33,34,35,36,37] fun x22 => vx (hF1 (x22.a 0)) [3] fun x23 => vi (addZ (a := 16777216) (b := iN N) (c := iN (B1 + 1)) (u := (t21+4)) (v := (x23.a 1)) (by rw [← hB1]; rfl)) [] fun b24 t24 x24 => via (hD1 (x24.a 0) (t24+1)) [2] fun b25 t25 x25 => vx (hG2 (x21.a 0) (x21.a 1) (x21.a 2) (x21.a 3) (x21.a 4) (x21.a 5) (x21.a 6) (x21.a 7) (x21.a 8) (x21.a 9) (x21.a 18) (x21.a 16) (fun j => x21.a (11 + j)) (x21.a 17) (x21.v 17) [x21.v 0, x21.v 1, x21.v 2, x21.v 3, x21.v 4, x21.v 5, x21.v 6, x21.v 7, x21.v 8, x21.v 9, x21.v 10, x21.v 11, x21.v 12, x21.v 13, x21.v 14, x21.v 15, x21.v 16] (x21.a 19) (x20.a 0) 0 (x22.a 1) (x22.a 2) 0) [28,29,30,31,32,33,34,35,36,37] fun x26 => vx (hF2 (x26.a 0) (x23.a 0) (x23.v 0) (x23.a 2) [x23.v 1, x23.v 2, x23.v 3, x23.v 4, x23.v 5, x23.v 6, x23.v 7, x23.v 8, x23.v 9, x23.v 10, x23.v 11, x23.v 12, x23.v 13, x23.v 14, x23.v 15, x23.v 16, x23.v 17]) [3,38] fun x27 => vi (addZ (a := 256) (b := iN P) (c := iN (B2 + 1)) (u := (t25+2)) (v := (x27.a 0)) (by rw [← hB2]; rfl)) [] fun b28 t28 x28 => via (hD2 (x28.a 0) (t28+1) (x25.a 1) (x25.v 0) (x25.a 2) [x25.v 1, x25.v 2, x25.v 3, x25.v 4, x25.v 5, x25.v 6, x25.v 7, x25.v 8, x25.v 9, x25.v 10, x25.v 11, x25.v 12, x25.v 13, x25.v 14, x25.v 15, x25.v 16, x25.v 17]) [2,40] fun b29 t29 x29 => via (hC1 (b29+1) (b29+2) (b29+3) fr cf cc cb cw cp (x11.a 0) (x29.a 0) (fun i => x11.a (i + 1)) (fun j => x29.a (j + 20))) [43,44,45,6,7,14,41] fun b30 t30 x30 => vx (hC2 (b30+1) (b30+2) (b30+3) fr cf cc cb cw cp (x11.a 0) (fun i => x11.a (i + 1)) (x9.a 0)) [47,48,49,6,5,14] fun _ => vx (hFa (x11.a 0) (b30+2) (fun i => x11.a (i + 1))) [14,48] fun x32 => vx (hDr (x12.a 0) (fun j => x12.a (j + 1)) (fun j => x12.a (j + 13)) (fun j => x12.a (j + 16)) (x25.a 0) (fun j => x25.a (j + 20))) [15,39,16,17,18,19,20,21,22,23,24,25,26,27] fun x33 => via (hL1 (x21.a 0) (x21.a 1) (x21.a 2) (x21.a 3) (x11.a 0) (x33.a 0) (.int L2 (x26.a 2)) (fun j => x21.a (11 + j)) (fun i => x11.a (i + 1)) (fun j => x12.a (j + 16)) (fun j => x33.a (j + 3))) [28,29,30,14,51] fun b34 t34 x34 => vx (hMa (x12.a 0) (fun j => x12.a (j + 1)) (fun j => x12.a (j + 13)) (fun j => x12.a (j + 16)) (x34.a 0) (fun i => x11.a (i + 1))) [15,52,16,17,18,19,20,21,22,23,24,25,26,27] fun x35 => via (hL2 (x21.a 0) (x21.a 1) (x21.a 2) (x21.a 3) (x11.a 0) (x35.a 0) (.int L2 (x26.a 2)) (fun j => x21.a (11 + j)) (fun i => x11.a (i + 1)) (fun j => x12.a (j + 16)) (fun j => x35.a (j + 3))) [28,29,30,14,53] fun b36 t36 x36 => vx (hMb (x12.a 0) (fun j => x12.a (j + 1)) (fun j => x12.a (j + 13)) (fun j => x12.a (j + 16)) (b29+2) (fun i => x11.a (i + 1))) [15,44,16,17,18,19,20,21,22,23,24,25,26,27] fun x37 => via (hL3 (x21.a 0) (x21.a 1) (x21.a 2) (x21.a 3) (x11.a 0) (x37.a 0) (.int L2 (x26.a 2)) (fun j => x21.a (11 + j)) (fun i => x11.a (i + 1)) (fun j => x12.a (j + 16)) (fun j => x37.a (j + 3))) [28,29,30,14,55] fun b38 t38 x38 => via (hC3 (b38+0) (b38+1) (b38+2) fr cf cc cb cw cp (x11.a 0) (b30+2) (x32.a 0) (fun i => x11.a (i + 1))) [57,14,58,59,8,9,48,50] fun b39 t39 x39 => vx (hTo (x11.a 0) (fun i => x11.a (i + 1)) (x5.a 0)) [14] fun x40 => vj (eqL (l := (x34.a 0)) (b := (x40.a 0)) (xs := lo (fun i => x11.a (i + 1))) (ys := to (fun i => x11.a (i + 1))) (n := nlo) (m := nto) (v1 _) (e1 _).symm rfl) [52,60] fun _ => via (hFb (x11.a 0) (x34.a 0) (fun i => x11.a (i + 1))) [14,52] fun b42 t42 x42 => vj (eqL (l := (x42.a 0)) (b := (b42+0)) (xs := []) (ys := []) (n := nf2) (m := 0) (by simp) rfl rfl) [61,62] fun _ => vj (eqL (l := (x36.a 0)) (b := (x34.a 0)) (xs := ag (fun i => x11.a (i + 1))) (ys := lo (fun i => x11.a (i + 1))) (n := nag) (m := nlo) (by rw [e2]; exact v1 _) (e2 _).symm rfl) [54,52] fun _ => vj (eqL (l := (x38.a 0)) (b := (b38+1)) (xs := wi (fun i => x11.a (i + 1))) (ys := du (fun i => x11.a (i + 1))) (n := nwi) (m := ndu) (by rw [e3]; exact v3 _) (e3 _).symm rfl) [56,58] fun _ => finz [] (nth [x21.a 21, x21.a 22, x25.a 1, x23.a 0]) (fun j => match j with | 0 => fq20 w k0 (.ref 167) (t5+1) (.int (iN N) (x5.a 0)) (t10+1) (.int S2 (x10.a 0)) (t12+1) (.ref (x12.a 0)) (t20+1) (sv (t1s ++ [10] ++ t2s ++ [10]) (x20.a 0)) (t21+1) (.ref (x21.a 0)) (t25+1) (.ref (x25.a 0)) (t30+1) (.ref (b29+2)) (t34+1) (.ref (x34.a 0)) (t36+1) (.ref (x36.a 0)) (t38+1) (.ref (x38.a 0)) (t39+1) (.ref (b38+1)) | 1 => cellO (.int (iN P) (x9.a 0)) | 2 => cellO (.ref (x11.a 0)) | 3 => cellO (.ref (x29.a 0)) | 4 => cellO (.ref (b30+2)) | _ => cellO (.ref (x32.a 0))) (fun _ => .none)) (by kernel_rfl) (by kernel_rfl))
theorem sum_e0 (it l S : Addr) (xs : List Value) (n i t c : Nat) (a : Int) (hv : xs[i]? = none) : CS w os 950 (.builtin "sum.loop" ⟨[.ref it, .ref S, .int 0 0, .int 0 0], []⟩) [(it, itO l i), (l, lsO xs n), (S, lsO [.int a t] c)] 0 (fun x => rOk (.int a (x.a 0))) (fun x => [x.o 0, lsO xs n, x.o 1]) oNl :=
  CB (isB ["list_iterator.__next__"]) 30000 [3,1,1,5] (fun b0 t0 => vj (nextE_s (it := it) (l := l) (i := i) (xs := xs) (n := n) hv) [0,1] fun _ => finz [] (nth [t]) (fun j => match j with | 0 => itE i | _ => lsO [.int a t] c) (fun _ => .none)) (by kernel_rfl)
theorem sum_e2 (it l S : Addr) (xs : List Value) (n i t c : Nat) (a : Int) (hv : xs[i]? = none) : CS w os 950 (.builtin "sum.loop" ⟨[.ref it, .ref S, .int 2 0, .int 0 0], []⟩) [(it, itO l i), (l, lsO xs n), (S, lsO [.int a t] c)] 0 (fun x => rOk (.int a (x.a 0))) (fun x => [x.o 0, lsO xs n, x.o 1]) oNl :=
  CB (isB ["list_iterator.__next__"]) 30000 [3,1,1,5] (fun b0 t0 => vj (nextE_s (it := it) (l := l) (i := i) (xs := xs) (n := n) hv) [0,1] fun _ => finz [] (nth [t]) (fun j => match j with | 0 => itE i | _ => lsO [.int a t] c) (fun _ => .none)) (by kernel_rfl)
theorem sum_b (l : Addr) (xs : List Value) (n : Nat) (tot : Int) (hS : ∀ (it S t : Nat), CS w os 950 (.builtin "sum.loop" ⟨[.ref it, .ref S, .int 0 0, .int 0 0], []⟩) [(it, itO l 0), (l, lsO xs n), (S, lsO [.int 0 t] 0)] 0 (fun x => rOk (.int tot (x.a 0))) (fun x => [x.o 0, lsO xs n, x.o 1]) oNl) : CS w os 900 (.builtin "sum" ⟨[.ref l], []⟩) [(l, lsO xs n)] 0 (fun x => rOk (.int tot (x.a 0))) (fun _ => [lsO xs n]) oNl :=
  CB (isB ["sum.loop"]) 30000 [1,1,1,2] (fun b0 t0 => vx (hS (b0+0) (b0+1) (t0+0+1)) [1,0,2] fun x1 => fin [] [(x1.a 0)]) (by kernel_rfl)
end
end Mine
end
section
open PySem PySem.Spec PySem.Calls PyProof.Rows PySem.W PySem.W.X
set_option maxRecDepth 100000
namespace Mine
/-- the plain law: letters, words, views, tables -/
noncomputable def bitN (i k : Nat) : Nat := i / 2 ^ k % 2
noncomputable def ltr (i k : Nat) : Nat := match bitN i k with
  | 0 => 97 + k
  | _ => 65 + k
noncomputable def wdN (i : Nat) : List Nat := [ltr i 0, ltr i 1, ltr i 2]
noncomputable def othN (i k : Nat) : Nat := i % 2 ^ k + i / 2 ^ (k + 1) * 2 ^ k
noncomputable def vwN (i k : Nat) : Nat := 4 * k + othN i k
noncomputable def nmL (k g : Nat) : List Nat := match g with
  | 1 => [97 + k]
  | 2 => [65 + k]
  | _ => []
noncomputable def rgt (f : Nat → Nat) (i k : Nat) : Nat := bif f (vwN i k) == 1 + bitN i k then 1 else 0
noncomputable def wrg (f : Nat → Nat) (i k : Nat) : Nat := bif f (vwN i k) + bitN i k == 2 then 1 else 0
noncomputable def rgts (f : Nat → Nat) (i : Nat) : Nat := 0 + rgt f i 0 + rgt f i 1 + rgt f i 2
noncomputable def wrgs (f : Nat → Nat) (i : Nat) : Nat := 0 + wrg f i 0 + wrg f i 1 + wrg f i 2
noncomputable def lostB (f : Nat → Nat) (i : Nat) : Bool := rgts f i == 0 || Nat.blt 0 (wrgs f i)
noncomputable def lostL (f : Nat → Nat) : List Nat := (List.range 8).filter (lostB f)
noncomputable def wl (τ : Nat → Nat) (is : List Nat) : List Value := is.map fun i => sv (wdN i) (τ i)
noncomputable def vwS (j : Nat) : List Nat := (viewL.getD j (0, [])).2
/-- the table of figures -/
noncomputable def tabF (f : Nat → Nat) (vt : Nat → Nat) : List (List Nat × Nat × List Nat) := mapI (fun j p => (p.2, vt j, nmL p.1 (f j))) 0 viewL
theorem tabL_get {l : List (List Nat × Nat × List Nat)} {tk : Nat → Nat} {j : Nat} : (tabL l tk)[j]? = (l[j]?).map fun p => (p.1, p.2.1, sv p.2.2 (tk j)) := by
  unfold tabL; rw [mapI_get]; simp
theorem wordsO_wl (τ : Nat → Nat) : wordsO τ = lsO (wl τ (List.range 8)) 8 := rfl
theorem wl_get {τ : Nat → Nat} {is : List Nat} {j i : Nat} (h : is[j]? = some i) : (wl τ is)[j]? = some (sv (wdN i) (τ i)) := by
  simp [wl, h]
theorem wl_str {τ : Nat → Nat} {is : List Nat} : ∀ y ∈ wl τ is, ∃ t u, y = sv t u := by
  intro y hy
  obtain ⟨i, _, rfl⟩ := List.mem_map.mp hy
  exact ⟨_, _, rfl⟩
theorem wl_app {τ : Nat → Nat} {a b : List Nat} : wl τ (a ++ b) = wl τ a ++ wl τ b := by simp [wl]
theorem wdN_inj : ∀ i < 8, ∀ j < 8, wdN i = wdN j → i = j := by decide
theorem vw_key : ∀ i < 8, ([46, 46, 46, ltr i 1, ltr i 2] = vwS (vwN i 0) ∧ [ltr i 0, 46, 46, 46, ltr i 2] = vwS (vwN i 1) ∧ [ltr i 0, ltr i 1, 46, 46, 46] = vwS (vwN i 2)) ∧ vwN i 0 < 4 ∧ (4 ≤ vwN i 1 ∧ vwN i 1 < 8) ∧ 8 ≤ vwN i 2 ∧ vwN i 2 < 12 := by decide
theorem vw_k (j : Nat) (h : j < 12) : viewL[j]? = some (j / 4, vwS j) := by
  have : ∀ j < 12, viewL[j]? = some (j / 4, vwS j) := by decide
  exact this j h
theorem all4 {P : Nat → Prop} (h0 : P 0) (h1 : P 1) (h2 : P 2) (h3 : P 3) : ∀ i, i < 4 → P i
  | 0, _ => h0
  | 1, _ => h1
  | 2, _ => h2
  | 3, _ => h3
  | i + 4, h => absurd h (by omega)
theorem all8 {P : Nat → Prop} (h0 : P 0) (h1 : P 1) (h2 : P 2) (h3 : P 3) (h4 : P 4) (h5 : P 5) (h6 : P 6) (h7 : P 7) : ∀ i, i < 8 → P i
  | 0, _ => h0
  | 1, _ => h1
  | 2, _ => h2
  | 3, _ => h3
  | 4, _ => h4
  | 5, _ => h5
  | 6, _ => h6
  | 7, _ => h7
  | i + 8, h => absurd h (by omega)
theorem all11 {P : Nat → Prop} (h0 : P 0) (h1 : P 1) (h2 : P 2) (h3 : P 3) (h4 : P 4) (h5 : P 5) (h6 : P 6) (h7 : P 7) (h8 : P 8) (h9 : P 9) (h10 : P 10) : ∀ i, i < 11 → P i
  | 0, _ => h0
  | 1, _ => h1
  | 2, _ => h2
  | 3, _ => h3
  | 4, _ => h4
  | 5, _ => h5
  | 6, _ => h6
  | 7, _ => h7
  | 8, _ => h8
  | 9, _ => h9
  | 10, _ => h10
  | i + 11, h => absurd h (by omega)
theorem all12 {P : Nat → Prop} (h0 : P 0) (h1 : P 1) (h2 : P 2) (h3 : P 3) (h4 : P 4) (h5 : P 5) (h6 : P 6) (h7 : P 7) (h8 : P 8) (h9 : P 9) (h10 : P 10) (h11 : P 11) : ∀ i, i < 12 → P i
  | 0, _ => h0
  | 1, _ => h1
  | 2, _ => h2
  | 3, _ => h3
  | 4, _ => h4
  | 5, _ => h5
  | 6, _ => h6
  | 7, _ => h7
  | 8, _ => h8
  | 9, _ => h9
  | 10, _ => h10
  | 11, _ => h11
  | i + 12, h => absurd h (by omega)
section
variable {w : World} {os : OsState} {KK : Nat → Option Obj} {d : Nat}
theorem tabG {td z : Nat} {T : List (List Nat × Nat × List Nat)} {tr : Nat → Nat} {j tv : Nat} {V s : List Nat} (hj : T[j]? = some (V, tv, s)) (hk : (T.map (·.1)).Nodup) :
    CSpec w KK os d (.builtin "dict.__getitem__" ⟨[.ref td, sv V z], []⟩) [(td, dcE w (tabL T tr))] 0 (fun _ => rOk (sv s (tr j))) (fun _ => [dcE w (tabL T tr)]) oNl := by
  have hl : j < T.length := (List.getElem?_eq_some_iff.mp hj).1
  have hg : (tabL T tr)[j]? = some (V, tv, sv s (tr j)) := by rw [tabL_get, hj]; rfl
  have hl' : j < (tabL T tr).length := by rw [tabL_length]; exact hl
  have e : tabL T tr = (tabL T tr).take j ++ (V, tv, sv s (tr j)) :: (tabL T tr).drop (j + 1) := by
    have h2 : (tabL T tr)[j] = (V, tv, sv s (tr j)) := by
      rw [List.getElem?_eq_getElem hl'] at hg; exact Option.some.inj hg
    rw [← h2, List.getElem_cons_drop, List.take_append_drop]
  rw [e]
  refine dgetE ?_
  intro p hp
  obtain ⟨i, hi⟩ := List.mem_iff_getElem?.mp hp
  rw [List.getElem?_take] at hi
  split at hi
  · rename_i hij
    rw [tabL_get] at hi
    cases hq : T[i]? with
    | none => rw [hq] at hi; cases hi
    | some q =>
      rw [hq] at hi; cases hi
      intro e
      have h1 : (T.map (·.1))[i]? = some V := by rw [List.getElem?_map, hq]; simp [← e]
      have h2 : (T.map (·.1))[j]? = some V := by rw [List.getElem?_map, hj]; rfl
      have : i = j := by
        obtain ⟨q1, e1⟩ := List.getElem?_eq_some_iff.mp h1
        obtain ⟨q2, e2⟩ := List.getElem?_eq_some_iff.mp h2
        exact (List.getElem_inj hk).mp (e1.trans e2.symm)
      omega
  · cases hi
theorem tabF_keys (f vt : Nat → Nat) : (tabF f vt).map (·.1) = viewL.map (·.2) := rfl
theorem tabFG {td z : Nat} {f vt tr : Nat → Nat} {j : Nat} (hj : j < 12) :
    CSpec w KK os d (.builtin "dict.__getitem__" ⟨[.ref td, sv (vwS j) z], []⟩) [(td, dcE w (tabL (tabF f vt) tr))] 0 (fun _ => rOk (sv (nmL (j / 4) (f j)) (tr j))) (fun _ => [dcE w (tabL (tabF f vt) tr)]) oNl := by
  refine tabG (tv := vt j) ?_ ?_
  · unfold tabF
    rw [mapI_get, vw_k j hj]; simp
  · rw [tabF_keys]; decide
end
end Mine
end
section
open PySem PySem.Spec PySem.Calls PyProof.Rows PySem.W PySem.W.X
set_option maxRecDepth 100000
set_option linter.unusedVariables false
namespace Mine
section
variable (w : World) (os : OsState)
noncomputable def kR (s : List Nat) (c : Nat) : Nat := bif s == [c] then 1 else 0
noncomputable def kW (s : List Nat) (c : Nat) : Nat := bif s == [c] then 0 else bif s != [] then 1 else 0
theorem nam3 {s : List Nat} {c : Nat} {P : Nat → Nat → Prop} (hR : (s == [c]) = true → P 1 0) (hQ : (s == [c]) = false → (s != []) = true → P 0 1) (hS : (s == [c]) = false → (s != []) = false → P 0 0) : P (kR s c) (kW s c) := by
  unfold kR kW
  cases h1 : (s == [c]) with
  | true => exact hR h1
  | false =>
    cases h2 : (s != []) with
    | true => exact hQ h1 h2
    | false => exact hS h1 h2
noncomputable def LK (mi wl td fr it : Nat) (T : List (List Nat × Nat × List Nat)) (tr : Nat → Nat) (c0 c1 c2 u : Nat) (k0 k1 k2 k3 k4 k5 k6 k7 k8 : Nat) (v4 : Value) (R Q r q : Nat) (i m : Int) : Prop := ∀ (t5 t6 : Nat) (v7 v8 : Value), CS w os 600 (cL244 w it fr) [(fr, fq7 w k0 (.ref mi) k1 (.ref wl) k2 (.ref td) k3 (sv [c0,c1,c2] u) k4 v4 k5 (.int (Int.ofNat r) t5) k6 (.int (Int.ofNat q) t6) k7 v7 k8 v8), (td, dcE w (tabL T tr)), (it, rgI i m)] 0 rNx (fun x => [fq7 w k0 (.ref mi) k1 (.ref wl) k2 (.ref td) k3 (sv [c0,c1,c2] u) k4 v4 k5 (.int (Int.ofNat R) (x.a 0)) k6 (.int (Int.ofNat Q) (x.a 1)) k7 (x.v 0) k8 (x.v 1), dcE w (tabL T tr), x.o 0]) oNl
theorem lk_0 (mi wl td fr it : Nat) (T : List (List Nat × Nat × List Nat)) (tr : Nat → Nat) (c0 c1 c2 u : Nat) (k0 k1 k2 k3 k4 k5 k6 k7 k8 : Nat) (v4 : Value) (R Q r q : Nat) (s0 : List Nat) (g0 : Nat) (hG0 : ∀ z, CS w os 900 (.builtin "dict.__getitem__" ⟨[.ref td, sv [46,46,46,c1,c2] z], []⟩) [(td, dcE w (tabL T tr))] 0 (fun _ => rOk (sv s0 g0)) (fun _ => [dcE w (tabL T tr)]) oNl)
    (hX : LK w os mi wl td fr it T tr c0 c1 c2 u k0 k1 k2 k3 k4 k5 k6 k7 k8 v4 R Q (r + kR s0 c0) (q + kW s0 c0) 1 2) : LK w os mi wl td fr it T tr c0 c1 c2 u k0 k1 k2 k3 k4 k5 k6 k7 k8 v4 R Q r q 0 3 :=
  nam3 (P := fun x y => LK w os mi wl td fr it T tr c0 c1 c2 u k0 k1 k2 k3 k4 k5 k6 k7 k8 v4 R Q (r + x) (q + y) 1 2 → LK w os mi wl td fr it T tr c0 c1 c2 u k0 k1 k2 k3 k4 k5 k6 k7 k8 v4 R Q r q 0 3)
    (fun hE (hX : LK w os mi wl td fr it T tr c0 c1 c2 u k0 k1 k2 k3 k4 k5 k6 k7 k8 v4 R Q (r + 1) (q + 0) 1 2) => fun t5 t6 v7 v8 => kt_0R w os mi wl td fr it _ _ c0 c1 c2 u k0 k1 k2 k3 k4 k5 k6 k7 k8 v4 v7 v8 r q t5 t6 ⟨s0.toArray⟩ g0 hG0 hE R Q fun t5 t6 kt => hX t5 t6 _ _)
    (fun hE hN (hX : LK w os mi wl td fr it T tr c0 c1 c2 u k0 k1 k2 k3 k4 k5 k6 k7 k8 v4 R Q (r + 0) (q + 1) 1 2) => fun t5 t6 v7 v8 => kt_0W w os mi wl td fr it _ _ c0 c1 c2 u k0 k1 k2 k3 k4 k5 k6 k7 k8 v4 v7 v8 r q t5 t6 ⟨s0.toArray⟩ g0 hG0 hE hN R Q fun t5 t6 kt => hX t5 t6 _ _)
    (fun hE hN (hX : LK w os mi wl td fr it T tr c0 c1 c2 u k0 k1 k2 k3 k4 k5 k6 k7 k8 v4 R Q (r + 0) (q + 0) 1 2) => fun t5 t6 v7 v8 => kt_0S w os mi wl td fr it _ _ c0 c1 c2 u k0 k1 k2 k3 k4 k5 k6 k7 k8 v4 v7 v8 r q t5 t6 ⟨s0.toArray⟩ g0 hG0 hE hN R Q fun t5 t6 kt => hX t5 t6 _ _) hX
theorem lk_1 (mi wl td fr it : Nat) (T : List (List Nat × Nat × List Nat)) (tr : Nat → Nat) (c0 c1 c2 u : Nat) (k0 k1 k2 k3 k4 k5 k6 k7 k8 : Nat) (v4 : Value) (R Q r q : Nat) (s1 : List Nat) (g1 : Nat) (hG1 : ∀ z, CS w os 900 (.builtin "dict.__getitem__" ⟨[.ref td, sv [c0,46,46,46,c2] z], []⟩) [(td, dcE w (tabL T tr))] 0 (fun _ => rOk (sv s1 g1)) (fun _ => [dcE w (tabL T tr)]) oNl)
    (hX : LK w os mi wl td fr it T tr c0 c1 c2 u k0 k1 k2 k3 k4 k5 k6 k7 k8 v4 R Q (r + kR s1 c1) (q + kW s1 c1) 2 1) : LK w os mi wl td fr it T tr c0 c1 c2 u k0 k1 k2 k3 k4 k5 k6 k7 k8 v4 R Q r q 1 2 :=
  nam3 (P := fun x y => LK w os mi wl td fr it T tr c0 c1 c2 u k0 k1 k2 k3 k4 k5 k6 k7 k8 v4 R Q (r + x) (q + y) 2 1 → LK w os mi wl td fr it T tr c0 c1 c2 u k0 k1 k2 k3 k4 k5 k6 k7 k8 v4 R Q r q 1 2)
    (fun hE (hX : LK w os mi wl td fr it T tr c0 c1 c2 u k0 k1 k2 k3 k4 k5 k6 k7 k8 v4 R Q (r + 1) (q + 0) 2 1) => fun t5 t6 v7 v8 => kt_1R w os mi wl td fr it _ _ c0 c1 c2 u k0 k1 k2 k3 k4 k5 k6 k7 k8 v4 v7 v8 r q t5 t6 ⟨s1.toArray⟩ g1 hG1 hE R Q fun t5 t6 kt => hX t5 t6 _ _)
    (fun hE hN (hX : LK w os mi wl td fr it T tr c0 c1 c2 u k0 k1 k2 k3 k4 k5 k6 k7 k8 v4 R Q (r + 0) (q + 1) 2 1) => fun t5 t6 v7 v8 => kt_1W w os mi wl td fr it _ _ c0 c1 c2 u k0 k1 k2 k3 k4 k5 k6 k7 k8 v4 v7 v8 r q t5 t6 ⟨s1.toArray⟩ g1 hG1 hE hN R Q fun t5 t6 kt => hX t5 t6 _ _)
    (fun hE hN (hX : LK w os mi wl td fr it T tr c0 c1 c2 u k0 k1 k2 k3 k4 k5 k6 k7 k8 v4 R Q (r + 0) (q + 0) 2 1) => fun t5 t6 v7 v8 => kt_1S w os mi wl td fr it _ _ c0 c1 c2 u k0 k1 k2 k3 k4 k5 k6 k7 k8 v4 v7 v8 r q t5 t6 ⟨s1.toArray⟩ g1 hG1 hE hN R Q fun t5 t6 kt => hX t5 t6 _ _) hX
theorem lk_2 (mi wl td fr it : Nat) (T : List (List Nat × Nat × List Nat)) (tr : Nat → Nat) (c0 c1 c2 u : Nat) (k0 k1 k2 k3 k4 k5 k6 k7 k8 : Nat) (v4 : Value) (R Q r q : Nat) (s2 : List Nat) (g2 : Nat) (hG2 : ∀ z, CS w os 900 (.builtin "dict.__getitem__" ⟨[.ref td, sv [c0,c1,46,46,46] z], []⟩) [(td, dcE w (tabL T tr))] 0 (fun _ => rOk (sv s2 g2)) (fun _ => [dcE w (tabL T tr)]) oNl)
    (hX : LK w os mi wl td fr it T tr c0 c1 c2 u k0 k1 k2 k3 k4 k5 k6 k7 k8 v4 R Q (r + kR s2 c2) (q + kW s2 c2) 3 0) : LK w os mi wl td fr it T tr c0 c1 c2 u k0 k1 k2 k3 k4 k5 k6 k7 k8 v4 R Q r q 2 1 :=
  nam3 (P := fun x y => LK w os mi wl td fr it T tr c0 c1 c2 u k0 k1 k2 k3 k4 k5 k6 k7 k8 v4 R Q (r + x) (q + y) 3 0 → LK w os mi wl td fr it T tr c0 c1 c2 u k0 k1 k2 k3 k4 k5 k6 k7 k8 v4 R Q r q 2 1)
    (fun hE (hX : LK w os mi wl td fr it T tr c0 c1 c2 u k0 k1 k2 k3 k4 k5 k6 k7 k8 v4 R Q (r + 1) (q + 0) 3 0) => fun t5 t6 v7 v8 => kt_2R w os mi wl td fr it _ _ c0 c1 c2 u k0 k1 k2 k3 k4 k5 k6 k7 k8 v4 v7 v8 r q t5 t6 ⟨s2.toArray⟩ g2 hG2 hE R Q fun t5 t6 kt => hX t5 t6 _ _)
    (fun hE hN (hX : LK w os mi wl td fr it T tr c0 c1 c2 u k0 k1 k2 k3 k4 k5 k6 k7 k8 v4 R Q (r + 0) (q + 1) 3 0) => fun t5 t6 v7 v8 => kt_2W w os mi wl td fr it _ _ c0 c1 c2 u k0 k1 k2 k3 k4 k5 k6 k7 k8 v4 v7 v8 r q t5 t6 ⟨s2.toArray⟩ g2 hG2 hE hN R Q fun t5 t6 kt => hX t5 t6 _ _)
    (fun hE hN (hX : LK w os mi wl td fr it T tr c0 c1 c2 u k0 k1 k2 k3 k4 k5 k6 k7 k8 v4 R Q (r + 0) (q + 0) 3 0) => fun t5 t6 v7 v8 => kt_2S w os mi wl td fr it _ _ c0 c1 c2 u k0 k1 k2 k3 k4 k5 k6 k7 k8 v4 v7 v8 r q t5 t6 ⟨s2.toArray⟩ g2 hG2 hE hN R Q fun t5 t6 kt => hX t5 t6 _ _) hX
noncomputable def LKf (mi wl td fr it : Nat) (T : List (List Nat × Nat × List Nat)) (tr : Nat → Nat) (c0 c1 c2 u : Nat) (k0 k1 k2 k3 k4 k5 k6 k7 k8 : Nat) (v4 : Value) (R Q r q : Nat) : Prop := ∀ (t5 t6 : Nat), CS w os 600 (cL244 w it fr) [(fr, fq8 w k0 (.ref mi) k1 (.ref wl) k2 (.ref td) k3 (sv [c0,c1,c2] u) k4 v4 k5 (.int (Int.ofNat r) t5) k6 (.int (Int.ofNat q) t6)), (td, dcE w (tabL T tr)), (it, rgI 0 3)] 0 rNx (fun x => [fq7 w k0 (.ref mi) k1 (.ref wl) k2 (.ref td) k3 (sv [c0,c1,c2] u) k4 v4 k5 (.int (Int.ofNat R) (x.a 0)) k6 (.int (Int.ofNat Q) (x.a 1)) (x.a 2) (x.v 0) (x.a 3) (x.v 1), dcE w (tabL T tr), x.o 0]) oNl
theorem lk_f (mi wl td fr it : Nat) (T : List (List Nat × Nat × List Nat)) (tr : Nat → Nat) (c0 c1 c2 u : Nat) (k0 k1 k2 k3 k4 k5 k6 k7 k8 : Nat) (v4 : Value) (R Q r q : Nat) (s0 : List Nat) (g0 : Nat) (hG0 : ∀ z, CS w os 900 (.builtin "dict.__getitem__" ⟨[.ref td, sv [46,46,46,c1,c2] z], []⟩) [(td, dcE w (tabL T tr))] 0 (fun _ => rOk (sv s0 g0)) (fun _ => [dcE w (tabL T tr)]) oNl)
    (hX : ∀ k7' k8', LK w os mi wl td fr it T tr c0 c1 c2 u k0 k1 k2 k3 k4 k5 k6 k7' k8' v4 R Q (r + kR s0 c0) (q + kW s0 c0) 1 2) : LKf w os mi wl td fr it T tr c0 c1 c2 u k0 k1 k2 k3 k4 k5 k6 k7 k8 v4 R Q r q :=
  nam3 (P := fun x y => (∀ k7' k8', LK w os mi wl td fr it T tr c0 c1 c2 u k0 k1 k2 k3 k4 k5 k6 k7' k8' v4 R Q (r + x) (q + y) 1 2) → LKf w os mi wl td fr it T tr c0 c1 c2 u k0 k1 k2 k3 k4 k5 k6 k7 k8 v4 R Q r q)
    (fun hE (hX : ∀ k7' k8', LK w os mi wl td fr it T tr c0 c1 c2 u k0 k1 k2 k3 k4 k5 k6 k7' k8' v4 R Q (r + 1) (q + 0) 1 2) => fun t5 t6 => kt_0Rf w os mi wl td fr it _ _ c0 c1 c2 u k0 k1 k2 k3 k4 k5 k6 k7 k8 v4 .none .none r q t5 t6 ⟨s0.toArray⟩ g0 hG0 hE R Q fun t5 t6 kt k7 k8 => hX k7 k8 t5 t6 _ _)
    (fun hE hN (hX : ∀ k7' k8', LK w os mi wl td fr it T tr c0 c1 c2 u k0 k1 k2 k3 k4 k5 k6 k7' k8' v4 R Q (r + 0) (q + 1) 1 2) => fun t5 t6 => kt_0Wf w os mi wl td fr it _ _ c0 c1 c2 u k0 k1 k2 k3 k4 k5 k6 k7 k8 v4 .none .none r q t5 t6 ⟨s0.toArray⟩ g0 hG0 hE hN R Q fun t5 t6 kt k7 k8 => hX k7 k8 t5 t6 _ _)
    (fun hE hN (hX : ∀ k7' k8', LK w os mi wl td fr it T tr c0 c1 c2 u k0 k1 k2 k3 k4 k5 k6 k7' k8' v4 R Q (r + 0) (q + 0) 1 2) => fun t5 t6 => kt_0Sf w os mi wl td fr it _ _ c0 c1 c2 u k0 k1 k2 k3 k4 k5 k6 k7 k8 v4 .none .none r q t5 t6 ⟨s0.toArray⟩ g0 hG0 hE hN R Q fun t5 t6 kt k7 k8 => hX k7 k8 t5 t6 _ _) hX
theorem lk_end (mi wl td fr it : Nat) (T : List (List Nat × Nat × List Nat)) (tr : Nat → Nat) (c0 c1 c2 u : Nat) (k0 k1 k2 k3 k4 k5 k6 k7 k8 : Nat) (v4 : Value) (r q : Nat) (i : Int) : LK w os mi wl td fr it T tr c0 c1 c2 u k0 k1 k2 k3 k4 k5 k6 k7 k8 v4 r q r q i 0 := fun t5 t6 v7 v8 =>
  kt_endF w os mi wl td fr it _ _ c0 c1 c2 u k0 k1 k2 k3 k4 k5 k6 k7 k8 v4 v7 v8 r q t5 t6 i
theorem lk_all (mi wl td fr it : Nat) (T : List (List Nat × Nat × List Nat)) (tr : Nat → Nat) (c0 c1 c2 u : Nat) (k0 k1 k2 k3 k4 k5 k6 k7 k8 : Nat) (v4 : Value) (s0 s1 s2 : List Nat) (g0 g1 g2 : Nat) (hG0 : ∀ z, CS w os 900 (.builtin "dict.__getitem__" ⟨[.ref td, sv [46,46,46,c1,c2] z], []⟩) [(td, dcE w (tabL T tr))] 0 (fun _ => rOk (sv s0 g0)) (fun _ => [dcE w (tabL T tr)]) oNl) (hG1 : ∀ z, CS w os 900 (.builtin "dict.__getitem__" ⟨[.ref td, sv [c0,46,46,46,c2] z], []⟩) [(td, dcE w (tabL T tr))] 0 (fun _ => rOk (sv s1 g1)) (fun _ => [dcE w (tabL T tr)]) oNl) (hG2 : ∀ z, CS w os 900 (.builtin "dict.__getitem__" ⟨[.ref td, sv [c0,c1,46,46,46] z], []⟩) [(td, dcE w (tabL T tr))] 0 (fun _ => rOk (sv s2 g2)) (fun _ => [dcE w (tabL T tr)]) oNl) :
    LK w os mi wl td fr it T tr c0 c1 c2 u k0 k1 k2 k3 k4 k5 k6 k7 k8 v4 (0 + kR s0 c0 + kR s1 c1 + kR s2 c2) (0 + kW s0 c0 + kW s1 c1 + kW s2 c2) 0 0 0 3 :=
  lk_0 w os mi wl td fr it T tr c0 c1 c2 u k0 k1 k2 k3 k4 k5 k6 k7 k8 v4 _ _ 0 0 s0 g0 hG0 (lk_1 w os mi wl td fr it T tr c0 c1 c2 u k0 k1 k2 k3 k4 k5 k6 k7 k8 v4 _ _ _ _ s1 g1 hG1 (lk_2 w os mi wl td fr it T tr c0 c1 c2 u k0 k1 k2 k3 k4 k5 k6 k7 k8 v4 _ _ _ _ s2 g2 hG2 (lk_end w os mi wl td fr it T tr c0 c1 c2 u k0 k1 k2 k3 k4 k5 k6 k7 k8 v4 _ _ _)))
theorem lk_allf (mi wl td fr it : Nat) (T : List (List Nat × Nat × List Nat)) (tr : Nat → Nat) (c0 c1 c2 u : Nat) (k0 k1 k2 k3 k4 k5 k6 k7 k8 : Nat) (v4 : Value) (s0 s1 s2 : List Nat) (g0 g1 g2 : Nat) (hG0 : ∀ z, CS w os 900 (.builtin "dict.__getitem__" ⟨[.ref td, sv [46,46,46,c1,c2] z], []⟩) [(td, dcE w (tabL T tr))] 0 (fun _ => rOk (sv s0 g0)) (fun _ => [dcE w (tabL T tr)]) oNl) (hG1 : ∀ z, CS w os 900 (.builtin "dict.__getitem__" ⟨[.ref td, sv [c0,46,46,46,c2] z], []⟩) [(td, dcE w (tabL T tr))] 0 (fun _ => rOk (sv s1 g1)) (fun _ => [dcE w (tabL T tr)]) oNl) (hG2 : ∀ z, CS w os 900 (.builtin "dict.__getitem__" ⟨[.ref td, sv [c0,c1,46,46,46] z], []⟩) [(td, dcE w (tabL T tr))] 0 (fun _ => rOk (sv s2 g2)) (fun _ => [dcE w (tabL T tr)]) oNl) :
    LKf w os mi wl td fr it T tr c0 c1 c2 u k0 k1 k2 k3 k4 k5 k6 k7 k8 v4 (0 + kR s0 c0 + kR s1 c1 + kR s2 c2) (0 + kW s0 c0 + kW s1 c1 + kW s2 c2) 0 0 :=
  lk_f w os mi wl td fr it T tr c0 c1 c2 u k0 k1 k2 k3 k4 k5 k6 k7 k8 v4 _ _ 0 0 s0 g0 hG0 fun k7' k8' => lk_1 w os mi wl td fr it T tr c0 c1 c2 u k0 k1 k2 k3 k4 k5 k6 k7' k8' v4 _ _ _ _ s1 g1 hG1 (lk_2 w os mi wl td fr it T tr c0 c1 c2 u k0 k1 k2 k3 k4 k5 k6 k7' k8' v4 _ _ _ _ s2 g2 hG2 (lk_end w os mi wl td fr it T tr c0 c1 c2 u k0 k1 k2 k3 k4 k5 k6 k7' k8' v4 _ _ _))
noncomputable def LT (mi md st pb wl td fr it : Nat) (ln : Value) (ν : Nat → Nat) (od : Obj) (k0 k1 k2 k3 k4 k5 k6 k7 k8 : Nat) (out : List Value) (nn : Nat) (xs : List Value) (n t m : Nat) : Prop := ∀ (v3 v4 v5 v6 v7 v8 : Value), CS w os 440 (cL240 w it fr) (machIns w mi md pb st ln ν xs n ++ [(td, od), (fr, fq7 w k0 (.ref mi) k1 (.ref wl) k2 (.ref td) k3 v3 k4 v4 k5 v5 k6 v6 k7 v7 k8 v8), (it, rgI (Int.ofNat t) (Int.ofNat m))]) 0 rNx (fun x => machOut w md pb st ln ν out nn ++ [od, fq7 w k0 (.ref mi) k1 (.ref wl) k2 (.ref td) k3 (x.v 0) k4 (x.v 1) k5 (x.v 2) k6 (x.v 3) k7 (x.v 4) k8 (x.v 5), x.o 0]) oNl
theorem lt_turn (mi md st pb wl td fr it : Nat) (ln : Value) (ν : Nat → Nat) (od : Obj) (k0 k1 k2 k3 k4 k5 k6 k7 k8 : Nat) (out : List Value) (nn : Nat) (xs : List Value) (n t m c0 c1 c2 u R Q : Nat) (hx : xs.length ≤ 100)
    (hK : ∀ (it t5 t6 : Nat) (v4 v7 v8 : Value), CS w os 600 (cL244 w it fr) [(fr, fq7 w k0 (.ref mi) k1 (.ref wl) k2 (.ref td) k3 (sv [c0,c1,c2] u) k4 v4 k5 (.int 0 t5) k6 (.int 0 t6) k7 v7 k8 v8), (td, od), (it, rgI 0 3)] 0 rNx (fun x => [fq7 w k0 (.ref mi) k1 (.ref wl) k2 (.ref td) k3 (sv [c0,c1,c2] u) k4 v4 k5 (.int (Int.ofNat R) (x.a 0)) k6 (.int (Int.ofNat Q) (x.a 1)) k7 (x.v 0) k8 (x.v 1), od, x.o 0]) oNl)
    (hN : LT w os mi md st pb wl td fr it ln ν od k0 k1 k2 k3 k4 k5 k6 k7 k8 out nn (bif R == 0 || Nat.blt 0 Q then xs ++ [sv [c0,c1,c2] u] else xs) (bif R == 0 || Nat.blt 0 Q then n + 1 + 1 else n + 1) (t + 1) m) :
    LT w os mi md st pb wl td fr it ln ν od k0 k1 k2 k3 k4 k5 k6 k7 k8 out nn (sv [c0,c1,c2] u :: xs) n t (m + 1) := by
  intro v3 v4 v5 v6 v7 v8
  cases R with
  | zero => exact lt_none w os mi md st pb wl td fr it ln ν n od xs c0 c1 c2 u hx t m k0 k1 k2 k3 k4 k5 k6 k7 k8 v3 v4 v5 v6 v7 v8 Q hK out nn hN
  | succ r => cases Q with
    | zero => exact lt_ok w os mi md st pb wl td fr it ln ν n od xs c0 c1 c2 u hx t m k0 k1 k2 k3 k4 k5 k6 k7 k8 v3 v4 v5 v6 v7 v8 r hK out nn hN
    | succ q => exact lt_bad w os mi md st pb wl td fr it ln ν n od xs c0 c1 c2 u hx t m k0 k1 k2 k3 k4 k5 k6 k7 k8 v3 v4 v5 v6 v7 v8 r q hK out nn hN
noncomputable def LTf (mi md st pb wl td fr it : Nat) (ln : Value) (ν : Nat → Nat) (od : Obj) (k0 k1 k2 k3 k4 k5 k6 k7 k8 : Nat) (out : List Value) (nn : Nat) (xs : List Value) (n t m : Nat) : Prop := ∀ (v3 : Value), CS w os 440 (cL240 w it fr) (machIns w mi md pb st ln ν xs n ++ [(td, od), (fr, fq12 w k0 (.ref mi) k1 (.ref wl) k2 (.ref td) k3 v3), (it, rgI (Int.ofNat t) (Int.ofNat m))]) 0 rNx (fun x => machOut w md pb st ln ν out nn ++ [od, fq7 w k0 (.ref mi) k1 (.ref wl) k2 (.ref td) k3 (x.v 0) (x.a 0) (x.v 1) (x.a 1) (x.v 2) (x.a 2) (x.v 3) (x.a 3) (x.v 4) (x.a 4) (x.v 5), x.o 0]) oNl
theorem lt_turnf (mi md st pb wl td fr it : Nat) (ln : Value) (ν : Nat → Nat) (od : Obj) (k0 k1 k2 k3 k4 k5 k6 k7 k8 : Nat) (out : List Value) (nn : Nat) (xs : List Value) (n t m c0 c1 c2 u R Q : Nat) (hx : xs.length ≤ 100)
    (hK : ∀ (it t5 t6 k4 k5 k6 : Nat) (v4 : Value), CS w os 600 (cL244 w it fr) [(fr, fq8 w k0 (.ref mi) k1 (.ref wl) k2 (.ref td) k3 (sv [c0,c1,c2] u) k4 v4 k5 (.int 0 t5) k6 (.int 0 t6)), (td, od), (it, rgI 0 3)] 0 rNx (fun x => [fq7 w k0 (.ref mi) k1 (.ref wl) k2 (.ref td) k3 (sv [c0,c1,c2] u) k4 v4 k5 (.int (Int.ofNat R) (x.a 0)) k6 (.int (Int.ofNat Q) (x.a 1)) (x.a 2) (x.v 0) (x.a 3) (x.v 1), od, x.o 0]) oNl)
    (hN : ∀ k4' k5' k6' k7' k8', LT w os mi md st pb wl td fr it ln ν od k0 k1 k2 k3 k4' k5' k6' k7' k8' out nn (bif R == 0 || Nat.blt 0 Q then xs ++ [sv [c0,c1,c2] u] else xs) (bif R == 0 || Nat.blt 0 Q then n + 1 + 1 else n + 1) (t + 1) m) :
    LTf w os mi md st pb wl td fr it ln ν od k0 k1 k2 k3 k4 k5 k6 k7 k8 out nn (sv [c0,c1,c2] u :: xs) n t (m + 1) := by
  intro v3
  cases R with
  | zero => exact lt_nonef w os mi md st pb wl td fr it ln ν n od xs c0 c1 c2 u hx t m k0 k1 k2 k3 v3 Q hK out nn hN
  | succ r => cases Q with
    | zero => exact lt_okf w os mi md st pb wl td fr it ln ν n od xs c0 c1 c2 u hx t m k0 k1 k2 k3 v3 r hK out nn hN
    | succ q => exact lt_badf w os mi md st pb wl td fr it ln ν n od xs c0 c1 c2 u hx t m k0 k1 k2 k3 v3 r q hK out nn hN
end
end Mine
end
section
open PySem PySem.Spec PySem.Calls PyProof.Rows PySem.W PySem.W.X
set_option maxRecDepth 100000
set_option linter.unusedVariables false
set_option linter.unusedSimpArgs false
namespace Mine
theorem bit_cases (i k : Nat) : bitN i k = 0 ∨ bitN i k = 1 := Nat.mod_two_eq_zero_or_one _
theorem t8 {t m : Nat} (h : t + (m + 1) = 8) : t < 8 ∧ t + 1 + m = 8 := by omega
theorem le_of_8 {a t b : Nat} (h : a ≤ t) (ht : t < 8) (hb : 8 ≤ b) : a ≤ b := Nat.le_trans h (Nat.le_trans (Nat.le_of_lt ht) hb)
theorem ltr0 {i k : Nat} (h : bitN i k = 0) : ltr i k = 97 + k := by simp only [ltr, h]
theorem ltr1 {i k : Nat} (h : bitN i k = 1) : ltr i k = 65 + k := by simp only [ltr, h]
theorem kR_nm {i k g : Nat} : kR (nmL k g) (ltr i k) = bif g == 1 + bitN i k then 1 else 0 := by
  unfold kR
  rcases bit_cases i k with h | h
  · rw [h, ltr0 h]
    match g with
    | 0 => rfl
    | 1 => simp [nmL, show (97 + k == 65 + k) = false from beq_eq_false_iff_ne.mpr (by omega)]
    | 2 => simp [nmL, show (65 + k == 97 + k) = false from beq_eq_false_iff_ne.mpr (by omega)]
    | g + 3 => simp [nmL]
  · rw [h, ltr1 h]
    match g with
    | 0 => rfl
    | 1 => simp [nmL, show (97 + k == 65 + k) = false from beq_eq_false_iff_ne.mpr (by omega)]
    | 2 => simp [nmL, show (65 + k == 97 + k) = false from beq_eq_false_iff_ne.mpr (by omega)]
    | g + 3 => simp [nmL]
theorem kW_nm {i k g : Nat} : kW (nmL k g) (ltr i k) = bif g + bitN i k == 2 then 1 else 0 := by
  unfold kW
  rcases bit_cases i k with h | h
  · rw [h, ltr0 h]
    match g with
    | 0 => rfl
    | 1 => simp [nmL, bne, show (97 + k == 65 + k) = false from beq_eq_false_iff_ne.mpr (by omega)]
    | 2 => simp [nmL, bne, show (65 + k == 97 + k) = false from beq_eq_false_iff_ne.mpr (by omega)]
    | g + 3 => simp [nmL]
  · rw [h, ltr1 h]
    match g with
    | 0 => rfl
    | 1 => simp [nmL, bne, show (97 + k == 65 + k) = false from beq_eq_false_iff_ne.mpr (by omega)]
    | 2 => simp [nmL, bne, show (65 + k == 97 + k) = false from beq_eq_false_iff_ne.mpr (by omega)]
    | g + 3 => simp [nmL]
theorem vwK (i k : Nat) (hi : i < 8) (hk : k < 3) : vwN i k < 12 ∧ vwN i k / 4 = k := by
  have h : ∀ i < 8, ∀ k < 3, vwN i k < 12 ∧ vwN i k / 4 = k := by decide
  exact h i hi k hk
theorem tabK {w : World} {os : OsState} {KK : Nat → Option Obj} {d td z j k : Nat} {f vt tr : Nat → Nat} {V : List Nat} (hV : V = vwS j) (hj : j < 12) (hk : j / 4 = k) :
    CSpec w KK os d (.builtin "dict.__getitem__" ⟨[.ref td, sv V z], []⟩) [(td, dcE w (tabL (tabF f vt) tr))] 0 (fun _ => rOk (sv (nmL k (f j)) (tr j))) (fun _ => [dcE w (tabL (tabF f vt) tr)]) oNl := by
  subst hV hk
  exact tabFG hj
/-- what a filter has so far -/
noncomputable def upTo (p : Nat → Bool) (t : Nat) : List Nat := (List.range t).filter p
theorem upTo_succ (p : Nat → Bool) (t : Nat) : upTo p (t + 1) = bif p t then upTo p t ++ [t] else upTo p t := by
  unfold upTo
  rw [List.range_succ, List.filter_append]
  cases h : p t <;> simp [h]
theorem upTo_len (p : Nat → Bool) (t : Nat) : (upTo p t).length ≤ t := by
  unfold upTo
  have := List.length_filter_le p (List.range t)
  simpa using this
noncomputable def fromW (t m : Nat) : List Nat := List.range' t m
theorem wl_cons {τ : Nat → Nat} {i : Nat} {l : List Nat} : wl τ (i :: l) = sv [ltr i 0, ltr i 1, ltr i 2] (τ i) :: wl τ l := rfl
theorem wl_len {τ : Nat → Nat} {l : List Nat} : (wl τ l).length = l.length := by simp [wl]
section
variable (w : World) (os : OsState)
theorem lkw (mi wl td fr it : Nat) (f vt tr : Nat → Nat) (i u : Nat) (hi : i < 8) (k0 k1 k2 k3 k4 k5 k6 k7 k8 : Nat) (v4 : Value) : LK w os mi wl td fr it (tabF f vt) tr (ltr i 0) (ltr i 1) (ltr i 2) u k0 k1 k2 k3 k4 k5 k6 k7 k8 v4 (rgts f i) (wrgs f i) 0 0 0 3 := by
  have h := lk_all w os mi wl td fr it (tabF f vt) tr (ltr i 0) (ltr i 1) (ltr i 2) u k0 k1 k2 k3 k4 k5 k6 k7 k8 v4 (nmL 0 (f (vwN i 0))) (nmL 1 (f (vwN i 1))) (nmL 2 (f (vwN i 2))) (tr (vwN i 0)) (tr (vwN i 1)) (tr (vwN i 2))
    (fun z => tabK (vw_key i hi).1.1 (vwK i 0 hi (by decide)).1 (vwK i 0 hi (by decide)).2) (fun z => tabK (vw_key i hi).1.2.1 (vwK i 1 hi (by decide)).1 (vwK i 1 hi (by decide)).2) (fun z => tabK (vw_key i hi).1.2.2 (vwK i 2 hi (by decide)).1 (vwK i 2 hi (by decide)).2)
  rw [kR_nm, kR_nm, kR_nm, kW_nm, kW_nm, kW_nm] at h
  exact h
theorem lkwf (mi wl td fr it : Nat) (f vt tr : Nat → Nat) (i u : Nat) (hi : i < 8) (k0 k1 k2 k3 k4 k5 k6 k7 k8 : Nat) (v4 : Value) : LKf w os mi wl td fr it (tabF f vt) tr (ltr i 0) (ltr i 1) (ltr i 2) u k0 k1 k2 k3 k4 k5 k6 k7 k8 v4 (rgts f i) (wrgs f i) 0 0 := by
  have h := lk_allf w os mi wl td fr it (tabF f vt) tr (ltr i 0) (ltr i 1) (ltr i 2) u k0 k1 k2 k3 k4 k5 k6 k7 k8 v4 (nmL 0 (f (vwN i 0))) (nmL 1 (f (vwN i 1))) (nmL 2 (f (vwN i 2))) (tr (vwN i 0)) (tr (vwN i 1)) (tr (vwN i 2))
    (fun z => tabK (vw_key i hi).1.1 (vwK i 0 hi (by decide)).1 (vwK i 0 hi (by decide)).2) (fun z => tabK (vw_key i hi).1.2.1 (vwK i 1 hi (by decide)).1 (vwK i 1 hi (by decide)).2) (fun z => tabK (vw_key i hi).1.2.2 (vwK i 2 hi (by decide)).1 (vwK i 2 hi (by decide)).2)
  rw [kR_nm, kR_nm, kR_nm, kW_nm, kW_nm, kW_nm] at h
  exact h
noncomputable def cntL (f : Nat → Nat) (t : Nat) : Nat := (upTo (lostB f) t).length
noncomputable def queue (f τ : Nat → Nat) (t m : Nat) : List Value := wl τ (fromW t m ++ upTo (lostB f) t)
theorem queue_step {f τ : Nat → Nat} {t m : Nat} : queue f τ t (m + 1) = sv [ltr t 0, ltr t 1, ltr t 2] (τ t) :: wl τ (fromW (t + 1) m ++ upTo (lostB f) t) := by
  unfold queue fromW
  rw [List.range'_succ]
  rfl
theorem queue_next {f τ : Nat → Nat} {t m : Nat} : (bif lostB f t then wl τ (fromW (t + 1) m ++ upTo (lostB f) t) ++ [sv [ltr t 0, ltr t 1, ltr t 2] (τ t)] else wl τ (fromW (t + 1) m ++ upTo (lostB f) t)) = queue f τ (t + 1) m := by
  unfold queue
  rw [upTo_succ]
  cases lostB f t with
  | true => simp only [cond_true]; rw [← List.append_assoc, wl_app (b := [t])]; rfl
  | false => rfl
theorem cnt_next {f : Nat → Nat} {t n0 : Nat} : (bif lostB f t then n0 + 8 + t + cntL f t + 1 + 1 else n0 + 8 + t + cntL f t + 1) = n0 + 8 + (t + 1) + cntL f (t + 1) := by
  unfold cntL
  rw [upTo_succ]
  cases lostB f t with
  | true => simp only [cond_true, List.length_append, List.length_singleton]; omega
  | false => simp only [cond_false]; omega
theorem queue_len {f τ : Nat → Nat} {t m : Nat} (h : t + m ≤ 20) : (wl τ (fromW (t + 1) m ++ upTo (lostB f) t)).length ≤ 100 := by
  rw [wl_len, List.length_append]
  have := upTo_len (lostB f) t
  unfold fromW
  simp only [List.length_range']
  omega
theorem lost_loop (mi md st pb wla td fr it : Nat) (ln : Value) (ν : Nat → Nat) (f vt tr τ : Nat → Nat) (n0 : Nat) (k0 k1 k2 k3 k4 k5 k6 k7 k8 : Nat) : ∀ m t, t + m = 8 → LT w os mi md st pb wla td fr it ln ν (dcE w (tabL (tabF f vt) tr)) k0 k1 k2 k3 k4 k5 k6 k7 k8 (queue f τ 8 0) (n0 + 8 + 8 + cntL f 8) (queue f τ t m) (n0 + 8 + t + cntL f t) t m
  | 0, t, h => by
    have : t = 8 := by omega
    subst this
    exact fun v3 v4 v5 v6 v7 v8 => lt_endF w os mi md st pb wla td fr it ln ν _ _ _ k0 k1 k2 k3 k4 k5 k6 k7 k8 v3 v4 v5 v6 v7 v8 (Int.ofNat 8)
  | m + 1, t, h => by
    rw [queue_step]
    have ih := lost_loop mi md st pb wla td fr it ln ν f vt tr τ n0 k0 k1 k2 k3 k4 k5 k6 k7 k8 m (t + 1) (t8 h).2
    rw [← queue_next (t := t), ← cnt_next (t := t)] at ih
    exact lt_turn w os mi md st pb wla td fr it ln ν (dcE w (tabL (tabF f vt) tr)) k0 k1 k2 k3 k4 k5 k6 k7 k8 _ _ _ _ t m _ _ _ (τ t) (rgts f t) (wrgs f t) (queue_len (Nat.le_trans (Nat.le_of_eq (Nat.succ.inj h)) (by decide))) (fun it t5 t6 v4 v7 v8 => lkw w os mi wla td fr it f vt tr t (τ t) (t8 h).1 k0 k1 k2 k3 k4 k5 k6 k7 k8 v4 t5 t6 v7 v8) ih
theorem lost_loopf (mi md st pb wla td fr it : Nat) (ln : Value) (ν : Nat → Nat) (f vt tr τ : Nat → Nat) (n0 : Nat) (k0 k1 k2 k3 k4 k5 k6 k7 k8 : Nat) : LTf w os mi md st pb wla td fr it ln ν (dcE w (tabL (tabF f vt) tr)) k0 k1 k2 k3 k4 k5 k6 k7 k8 (queue f τ 8 0) (n0 + 8 + 8 + cntL f 8) (queue f τ 0 8) (n0 + 8) 0 8 := by
  rw [queue_step]
  refine lt_turnf w os mi md st pb wla td fr it ln ν (dcE w (tabL (tabF f vt) tr)) k0 k1 k2 k3 k4 k5 k6 k7 k8 _ _ _ _ 0 7 _ _ _ (τ 0) (rgts f 0) (wrgs f 0) (queue_len (by omega)) (fun it t5 t6 k4 k5 k6 v4 => lkwf w os mi wla td fr it f vt tr 0 (τ 0) (by omega) k0 k1 k2 k3 k4 k5 k6 k7 k8 v4 t5 t6) fun k4' k5' k6' k7' k8' => ?_
  have ih := lost_loop w os mi md st pb wla td fr it ln ν f vt tr τ n0 k0 k1 k2 k3 k4' k5' k6' k7' k8' 7 (0 + 1) (by omega)
  rw [← queue_next (t := 0), ← cnt_next (t := 0)] at ih
  exact ih
theorem lost_while (mi md st pb wl td fr ll : Nat) (ln : Value) (ν : Nat → Nat) (k0 k1 k2 k3 k4 k5 k6 k7 k8 k9 : Nat) (v3 v4 v5 v6 v7 v8 : Value) : ∀ (xs ys : List Value) (n m : Nat), (∀ y ∈ xs, ∃ t u, y = sv t u) → xs.length + ys.length ≤ 100 → CS w os 440 (cL253 w fr) (machIns w mi md pb st ln ν xs n ++ [(fr, fq13 w k0 (.ref mi) k1 (.ref wl) k2 (.ref td) k3 v3 k4 v4 k5 v5 k6 v6 k7 v7 k8 v8 k9 (.ref ll)), (ll, lsO ys m)]) 0 rNx (fun _ => machOut w md pb st ln ν [] (n + xs.length) ++ [fq13 w k0 (.ref mi) k1 (.ref wl) k2 (.ref td) k3 v3 k4 v4 k5 v5 k6 v6 k7 v7 k8 v8 k9 (.ref ll), lsO (ys ++ xs) (m + xs.length)]) oNl
  | [], ys, n, m, h, hl => by
    rw [List.append_nil]
    exact lw_end w os mi md st pb wl td fr ll ln ν n m [] ys (by simp) (by simp at hl; omega) k0 k1 k2 k3 k4 k5 k6 k7 k8 k9 v3 v4 v5 v6 v7 v8 ⟨#[]⟩ 0
  | x :: xs, ys, n, m, h, hl => by
    obtain ⟨s, u, rfl⟩ := h x (List.mem_cons_self ..)
    simp only [List.length_cons] at hl
    have ih := lost_while mi md st pb wl td fr ll ln ν k0 k1 k2 k3 k4 k5 k6 k7 k8 k9 v3 v4 v5 v6 v7 v8 xs (ys ++ [sv s u]) (n + 1) (m + 1) (fun y hy => h y (List.mem_cons_of_mem _ hy)) (by simp only [List.length_append, List.length_singleton]; omega)
    rw [List.append_assoc] at ih
    have e1 : ∀ a, a + (sv s u :: xs).length = a + 1 + xs.length := fun a => by simp only [List.length_cons]; omega
    rw [e1 n, e1 m]
    exact lw_turn w os mi md st pb wl td fr ll ln ν n m xs ys (by omega) (by omega) k0 k1 k2 k3 k4 k5 k6 k7 k8 k9 v3 v4 v5 v6 v7 v8 ⟨s.toArray⟩ u _ _ _ ih
theorem queue_end (f τ : Nat → Nat) : queue f τ 8 0 = wl τ (lostL f) := rfl
noncomputable def lostN (f : Nat → Nat) (n0 : Nat) : Nat := n0 + 8 + 8 + cntL f 8 + (lostL f).length
theorem lost_s (mi md pb st wla td : Nat) (ln : Value) (ν τ : Nat → Nat) (f vt tr : Nat → Nat) (n0 : Nat) : CS w os 430 (.call (.ref 149) ⟨[.ref mi, .ref wla, .ref td], []⟩) (machIns w mi md pb st ln ν [] n0 ++ [(wla, wordsO τ), (td, dcE w (tabL (tabF f vt) tr))]) 1 (fun x => rOk (.ref (x.a 0))) (fun _ => machOut w md pb st ln ν [] (lostN f n0) ++ [wordsO τ, dcE w (tabL (tabF f vt) tr)]) (fun x => [lsO (wl τ (lostL f)) (lostL f).length]) := by
  refine lost_b w os mi md st pb wla td ln ν τ n0 (dcE w (tabL (tabF f vt) tr)) (wl τ (lostL f)) (n0 + 8 + 8 + cntL f 8) (fun it fr k0 k1 k2 k3 v3 => ?_) _ _ fun fr ll k0 k1 k2 k3 k4 k5 k6 k7 k8 k9 v3 v4 v5 v6 v7 v8 => ?_
  · exact lost_loopf w os mi md st pb wla td fr it ln ν f vt tr τ n0 k0 k1 k2 k3 0 0 0 0 0 v3
  · have h := lost_while w os mi md st pb wla td fr ll ln ν k0 k1 k2 k3 k4 k5 k6 k7 k8 k9 v3 v4 v5 v6 v7 v8 (wl τ (lostL f)) [] (n0 + 8 + 8 + cntL f 8) 0 wl_str (by rw [wl_len]; have := upTo_len (lostB f) 8; simp only [List.length_nil]; show (upTo (lostB f) 8).length + 0 ≤ 100; omega)
    rw [wl_len, List.nil_append, Nat.zero_add] at h
    exact h
end
end Mine
end
section
open PySem PySem.Spec PySem.Calls PyProof.Rows PySem.W PySem.W.X
set_option maxRecDepth 100000
set_option linter.unusedVariables false
set_option linter.unusedSimpArgs false
namespace Mine
noncomputable def figs (N j : Nat) : Nat := N / 4 ^ j % 4
theorem beqO (a b : Nat) : (Int.ofNat a == Int.ofNat b) = (a == b) := by
  rw [Bool.eq_iff_iff]
  simp only [beq_iff_eq, Int.ofNat_eq_natCast]
  omega
theorem beqO2 (a g : Nat) (h : g = 0 ∨ g = 1) : (Int.ofNat a == 2 - Int.ofNat g) = (a + g == 2) := by
  rw [Bool.eq_iff_iff]
  simp only [beq_iff_eq, Int.ofNat_eq_natCast]
  omega
theorem vw_lt {i k : Nat} (hi : i < 8) (hk : k < 3) : vwN i k < 12 := (vwK i k hi hk).1
theorem pow_ok {e : Nat} (h : e < 12) : e < 2 ^ 10 ∧ 0 < 4 ^ e ∧ 4 ^ e < 2 ^ 60 := by
  refine ⟨by omega, Nat.pow_pos (by omega), ?_⟩
  exact Nat.lt_of_le_of_lt (Nat.pow_le_pow_right (by omega) (show e ≤ 11 by omega)) (by decide)
theorem fig3 {N W k : Nat} {P : Nat → Nat → Prop}
    (hR : (Int.ofNat (figs N (vwN W k)) == Int.ofNat (1 + bitN W k)) = true → (Int.ofNat (figs N (vwN W k)) == 2 - Int.ofNat (bitN W k)) = false → P 1 0)
    (hQ : (Int.ofNat (figs N (vwN W k)) == Int.ofNat (1 + bitN W k)) = false → (Int.ofNat (figs N (vwN W k)) == 2 - Int.ofNat (bitN W k)) = true → P 0 1)
    (hS : (Int.ofNat (figs N (vwN W k)) == Int.ofNat (1 + bitN W k)) = false → (Int.ofNat (figs N (vwN W k)) == 2 - Int.ofNat (bitN W k)) = false → P 0 0) : P (rgt (figs N) W k) (wrg (figs N) W k) := by
  have hb := bit_cases W k
  unfold rgt wrg
  rw [beqO, beqO2 _ _ hb] at hR hQ hS
  generalize figs N (vwN W k) = g at *
  cases h1 : (g == 1 + bitN W k) with
  | true =>
    have h2 : (g + bitN W k == 2) = false := by
      rw [beq_eq_false_iff_ne]; have := beq_iff_eq.mp h1; omega
    rw [h2]; exact hR h1 h2
  | false =>
    cases h2 : (g + bitN W k == 2) with
    | true => exact hQ h1 h2
    | false => exact hS h1 h2
section
variable (w : World) (os : OsState)
noncomputable def TK (wl fr it tl : Nat) (N z W tw : Nat) (k0 k1 k2 k3 k4 k5 k6 k7 k8 k9 : Nat) (R Q r q : Nat) (i m : Int) : Prop := ∀ (t4 t5 : Nat) (v6 v7 v8 v9 : Value), CS w os 600 (forC w 161 [1, 2] it fr) [(fr, fq16 w k0 (.ref wl) k1 (.int (Int.ofNat N) z) k2 (.ref tl) k3 (.int (Int.ofNat W) tw) k4 (.int (Int.ofNat r) t4) k5 (.int (Int.ofNat q) t5) k6 v6 k7 v7 k8 v8 k9 v9), (it, rgI i m)] 0 rNx (fun x => [fq16 w k0 (.ref wl) k1 (.int (Int.ofNat N) z) k2 (.ref tl) k3 (.int (Int.ofNat W) tw) k4 (.int (Int.ofNat R) (x.a 0)) k5 (.int (Int.ofNat Q) (x.a 1)) k6 (x.v 0) k7 (x.v 1) k8 (x.v 2) k9 (x.v 3), x.o 0]) oNl
noncomputable def TKf (wl fr it tl : Nat) (N z W tw : Nat) (k0 k1 k2 k3 k4 k5 k6 k7 k8 k9 : Nat) (R Q r q : Nat) : Prop := ∀ (t4 t5 : Nat), CS w os 600 (forC w 161 [1, 2] it fr) [(fr, fq17 w k0 (.ref wl) k1 (.int (Int.ofNat N) z) k2 (.ref tl) k3 (.int (Int.ofNat W) tw) k4 (.int (Int.ofNat r) t4) k5 (.int (Int.ofNat q) t5)), (it, rgI 0 3)] 0 rNx (fun x => [fq16 w k0 (.ref wl) k1 (.int (Int.ofNat N) z) k2 (.ref tl) k3 (.int (Int.ofNat W) tw) k4 (.int (Int.ofNat R) (x.a 0)) k5 (.int (Int.ofNat Q) (x.a 1)) (x.a 2) (x.v 0) (x.a 3) (x.v 1) (x.a 4) (x.v 2) (x.a 5) (x.v 3), x.o 0]) oNl
theorem tkj_0 (wl fr it tl : Nat) (N z W tw : Nat) (k0 k1 k2 k3 k4 k5 k6 k7 k8 k9 : Nat) (R Q r q : Nat) (hW : W < 8) (hX : TK w os wl fr it tl N z W tw k0 k1 k2 k3 k4 k5 k6 k7 k8 k9 R Q (r + rgt (figs N) W 0) (q + wrg (figs N) W 0) 1 2) : TK w os wl fr it tl N z W tw k0 k1 k2 k3 k4 k5 k6 k7 k8 k9 R Q r q 0 3 := by
  have hp := pow_ok (vw_lt (i := W) (k := 0) hW (by decide))
  exact fig3 (N := N) (W := W) (k := 0) (P := fun x y => TK w os wl fr it tl N z W tw k0 k1 k2 k3 k4 k5 k6 k7 k8 k9 R Q (r + x) (q + y) 1 2 → TK w os wl fr it tl N z W tw k0 k1 k2 k3 k4 k5 k6 k7 k8 k9 R Q r q 0 3)
    (fun hE hF (hX : TK w os wl fr it tl N z W tw k0 k1 k2 k3 k4 k5 k6 k7 k8 k9 R Q (r + 1) (q + 0) 1 2) => fun t4 t5 v6 v7 v8 v9 => tk_0R w os wl fr it tl N z W tw k0 k1 k2 k3 k4 k5 k6 k7 k8 k9 v6 v7 v8 v9 r q t4 t5 _ _ _ _ _ _ _ _ rfl rfl rfl rfl rfl hp.1 rfl hp.2.1 hp.2.2 rfl rfl hE hF R Q (fun a b v6 v7 v8 v9 => hX a b v6 v7 v8 v9))
    (fun hE hF (hX : TK w os wl fr it tl N z W tw k0 k1 k2 k3 k4 k5 k6 k7 k8 k9 R Q (r + 0) (q + 1) 1 2) => fun t4 t5 v6 v7 v8 v9 => tk_0W w os wl fr it tl N z W tw k0 k1 k2 k3 k4 k5 k6 k7 k8 k9 v6 v7 v8 v9 r q t4 t5 _ _ _ _ _ _ _ _ rfl rfl rfl rfl rfl hp.1 rfl hp.2.1 hp.2.2 rfl rfl hE hF R Q (fun a b v6 v7 v8 v9 => hX a b v6 v7 v8 v9))
    (fun hE hF (hX : TK w os wl fr it tl N z W tw k0 k1 k2 k3 k4 k5 k6 k7 k8 k9 R Q (r + 0) (q + 0) 1 2) => fun t4 t5 v6 v7 v8 v9 => tk_0S w os wl fr it tl N z W tw k0 k1 k2 k3 k4 k5 k6 k7 k8 k9 v6 v7 v8 v9 r q t4 t5 _ _ _ _ _ _ _ _ rfl rfl rfl rfl rfl hp.1 rfl hp.2.1 hp.2.2 rfl rfl hE hF R Q (fun a b v6 v7 v8 v9 => hX a b v6 v7 v8 v9)) hX
theorem tkj_1 (wl fr it tl : Nat) (N z W tw : Nat) (k0 k1 k2 k3 k4 k5 k6 k7 k8 k9 : Nat) (R Q r q : Nat) (hW : W < 8) (hX : TK w os wl fr it tl N z W tw k0 k1 k2 k3 k4 k5 k6 k7 k8 k9 R Q (r + rgt (figs N) W 1) (q + wrg (figs N) W 1) 2 1) : TK w os wl fr it tl N z W tw k0 k1 k2 k3 k4 k5 k6 k7 k8 k9 R Q r q 1 2 := by
  have hp := pow_ok (vw_lt (i := W) (k := 1) hW (by decide))
  exact fig3 (N := N) (W := W) (k := 1) (P := fun x y => TK w os wl fr it tl N z W tw k0 k1 k2 k3 k4 k5 k6 k7 k8 k9 R Q (r + x) (q + y) 2 1 → TK w os wl fr it tl N z W tw k0 k1 k2 k3 k4 k5 k6 k7 k8 k9 R Q r q 1 2)
    (fun hE hF (hX : TK w os wl fr it tl N z W tw k0 k1 k2 k3 k4 k5 k6 k7 k8 k9 R Q (r + 1) (q + 0) 2 1) => fun t4 t5 v6 v7 v8 v9 => tk_1R w os wl fr it tl N z W tw k0 k1 k2 k3 k4 k5 k6 k7 k8 k9 v6 v7 v8 v9 r q t4 t5 _ _ _ _ _ _ _ _ rfl rfl rfl rfl rfl hp.1 rfl hp.2.1 hp.2.2 rfl rfl hE hF R Q (fun a b v6 v7 v8 v9 => hX a b v6 v7 v8 v9))
    (fun hE hF (hX : TK w os wl fr it tl N z W tw k0 k1 k2 k3 k4 k5 k6 k7 k8 k9 R Q (r + 0) (q + 1) 2 1) => fun t4 t5 v6 v7 v8 v9 => tk_1W w os wl fr it tl N z W tw k0 k1 k2 k3 k4 k5 k6 k7 k8 k9 v6 v7 v8 v9 r q t4 t5 _ _ _ _ _ _ _ _ rfl rfl rfl rfl rfl hp.1 rfl hp.2.1 hp.2.2 rfl rfl hE hF R Q (fun a b v6 v7 v8 v9 => hX a b v6 v7 v8 v9))
    (fun hE hF (hX : TK w os wl fr it tl N z W tw k0 k1 k2 k3 k4 k5 k6 k7 k8 k9 R Q (r + 0) (q + 0) 2 1) => fun t4 t5 v6 v7 v8 v9 => tk_1S w os wl fr it tl N z W tw k0 k1 k2 k3 k4 k5 k6 k7 k8 k9 v6 v7 v8 v9 r q t4 t5 _ _ _ _ _ _ _ _ rfl rfl rfl rfl rfl hp.1 rfl hp.2.1 hp.2.2 rfl rfl hE hF R Q (fun a b v6 v7 v8 v9 => hX a b v6 v7 v8 v9)) hX
theorem tkj_2 (wl fr it tl : Nat) (N z W tw : Nat) (k0 k1 k2 k3 k4 k5 k6 k7 k8 k9 : Nat) (R Q r q : Nat) (hW : W < 8) (hX : TK w os wl fr it tl N z W tw k0 k1 k2 k3 k4 k5 k6 k7 k8 k9 R Q (r + rgt (figs N) W 2) (q + wrg (figs N) W 2) 3 0) : TK w os wl fr it tl N z W tw k0 k1 k2 k3 k4 k5 k6 k7 k8 k9 R Q r q 2 1 := by
  have hp := pow_ok (vw_lt (i := W) (k := 2) hW (by decide))
  exact fig3 (N := N) (W := W) (k := 2) (P := fun x y => TK w os wl fr it tl N z W tw k0 k1 k2 k3 k4 k5 k6 k7 k8 k9 R Q (r + x) (q + y) 3 0 → TK w os wl fr it tl N z W tw k0 k1 k2 k3 k4 k5 k6 k7 k8 k9 R Q r q 2 1)
    (fun hE hF (hX : TK w os wl fr it tl N z W tw k0 k1 k2 k3 k4 k5 k6 k7 k8 k9 R Q (r + 1) (q + 0) 3 0) => fun t4 t5 v6 v7 v8 v9 => tk_2R w os wl fr it tl N z W tw k0 k1 k2 k3 k4 k5 k6 k7 k8 k9 v6 v7 v8 v9 r q t4 t5 _ _ _ _ _ _ _ _ rfl rfl rfl rfl rfl hp.1 rfl hp.2.1 hp.2.2 rfl rfl hE hF R Q (fun a b v6 v7 v8 v9 => hX a b v6 v7 v8 v9))
    (fun hE hF (hX : TK w os wl fr it tl N z W tw k0 k1 k2 k3 k4 k5 k6 k7 k8 k9 R Q (r + 0) (q + 1) 3 0) => fun t4 t5 v6 v7 v8 v9 => tk_2W w os wl fr it tl N z W tw k0 k1 k2 k3 k4 k5 k6 k7 k8 k9 v6 v7 v8 v9 r q t4 t5 _ _ _ _ _ _ _ _ rfl rfl rfl rfl rfl hp.1 rfl hp.2.1 hp.2.2 rfl rfl hE hF R Q (fun a b v6 v7 v8 v9 => hX a b v6 v7 v8 v9))
    (fun hE hF (hX : TK w os wl fr it tl N z W tw k0 k1 k2 k3 k4 k5 k6 k7 k8 k9 R Q (r + 0) (q + 0) 3 0) => fun t4 t5 v6 v7 v8 v9 => tk_2S w os wl fr it tl N z W tw k0 k1 k2 k3 k4 k5 k6 k7 k8 k9 v6 v7 v8 v9 r q t4 t5 _ _ _ _ _ _ _ _ rfl rfl rfl rfl rfl hp.1 rfl hp.2.1 hp.2.2 rfl rfl hE hF R Q (fun a b v6 v7 v8 v9 => hX a b v6 v7 v8 v9)) hX
theorem tkj_0f (wl fr it tl : Nat) (N z W tw : Nat) (k0 k1 k2 k3 k4 k5 k6 k7 k8 k9 : Nat) (R Q r q : Nat) (hW : W < 8) (hX : ∀ k6' k7' k8' k9', TK w os wl fr it tl N z W tw k0 k1 k2 k3 k4 k5 k6' k7' k8' k9' R Q (r + rgt (figs N) W 0) (q + wrg (figs N) W 0) 1 2) : TKf w os wl fr it tl N z W tw k0 k1 k2 k3 k4 k5 k6 k7 k8 k9 R Q r q := by
  have hp := pow_ok (vw_lt (i := W) (k := 0) hW (by decide))
  exact fig3 (N := N) (W := W) (k := 0) (P := fun x y => (∀ k6' k7' k8' k9', TK w os wl fr it tl N z W tw k0 k1 k2 k3 k4 k5 k6' k7' k8' k9' R Q (r + x) (q + y) 1 2) → TKf w os wl fr it tl N z W tw k0 k1 k2 k3 k4 k5 k6 k7 k8 k9 R Q r q)
    (fun hE hF (hX : ∀ k6' k7' k8' k9', TK w os wl fr it tl N z W tw k0 k1 k2 k3 k4 k5 k6' k7' k8' k9' R Q (r + 1) (q + 0) 1 2) => fun t4 t5 => tk_0Rf w os wl fr it tl N z W tw k0 k1 k2 k3 k4 k5 k6 k7 k8 k9 .none .none .none .none r q t4 t5 _ _ _ _ _ _ _ _ rfl rfl rfl rfl rfl hp.1 rfl hp.2.1 hp.2.2 rfl rfl hE hF R Q (fun a b v6 v7 v8 v9 k6 k7 k8 k9 => hX k6 k7 k8 k9 a b v6 v7 v8 v9))
    (fun hE hF (hX : ∀ k6' k7' k8' k9', TK w os wl fr it tl N z W tw k0 k1 k2 k3 k4 k5 k6' k7' k8' k9' R Q (r + 0) (q + 1) 1 2) => fun t4 t5 => tk_0Wf w os wl fr it tl N z W tw k0 k1 k2 k3 k4 k5 k6 k7 k8 k9 .none .none .none .none r q t4 t5 _ _ _ _ _ _ _ _ rfl rfl rfl rfl rfl hp.1 rfl hp.2.1 hp.2.2 rfl rfl hE hF R Q (fun a b v6 v7 v8 v9 k6 k7 k8 k9 => hX k6 k7 k8 k9 a b v6 v7 v8 v9))
    (fun hE hF (hX : ∀ k6' k7' k8' k9', TK w os wl fr it tl N z W tw k0 k1 k2 k3 k4 k5 k6' k7' k8' k9' R Q (r + 0) (q + 0) 1 2) => fun t4 t5 => tk_0Sf w os wl fr it tl N z W tw k0 k1 k2 k3 k4 k5 k6 k7 k8 k9 .none .none .none .none r q t4 t5 _ _ _ _ _ _ _ _ rfl rfl rfl rfl rfl hp.1 rfl hp.2.1 hp.2.2 rfl rfl hE hF R Q (fun a b v6 v7 v8 v9 k6 k7 k8 k9 => hX k6 k7 k8 k9 a b v6 v7 v8 v9)) hX
theorem tkj_end (wl fr it tl : Nat) (N z W tw : Nat) (k0 k1 k2 k3 k4 k5 k6 k7 k8 k9 : Nat) (r q : Nat) (i : Int) : TK w os wl fr it tl N z W tw k0 k1 k2 k3 k4 k5 k6 k7 k8 k9 r q r q i 0 := fun t4 t5 v6 v7 v8 v9 => tk_endF w os wl fr it tl N z W tw k0 k1 k2 k3 k4 k5 k6 k7 k8 k9 v6 v7 v8 v9 r q t4 t5 i
theorem tkj_all (wl fr it tl : Nat) (N z W tw : Nat) (k0 k1 k2 k3 k4 k5 k6 k7 k8 k9 : Nat) (hW : W < 8) : TK w os wl fr it tl N z W tw k0 k1 k2 k3 k4 k5 k6 k7 k8 k9 (rgts (figs N) W) (wrgs (figs N) W) 0 0 0 3 :=
  tkj_0 w os wl fr it tl N z W tw k0 k1 k2 k3 k4 k5 k6 k7 k8 k9 _ _ 0 0 hW (tkj_1 w os wl fr it tl N z W tw k0 k1 k2 k3 k4 k5 k6 k7 k8 k9 _ _ _ _ hW (tkj_2 w os wl fr it tl N z W tw k0 k1 k2 k3 k4 k5 k6 k7 k8 k9 _ _ _ _ hW (tkj_end w os wl fr it tl N z W tw k0 k1 k2 k3 k4 k5 k6 k7 k8 k9 _ _ _)))
theorem tkj_allf (wl fr it tl : Nat) (N z W tw : Nat) (k0 k1 k2 k3 k4 k5 k6 k7 k8 k9 : Nat) (hW : W < 8) : TKf w os wl fr it tl N z W tw k0 k1 k2 k3 k4 k5 k6 k7 k8 k9 (rgts (figs N) W) (wrgs (figs N) W) 0 0 :=
  tkj_0f w os wl fr it tl N z W tw k0 k1 k2 k3 k4 k5 k6 k7 k8 k9 _ _ 0 0 hW fun k6' k7' k8' k9' => tkj_1 w os wl fr it tl N z W tw k0 k1 k2 k3 k4 k5 k6' k7' k8' k9' _ _ _ _ hW (tkj_2 w os wl fr it tl N z W tw k0 k1 k2 k3 k4 k5 k6' k7' k8' k9' _ _ _ _ hW (tkj_end w os wl fr it tl N z W tw k0 k1 k2 k3 k4 k5 k6' k7' k8' k9' _ _ _))
noncomputable def TT (wl tl fr it : Nat) (τ : Nat → Nat) (N z k0 k1 k2 k3 k4 k5 k6 k7 k8 k9 : Nat) (out : List Value) (nn : Nat) (xs : List Value) (n t m : Nat) : Prop := ∀ (v3 v4 v5 v6 v7 v8 v9 : Value), CS w os 440 (forC w 161 [1] it fr) [(wl, wordsO τ), (tl, lsO xs n), (fr, fq16 w k0 (.ref wl) k1 (.int (Int.ofNat N) z) k2 (.ref tl) k3 v3 k4 v4 k5 v5 k6 v6 k7 v7 k8 v8 k9 v9), (it, rgI (Int.ofNat t) (Int.ofNat m))] 0 rNx (fun x => [wordsO τ, lsO out nn, fq16 w k0 (.ref wl) k1 (.int (Int.ofNat N) z) k2 (.ref tl) k3 (x.v 0) k4 (x.v 1) k5 (x.v 2) k6 (x.v 3) k7 (x.v 4) k8 (x.v 5) k9 (x.v 6), x.o 0]) oNl
noncomputable def TTf (wl tl fr it : Nat) (τ : Nat → Nat) (N z k0 k1 k2 k3 k4 k5 k6 k7 k8 k9 : Nat) (out : List Value) (nn : Nat) (xs : List Value) (n t m : Nat) : Prop := CS w os 440 (forC w 161 [1] it fr) [(wl, wordsO τ), (tl, lsO xs n), (fr, fq18 w k0 (.ref wl) k1 (.int (Int.ofNat N) z) k2 (.ref tl)), (it, rgI (Int.ofNat t) (Int.ofNat m))] 0 rNx (fun x => [wordsO τ, lsO out nn, fq16 w k0 (.ref wl) k1 (.int (Int.ofNat N) z) k2 (.ref tl) (x.a 0) (x.v 0) (x.a 1) (x.v 1) (x.a 2) (x.v 2) (x.a 3) (x.v 3) (x.a 4) (x.v 4) (x.a 5) (x.v 5) (x.a 6) (x.v 6), x.o 0]) oNl
noncomputable def toldS (p : Nat → Bool) (τ : Nat → Nat) (t : Nat) : List Value := wl τ (upTo p t)
theorem toldS_next {p : Nat → Bool} {τ : Nat → Nat} {t : Nat} : (bif p t then toldS p τ t ++ [sv (wdN t) (τ t)] else toldS p τ t) = toldS p τ (t + 1) := by
  unfold toldS
  rw [upTo_succ]
  cases p t with
  | true => simp only [cond_true]; rw [wl_app]; rfl
  | false => rfl
theorem toldN_next {p : Nat → Bool} {t : Nat} : (bif p t then (upTo p t).length + 1 else (upTo p t).length) = (upTo p (t + 1)).length := by
  rw [upTo_succ]
  cases p t with
  | true => simp
  | false => rfl
theorem toldS_len {p : Nat → Bool} {τ : Nat → Nat} {t : Nat} : (toldS p τ t).length ≤ t := by
  unfold toldS; rw [wl_len]; exact upTo_len p t
theorem words_get (wa t u : Nat) (τ : Nat → Nat) (ht : t < 8) : CS w os 900 (.builtin "list.__getitem__" ⟨[.ref wa, .int (Int.ofNat t) u], []⟩) [(wa, wordsO τ)] 0 (fun _ => rOk (sv (wdN t) (τ t))) (fun _ => [wordsO τ]) oNl := by
  rw [wordsO_wl]
  exact getS (wl_get (by rw [List.getElem?_range ht])) (by omega)
theorem tt_turn (wl tl fr it : Nat) (τ : Nat → Nat) (N z k0 k1 k2 k3 k4 k5 k6 k7 k8 k9 : Nat) (out : List Value) (nn t m : Nat) (ht : t < 8) (p : Nat → Bool) (hp : p = lostB (figs N))
    (hN : TT w os wl tl fr it τ N z k0 k1 k2 k3 k4 k5 k6 k7 k8 k9 out nn (toldS p τ (t + 1)) (upTo p (t + 1)).length (t + 1) m) :
    TT w os wl tl fr it τ N z k0 k1 k2 k3 k4 k5 k6 k7 k8 k9 out nn (toldS p τ t) (upTo p t).length t (m + 1) := by
  subst hp
  rw [← toldS_next, ← toldN_next] at hN
  have hK := fun it t4 t5 tw v6 v7 v8 v9 => tkj_all w os wl fr it tl N z t tw k0 k1 k2 k3 k4 k5 k6 k7 k8 k9 ht t4 t5 v6 v7 v8 v9
  have hx : (toldS (lostB (figs N)) τ t).length ≤ 50 := le_of_8 toldS_len ht (by decide)
  intro v3 v4 v5 v6 v7 v8 v9
  unfold lostB at hN
  generalize rgts (figs N) t = R at hK hN
  generalize wrgs (figs N) t = Q at hK hN
  cases R with
  | zero => exact tt_none w os wl tl fr it τ N z _ _ ⟨(wdN t).toArray⟩ (τ t) hx t m (fun u => words_get w os wl t u τ ht) k0 k1 k2 k3 k4 k5 k6 k7 k8 k9 v3 v4 v5 v6 v7 v8 v9 Q hK out nn hN
  | succ r => cases Q with
    | zero => exact tt_ok w os wl tl fr it τ N z _ _ ⟨(wdN t).toArray⟩ (τ t) hx t m (fun u => words_get w os wl t u τ ht) k0 k1 k2 k3 k4 k5 k6 k7 k8 k9 v3 v4 v5 v6 v7 v8 v9 r hK out nn hN
    | succ q => exact tt_bad w os wl tl fr it τ N z _ _ ⟨(wdN t).toArray⟩ (τ t) hx t m (fun u => words_get w os wl t u τ ht) k0 k1 k2 k3 k4 k5 k6 k7 k8 k9 v3 v4 v5 v6 v7 v8 v9 r q hK out nn hN
theorem tt_turnf (wl tl fr it : Nat) (τ : Nat → Nat) (N z k0 k1 k2 k3 k4 k5 k6 k7 k8 k9 : Nat) (out : List Value) (nn m : Nat) (p : Nat → Bool) (hp : p = lostB (figs N))
    (hN : ∀ k3' k4' k5' k6' k7' k8' k9', TT w os wl tl fr it τ N z k0 k1 k2 k3' k4' k5' k6' k7' k8' k9' out nn (toldS p τ (0 + 1)) (upTo p (0 + 1)).length (0 + 1) m) :
    TTf w os wl tl fr it τ N z k0 k1 k2 k3 k4 k5 k6 k7 k8 k9 out nn (toldS p τ 0) (upTo p 0).length 0 (m + 1) := by
  subst hp
  rw [← toldS_next, ← toldN_next] at hN
  have hK := fun it t4 t5 tw k3 k4 k5 => tkj_allf w os wl fr it tl N z 0 tw k0 k1 k2 k3 k4 k5 k6 k7 k8 k9 (by omega) t4 t5
  have hx : (toldS (lostB (figs N)) τ 0).length ≤ 50 := Nat.le_trans toldS_len (Nat.zero_le _)
  have hB : lostB (figs N) 0 = (rgts (figs N) 0 == 0 || Nat.blt 0 (wrgs (figs N) 0)) := rfl
  rw [hB] at hN
  generalize rgts (figs N) 0 = R at hK hN
  generalize wrgs (figs N) 0 = Q at hK hN
  cases R with
  | zero => exact tt_nonef w os wl tl fr it τ N z _ _ ⟨(wdN 0).toArray⟩ (τ 0) hx 0 m (fun u => words_get w os wl 0 u τ (by omega)) k0 k1 k2 Q hK out nn hN
  | succ r => cases Q with
    | zero => exact tt_okf w os wl tl fr it τ N z _ _ ⟨(wdN 0).toArray⟩ (τ 0) hx 0 m (fun u => words_get w os wl 0 u τ (by omega)) k0 k1 k2 r hK out nn hN
    | succ q => exact tt_badf w os wl tl fr it τ N z _ _ ⟨(wdN 0).toArray⟩ (τ 0) hx 0 m (fun u => words_get w os wl 0 u τ (by omega)) k0 k1 k2 r q hK out nn hN
theorem told_loop (wl tl fr it : Nat) (τ : Nat → Nat) (N z k0 k1 k2 k3 k4 k5 k6 k7 k8 k9 : Nat) (p : Nat → Bool) (hp : p = lostB (figs N)) : ∀ m t, t + m = 8 → TT w os wl tl fr it τ N z k0 k1 k2 k3 k4 k5 k6 k7 k8 k9 (toldS p τ 8) (upTo p 8).length (toldS p τ t) (upTo p t).length t m
  | 0, t, h => by
    have : t = 8 := by omega
    subst this
    exact fun v3 v4 v5 v6 v7 v8 v9 => tt_endF w os wl tl fr it τ N z _ _ k0 k1 k2 k3 k4 k5 k6 k7 k8 k9 v3 v4 v5 v6 v7 v8 v9 (Int.ofNat 8)
  | m + 1, t, h => tt_turn w os wl tl fr it τ N z k0 k1 k2 k3 k4 k5 k6 k7 k8 k9 _ _ t m (t8 h).1 p hp (told_loop wl tl fr it τ N z k0 k1 k2 k3 k4 k5 k6 k7 k8 k9 p hp m (t + 1) (t8 h).2)
theorem told_s (wl : Nat) (τ : Nat → Nat) (N z : Nat) : CS w os 430 (.call (.ref 161) ⟨[.ref wl, .int (Int.ofNat N) z], []⟩) [(wl, wordsO τ)] 1 (fun x => rOk (.ref (x.a 0))) (fun _ => [wordsO τ]) (fun x => [lsO (Mine.wl τ (lostL (figs N))) (lostL (figs N)).length]) :=
  told_b w os wl τ N z _ _ fun it fr tl k0 k1 k2 => tt_turnf w os wl tl fr it τ N z k0 k1 k2 0 0 0 0 0 0 0 _ _ 7 _ rfl fun k3' k4' k5' k6' k7' k8' k9' => told_loop w os wl tl fr it τ N z k0 k1 k2 k3' k4' k5' k6' k7' k8' k9' _ rfl 7 (0 + 1) (by omega)
end
end Mine
end
section
open PySem PySem.Spec PySem.Calls PyProof.Rows PySem.W PySem.W.X
set_option maxRecDepth 100000
set_option linter.unusedVariables false
set_option linter.unusedSimpArgs false
namespace Mine
noncomputable def ham1 (i j k : Nat) : Nat := bif bitN i k == bitN j k then 0 else 1
noncomputable def levR (i j : Nat) : Nat := bif ham1 i j 0 + ham1 i j 1 + ham1 i j 2 == 1 then 1 else 2
noncomputable def near (i j : Nat) : Bool := decide (Int.ofNat (levR i j) ≤ 1)
section
variable (w : World) (os : OsState)
theorem levw (i j : Nat) (hi : i < 8) (hj : j < 8) (h : i ≠ j) : LevC w os (wdN i) (wdN j) (Int.ofNat (levR i j)) :=
  all8 (P := fun i => ∀ j, j < 8 → i ≠ j → LevC w os (wdN i) (wdN j) (Int.ofNat (levR i j)))
    (all8 (fun h => absurd rfl h) (fun _ => lev_p100 w os _ _ _ _ _ _ rfl rfl rfl rfl (sub_65_97 w os)) (fun _ => lev_p010 w os _ _ _ _ _ _ rfl rfl rfl rfl (sub_66_98 w os)) (fun _ => lev_p110 w os _ _ _ _ _ _ rfl rfl rfl rfl (sub_65_97 w os) (sub_65_98 w os) (sub_66_97 w os) (sub_66_98 w os)) (fun _ => lev_p001 w os _ _ _ _ _ _ rfl rfl rfl rfl (sub_67_99 w os)) (fun _ => lev_p101 w os _ _ _ _ _ _ rfl rfl rfl rfl (sub_65_97 w os) (sub_65_98 w os) (sub_65_99 w os) (sub_67_97 w os) (sub_67_98 w os) (sub_67_99 w os) (sub_98_97 w os) (sub_98_98 w os) (sub_98_99 w os)) (fun _ => lev_p011 w os _ _ _ _ _ _ rfl rfl rfl rfl (sub_66_98 w os) (sub_66_99 w os) (sub_67_98 w os) (sub_67_99 w os)) (fun _ => lev_p111 w os _ _ _ _ _ _ rfl rfl rfl rfl (sub_65_97 w os) (sub_65_98 w os) (sub_65_99 w os) (sub_66_97 w os) (sub_66_98 w os) (sub_66_99 w os)))
    (all8 (fun _ => lev_p100 w os _ _ _ _ _ _ rfl rfl rfl rfl (sub_97_65 w os)) (fun h => absurd rfl h) (fun _ => lev_p110 w os _ _ _ _ _ _ rfl rfl rfl rfl (sub_97_65 w os) (sub_97_98 w os) (sub_66_65 w os) (sub_66_98 w os)) (fun _ => lev_p010 w os _ _ _ _ _ _ rfl rfl rfl rfl (sub_66_98 w os)) (fun _ => lev_p101 w os _ _ _ _ _ _ rfl rfl rfl rfl (sub_97_65 w os) (sub_97_98 w os) (sub_97_99 w os) (sub_67_65 w os) (sub_67_98 w os) (sub_67_99 w os) (sub_98_65 w os) (sub_98_98 w os) (sub_98_99 w os)) (fun _ => lev_p001 w os _ _ _ _ _ _ rfl rfl rfl rfl (sub_67_99 w os)) (fun _ => lev_p111 w os _ _ _ _ _ _ rfl rfl rfl rfl (sub_97_65 w os) (sub_97_98 w os) (sub_97_99 w os) (sub_66_65 w os) (sub_66_98 w os) (sub_66_99 w os)) (fun _ => lev_p011 w os _ _ _ _ _ _ rfl rfl rfl rfl (sub_66_98 w os) (sub_66_99 w os) (sub_67_98 w os) (sub_67_99 w os)))
    (all8 (fun _ => lev_p010 w os _ _ _ _ _ _ rfl rfl rfl rfl (sub_98_66 w os)) (fun _ => lev_p110 w os _ _ _ _ _ _ rfl rfl rfl rfl (sub_65_97 w os) (sub_65_66 w os) (sub_98_97 w os) (sub_98_66 w os)) (fun h => absurd rfl h) (fun _ => lev_p100 w os _ _ _ _ _ _ rfl rfl rfl rfl (sub_65_97 w os)) (fun _ => lev_p011 w os _ _ _ _ _ _ rfl rfl rfl rfl (sub_98_66 w os) (sub_98_99 w os) (sub_67_66 w os) (sub_67_99 w os)) (fun _ => lev_p111 w os _ _ _ _ _ _ rfl rfl rfl rfl (sub_65_97 w os) (sub_65_66 w os) (sub_65_99 w os) (sub_98_97 w os) (sub_98_66 w os) (sub_98_99 w os)) (fun _ => lev_p001 w os _ _ _ _ _ _ rfl rfl rfl rfl (sub_67_99 w os)) (fun _ => lev_p101 w os _ _ _ _ _ _ rfl rfl rfl rfl (sub_65_97 w os) (sub_65_66 w os) (sub_65_99 w os) (sub_67_97 w os) (sub_67_66 w os) (sub_67_99 w os) (sub_66_97 w os) (sub_66_66 w os) (sub_66_99 w os)))
    (all8 (fun _ => lev_p110 w os _ _ _ _ _ _ rfl rfl rfl rfl (sub_97_65 w os) (sub_97_66 w os) (sub_98_65 w os) (sub_98_66 w os)) (fun _ => lev_p010 w os _ _ _ _ _ _ rfl rfl rfl rfl (sub_98_66 w os)) (fun _ => lev_p100 w os _ _ _ _ _ _ rfl rfl rfl rfl (sub_97_65 w os)) (fun h => absurd rfl h) (fun _ => lev_p111 w os _ _ _ _ _ _ rfl rfl rfl rfl (sub_97_65 w os) (sub_97_66 w os) (sub_97_99 w os) (sub_98_65 w os) (sub_98_66 w os) (sub_98_99 w os)) (fun _ => lev_p011 w os _ _ _ _ _ _ rfl rfl rfl rfl (sub_98_66 w os) (sub_98_99 w os) (sub_67_66 w os) (sub_67_99 w os)) (fun _ => lev_p101 w os _ _ _ _ _ _ rfl rfl rfl rfl (sub_97_65 w os) (sub_97_66 w os) (sub_97_99 w os) (sub_67_65 w os) (sub_67_66 w os) (sub_67_99 w os) (sub_66_65 w os) (sub_66_66 w os) (sub_66_99 w os)) (fun _ => lev_p001 w os _ _ _ _ _ _ rfl rfl rfl rfl (sub_67_99 w os)))
    (all8 (fun _ => lev_p001 w os _ _ _ _ _ _ rfl rfl rfl rfl (sub_99_67 w os)) (fun _ => lev_p101 w os _ _ _ _ _ _ rfl rfl rfl rfl (sub_65_97 w os) (sub_65_98 w os) (sub_65_67 w os) (sub_99_97 w os) (sub_99_98 w os) (sub_99_67 w os) (sub_98_97 w os) (sub_98_98 w os) (sub_98_67 w os)) (fun _ => lev_p011 w os _ _ _ _ _ _ rfl rfl rfl rfl (sub_66_98 w os) (sub_66_67 w os) (sub_99_98 w os) (sub_99_67 w os)) (fun _ => lev_p111 w os _ _ _ _ _ _ rfl rfl rfl rfl (sub_65_97 w os) (sub_65_98 w os) (sub_65_67 w os) (sub_66_97 w os) (sub_66_98 w os) (sub_66_67 w os)) (fun h => absurd rfl h) (fun _ => lev_p100 w os _ _ _ _ _ _ rfl rfl rfl rfl (sub_65_97 w os)) (fun _ => lev_p010 w os _ _ _ _ _ _ rfl rfl rfl rfl (sub_66_98 w os)) (fun _ => lev_p110 w os _ _ _ _ _ _ rfl rfl rfl rfl (sub_65_97 w os) (sub_65_98 w os) (sub_66_97 w os) (sub_66_98 w os)))
    (all8 (fun _ => lev_p101 w os _ _ _ _ _ _ rfl rfl rfl rfl (sub_97_65 w os) (sub_97_98 w os) (sub_97_67 w os) (sub_99_65 w os) (sub_99_98 w os) (sub_99_67 w os) (sub_98_65 w os) (sub_98_98 w os) (sub_98_67 w os)) (fun _ => lev_p001 w os _ _ _ _ _ _ rfl rfl rfl rfl (sub_99_67 w os)) (fun _ => lev_p111 w os _ _ _ _ _ _ rfl rfl rfl rfl (sub_97_65 w os) (sub_97_98 w os) (sub_97_67 w os) (sub_66_65 w os) (sub_66_98 w os) (sub_66_67 w os)) (fun _ => lev_p011 w os _ _ _ _ _ _ rfl rfl rfl rfl (sub_66_98 w os) (sub_66_67 w os) (sub_99_98 w os) (sub_99_67 w os)) (fun _ => lev_p100 w os _ _ _ _ _ _ rfl rfl rfl rfl (sub_97_65 w os)) (fun h => absurd rfl h) (fun _ => lev_p110 w os _ _ _ _ _ _ rfl rfl rfl rfl (sub_97_65 w os) (sub_97_98 w os) (sub_66_65 w os) (sub_66_98 w os)) (fun _ => lev_p010 w os _ _ _ _ _ _ rfl rfl rfl rfl (sub_66_98 w os)))
    (all8 (fun _ => lev_p011 w os _ _ _ _ _ _ rfl rfl rfl rfl (sub_98_66 w os) (sub_98_67 w os) (sub_99_66 w os) (sub_99_67 w os)) (fun _ => lev_p111 w os _ _ _ _ _ _ rfl rfl rfl rfl (sub_65_97 w os) (sub_65_66 w os) (sub_65_67 w os) (sub_98_97 w os) (sub_98_66 w os) (sub_98_67 w os)) (fun _ => lev_p001 w os _ _ _ _ _ _ rfl rfl rfl rfl (sub_99_67 w os)) (fun _ => lev_p101 w os _ _ _ _ _ _ rfl rfl rfl rfl (sub_65_97 w os) (sub_65_66 w os) (sub_65_67 w os) (sub_99_97 w os) (sub_99_66 w os) (sub_99_67 w os) (sub_66_97 w os) (sub_66_66 w os) (sub_66_67 w os)) (fun _ => lev_p010 w os _ _ _ _ _ _ rfl rfl rfl rfl (sub_98_66 w os)) (fun _ => lev_p110 w os _ _ _ _ _ _ rfl rfl rfl rfl (sub_65_97 w os) (sub_65_66 w os) (sub_98_97 w os) (sub_98_66 w os)) (fun h => absurd rfl h) (fun _ => lev_p100 w os _ _ _ _ _ _ rfl rfl rfl rfl (sub_65_97 w os)))
    (all8 (fun _ => lev_p111 w os _ _ _ _ _ _ rfl rfl rfl rfl (sub_97_65 w os) (sub_97_66 w os) (sub_97_67 w os) (sub_98_65 w os) (sub_98_66 w os) (sub_98_67 w os)) (fun _ => lev_p011 w os _ _ _ _ _ _ rfl rfl rfl rfl (sub_98_66 w os) (sub_98_67 w os) (sub_99_66 w os) (sub_99_67 w os)) (fun _ => lev_p101 w os _ _ _ _ _ _ rfl rfl rfl rfl (sub_97_65 w os) (sub_97_66 w os) (sub_97_67 w os) (sub_99_65 w os) (sub_99_66 w os) (sub_99_67 w os) (sub_66_65 w os) (sub_66_66 w os) (sub_66_67 w os)) (fun _ => lev_p001 w os _ _ _ _ _ _ rfl rfl rfl rfl (sub_99_67 w os)) (fun _ => lev_p110 w os _ _ _ _ _ _ rfl rfl rfl rfl (sub_97_65 w os) (sub_97_66 w os) (sub_98_65 w os) (sub_98_66 w os)) (fun _ => lev_p010 w os _ _ _ _ _ _ rfl rfl rfl rfl (sub_98_66 w os)) (fun _ => lev_p100 w os _ _ _ _ _ _ rfl rfl rfl rfl (sub_97_65 w os)) (fun h => absurd rfl h)) i hi j hj h
theorem wl_any (τ : Nat → Nat) : ∀ (S : List Nat) (i : Nat), (∀ s ∈ S, s < 8) → i < 8 → ((wl τ S).any fun y => match y with
      | .str t _ => t.cps.toList == wdN i
      | _ => false) = S.contains i
  | [], i, h, hi => rfl
  | s :: S, i, h, hi => by
    have ih := wl_any τ S i (fun s hs => h s (List.mem_cons_of_mem _ hs)) hi
    show ((wdN s == wdN i) || (wl τ S).any _) = _
    rw [ih, List.contains_cons]
    congr 1
    rw [Bool.eq_iff_iff]
    simp only [beq_iff_eq]
    exact ⟨fun e => (wdN_inj s (h s (List.mem_cons_self ..)) i hi e).symm, fun e => by rw [e]⟩
theorem wl_in (τ : Nat → Nat) (S : List Nat) (l i u n : Nat) (h : ∀ s ∈ S, s < 8) (hi : i < 8) {b : Bool} (hb : S.contains i = b) : CS w os 900 (.builtin "list.__contains__" ⟨[.ref l, sv (wdN i) u], []⟩) [(l, lsO (wl τ S) n)] 0 (fun _ => rOk (.bool b)) (fun _ => [lsO (wl τ S) n]) oNl :=
  isS wl_str (by rw [← hb]; exact wl_any τ S i h hi)
noncomputable def FC (it ml acc loc fr cw : Nat) (τ : Nat → Nat) (S : List Nat) (nS W tw : Nat) (k0 : Nat) (out : List Value) (nn : Nat) (xs : List Value) (nx i : Nat) : Prop := ∀ (v0 : Value), CS w os 560 (compC w 154 [1, 0, 0] it acc loc fr [(⟨Zad⟩, cw)]) [(it, itO ml i), (ml, lsO (wl τ S) nS), (acc, lsO xs nx), (loc, dq4 w k0 v0), (cw, cellO (sv (wdN W) tw))] 0 rNx (fun x => [x.o 0, lsO (wl τ S) nS, lsO out nn, dq4 w k0 (x.v 0), cellO (sv (wdN W) tw)]) oNl
noncomputable def FCf (it ml acc loc fr cw : Nat) (τ : Nat → Nat) (S : List Nat) (nS W tw : Nat) (k0 : Nat) (out : List Value) (nn : Nat) (xs : List Value) (nx i : Nat) : Prop := CS w os 560 (compC w 154 [1, 0, 0] it acc loc fr [(⟨Zad⟩, cw)]) [(it, itO ml i), (ml, lsO (wl τ S) nS), (acc, lsO xs nx), (loc, dcE w []), (cw, cellO (sv (wdN W) tw))] 0 rNx (fun x => [x.o 0, lsO (wl τ S) nS, lsO out nn, dq4 w (x.a 0) (x.v 0), cellO (sv (wdN W) tw)]) oNl
theorem fc_step (it ml acc loc fr cw : Nat) (τ : Nat → Nat) (S : List Nat) (nS W tw : Nat) (hW : W < 8) (hS : ∀ s ∈ S, s < 8 ∧ s ≠ W) (k0 : Nat) (out : List Value) (nn : Nat) (A : List Nat) (i s : Nat) (hA : A.length ≤ 50) (hs : S[i]? = some s)
    (hX : FC w os it ml acc loc fr cw τ S nS W tw k0 out nn (bif near s W then wl τ (A ++ [s]) else wl τ A) (bif near s W then (A ++ [s]).length else A.length) (i + 1)) : FC w os it ml acc loc fr cw τ S nS W tw k0 out nn (wl τ A) A.length i := by
  intro v0
  have hm := hS s (List.mem_of_getElem? hs)
  have hE := levw w os s W hm.1 hW hm.2
  have hx : (wl τ A).length ≤ 100 := by rw [wl_len]; omega
  cases hr : near s W with
  | true =>
    rw [hr] at hX
    simp only [cond_true, wl_app, List.length_append, List.length_singleton] at hX
    exact fc_T w os it ml acc loc fr cw _ _ nS A.length i _ _ _ (τ s) _ _ _ tw hx k0 v0 (wl_get hs) (levR s W) hE hr out nn hX
  | false =>
    rw [hr] at hX
    simp only [cond_false] at hX
    exact fc_F w os it ml acc loc fr cw _ _ nS A.length i _ _ _ (τ s) _ _ _ tw hx k0 v0 (wl_get hs) (levR s W) hE hr out nn hX
theorem fc_stepf (it ml acc loc fr cw : Nat) (τ : Nat → Nat) (S : List Nat) (nS W tw : Nat) (hW : W < 8) (hS : ∀ s ∈ S, s < 8 ∧ s ≠ W) (k0 : Nat) (out : List Value) (nn : Nat) (A : List Nat) (i s : Nat) (hA : A.length ≤ 50) (hs : S[i]? = some s)
    (hX : ∀ k0, FC w os it ml acc loc fr cw τ S nS W tw k0 out nn (bif near s W then wl τ (A ++ [s]) else wl τ A) (bif near s W then (A ++ [s]).length else A.length) (i + 1)) : FCf w os it ml acc loc fr cw τ S nS W tw k0 out nn (wl τ A) A.length i := by
  have hm := hS s (List.mem_of_getElem? hs)
  have hE := levw w os s W hm.1 hW hm.2
  have hx : (wl τ A).length ≤ 100 := by rw [wl_len]; omega
  cases hr : near s W with
  | true =>
    rw [hr] at hX
    simp only [cond_true, wl_app, List.length_append, List.length_singleton] at hX
    exact fc_Tf w os it ml acc loc fr cw _ _ nS A.length i _ _ _ (τ s) _ _ _ tw hx (wl_get hs) (levR s W) hE hr out nn (fun v0 k0 => hX k0 v0)
  | false =>
    rw [hr] at hX
    simp only [cond_false] at hX
    exact fc_Ff w os it ml acc loc fr cw _ _ nS A.length i _ _ _ (τ s) _ _ _ tw hx (wl_get hs) (levR s W) hE hr out nn (fun v0 k0 => hX k0 v0)
noncomputable def nearL (S : List Nat) (W : Nat) : List Nat := S.filter fun s => near s W
theorem cond_nat {b : Bool} {l m : List Nat} : (bif b then l.length else m.length) = (bif b then l else m).length := by cases b <;> rfl
theorem cond_wl {τ : Nat → Nat} {b : Bool} {l m : List Nat} : (bif b then wl τ l else wl τ m) = wl τ (bif b then l else m) := by cases b <;> rfl
theorem fc_loop (it ml acc loc fr cw : Nat) (τ : Nat → Nat) (S : List Nat) (nS W tw : Nat) (hW : W < 8) (hS : ∀ s ∈ S, s < 8 ∧ s ≠ W) (hl : S.length ≤ 20) (k0 : Nat) : ∀ (rest pre A : List Nat), S = pre ++ rest → A.length ≤ pre.length → FC w os it ml acc loc fr cw τ S nS W tw k0 (wl τ (A ++ nearL rest W)) (A ++ nearL rest W).length (wl τ A) A.length pre.length
  | [], pre, A, e, hA => by
    rw [List.append_nil] at e
    subst e
    show FC w os _ _ _ _ _ _ _ _ _ _ _ k0 (wl τ (A ++ [])) (A ++ []).length _ _ _
    rw [List.append_nil]
    exact fun v0 => fc_end w os it ml acc loc fr cw _ _ nS A.length S.length (sv (wdN W) tw) k0 v0 (by simp [wl])
  | s :: rest, pre, A, e, hA => by
    have hs : S[pre.length]? = some s := by rw [e]; simp
    have hl' : pre.length + (rest.length + 1) ≤ 20 := by rw [e] at hl; simpa using hl
    have ih := fc_loop it ml acc loc fr cw τ S nS W tw hW hS hl k0 rest (pre ++ [s]) (bif near s W then A ++ [s] else A) (by rw [e]; simp) (by cases near s W <;> simp <;> omega)
    have e3 : (pre ++ [s]).length = pre.length + 1 := by simp
    rw [← cond_nat, ← cond_wl, e3] at ih
    refine fc_step w os it ml acc loc fr cw τ S nS W tw hW hS k0 _ _ A pre.length s (by omega) hs ?_
    have e2 : A ++ nearL (s :: rest) W = (bif near s W then A ++ [s] else A) ++ nearL rest W := by
      unfold nearL
      rw [List.filter_cons]
      cases near s W <;> simp
    rw [e2]
    exact ih
theorem fc_all (it ml acc loc fr cw : Nat) (τ : Nat → Nat) (S : List Nat) (nS W tw : Nat) (hW : W < 8) (hS : ∀ s ∈ S, s < 8 ∧ s ≠ W) (hl : S.length ≤ 20) (hne : S ≠ []) : FCf w os it ml acc loc fr cw τ S nS W tw 0 (wl τ (nearL S W)) (nearL S W).length [] 0 0 := by
  match S, hne, hS, hl with
  | s :: rest, _, hS, hl =>
    refine fc_stepf w os it ml acc loc fr cw τ (s :: rest) nS W tw hW hS 0 _ _ [] 0 s (by simp) rfl fun k0 => ?_
    have ih := fc_loop w os it ml acc loc fr cw τ (s :: rest) nS W tw hW hS hl k0 rest [s] (bif near s W then [] ++ [s] else []) rfl (by cases near s W <;> simp)
    rw [← cond_nat, ← cond_wl] at ih
    have e2 : nearL (s :: rest) W = (bif near s W then [] ++ [s] else []) ++ nearL rest W := by
      unfold nearL
      rw [List.filter_cons]
      cases near s W <;> simp
    rw [e2]
    exact ih
noncomputable def farB (S : List Nat) (i : Nat) : Bool := !S.contains i && (nearL S i).isEmpty
noncomputable def farL (S : List Nat) : List Nat := upTo (farB S) 8
noncomputable def FT (wla ml fr it fl cw : Nat) (τ : Nat → Nat) (S : List Nat) (nS k0 k1 k2 : Nat) (out : List Value) (nn : Nat) (co : Option Value) (xs : List Value) (nx i : Nat) : Prop := CS w os 440 (forCC w 154 [1] it fr [(⟨Zad⟩, cw)]) [(wla, wordsO τ), (ml, lsO (wl τ S) nS), (fr, fq3 w k0 (.ref wla) k1 (.ref ml) k2 (.ref fl)), (cw, (⟨.type "cell", none, .cell co, #[]⟩ : Obj)), (fl, lsO xs nx), (it, itO wla i)] 0 rNx (fun x => [wordsO τ, lsO (wl τ S) nS, fq3 w k0 (.ref wla) k1 (.ref ml) k2 (.ref fl), (⟨.type "cell", none, .cell (some (x.v 0)), #[]⟩ : Obj), lsO out nn, x.o 0]) oNl
theorem ft_step (wla ml fr it fl cw : Nat) (τ : Nat → Nat) (S : List Nat) (nS k0 k1 k2 : Nat) (hS : ∀ s ∈ S, s < 8) (hl : S.length ≤ 20) (out : List Value) (nn : Nat) (co : Option Value) (i : Nat) (hi : i < 8) (hN : ∀ v, FT w os wla ml fr it fl cw τ S nS k0 k1 k2 out nn (some v) (toldS (farB S) τ (i + 1)) (upTo (farB S) (i + 1)).length (i + 1)) :
    FT w os wla ml fr it fl cw τ S nS k0 k1 k2 out nn co (toldS (farB S) τ i) (upTo (farB S) i).length i := by
  have hv : (wl τ (List.range 8))[i]? = some (sv (wdN i) (τ i)) := wl_get (by rw [List.getElem?_range hi])
  have hx : (toldS (farB S) τ i).length ≤ 100 := le_of_8 toldS_len hi (by decide)
  have hN := hN (sv (wdN i) (τ i))
  rw [← toldS_next, ← toldN_next] at hN
  cases hc : S.contains i with
  | true =>
    have e : farB S i = false := by unfold farB; rw [hc]; rfl
    rw [e] at hN
    have hI := wl_in w os τ S ml i (τ i) nS hS hi hc
    exact ft_I w os wla ml fr it fl cw _ _ _ 8 nS _ i _ _ _ (τ i) k0 k1 k2 co hv hx hI out nn hN
  | false =>
    have hI := wl_in w os τ S ml i (τ i) nS hS hi hc
    have hS' : ∀ s ∈ S, s < 8 ∧ s ≠ i := by
      intro s hs
      refine ⟨hS s hs, ?_⟩
      rintro rfl
      rw [List.contains_iff_mem.mpr hs] at hc
      cases hc
    cases hq : nearL S i with
    | nil =>
      have e : farB S i = true := by unfold farB; rw [hc, hq]; rfl
      rw [e] at hN
      by_cases hne : S = []
      · subst hne
        have hC : ∀ (it acc loc : Nat), CS w os 560 (compC w 154 [1, 0, 0] it acc loc fr [(⟨Zad⟩, cw)]) [(it, itO ml 0), (ml, lsO (wl τ []) nS), (acc, lsO [] 0), (loc, dcE w []), (cw, cellO (sv (wdN i) (τ i)))] 0 rNx (fun x => [x.o 0, lsO (wl τ []) nS, lsO [] 0, dcE w [], cellO (sv (wdN i) (τ i))]) oNl :=
          fun it acc loc => fc_endf w os it ml acc loc fr cw [] [] nS 0 0 (sv (wdN i) (τ i)) rfl
        exact ft_E w os wla ml fr it fl cw _ _ _ 8 nS _ i _ _ _ (τ i) k0 k1 k2 co hv hx hI 0 hC out nn hN
      · have hC := fun it acc loc => fc_all w os it ml acc loc fr cw τ S nS i (τ i) hi hS' hl hne
        rw [hq] at hC
        exact ft_A w os wla ml fr it fl cw _ _ _ 8 nS _ i _ _ _ (τ i) k0 k1 k2 co hv hx hI 0 hC out nn hN
    | cons y ys =>
      have e : farB S i = false := by unfold farB; rw [hc, hq]; rfl
      rw [e] at hN
      have hne : S ≠ [] := by rintro rfl; cases hq
      have hC := fun it acc loc => fc_all w os it ml acc loc fr cw τ S nS i (τ i) hi hS' hl hne
      rw [hq] at hC
      exact ft_S w os wla ml fr it fl cw _ _ _ 8 nS _ i _ _ _ (τ i) k0 k1 k2 co hv hx hI (sv (wdN y) (τ y)) (wl τ ys) _ hC out nn hN
theorem far_loop (wla ml fr it fl cw : Nat) (τ : Nat → Nat) (S : List Nat) (nS k0 k1 k2 : Nat) (hS : ∀ s ∈ S, s < 8) (hl : S.length ≤ 20) : ∀ m i, i + m = 8 → ∀ v, FT w os wla ml fr it fl cw τ S nS k0 k1 k2 (toldS (farB S) τ 8) (upTo (farB S) 8).length (some v) (toldS (farB S) τ i) (upTo (farB S) i).length i
  | 0, i, h, v => by
    have : i = 8 := by omega
    subst this
    exact ft_end w os wla ml fr it fl cw _ _ _ 8 nS _ 8 k0 k1 k2 v (by rfl)
  | m + 1, i, h, v => ft_step w os wla ml fr it fl cw τ S nS k0 k1 k2 hS hl _ _ (some v) i (t8 h).1 (far_loop wla ml fr it fl cw τ S nS k0 k1 k2 hS hl m (i + 1) (t8 h).2)
theorem far_s (wla ml : Nat) (τ : Nat → Nat) (S : List Nat) (nS : Nat) (hS : ∀ s ∈ S, s < 8) (hl : S.length ≤ 20) : CS w os 430 (.call (.ref 154) ⟨[.ref wla, .ref ml], []⟩) [(wla, wordsO τ), (ml, lsO (wl τ S) nS)] 1 (fun x => rOk (.ref (x.a 0))) (fun _ => [wordsO τ, lsO (wl τ S) nS]) (fun x => [lsO (wl τ (farL S)) (farL S).length]) :=
  far_b w os wla ml _ _ 8 nS _ _ fun it fr fl cw k0 k1 k2 => ft_step w os wla ml fr it fl cw τ S nS k0 k1 k2 hS hl _ _ none 0 (by omega) (far_loop w os wla ml fr it fl cw τ S nS k0 k1 k2 hS hl 7 (0 + 1) (by omega))
end
end Mine
end
section
open PySem PySem.Spec PySem.Calls PyProof.Rows PySem.W PySem.W.X
set_option maxRecDepth 100000
set_option linter.unusedVariables false
set_option linter.unusedSimpArgs false
namespace Mine
section
variable {w : World} {os : OsState} {KK : Nat → Option Obj} {d : Nat}
theorem swS {s t : Str} {u v : Nat} {b : Bool} (h : (decide (0 + t.length ≤ s.length) && Builtin.Str.subAt s t 0) = b) : CSpec w KK os d (.builtin "str.startswith" ⟨[.str s u, .str t v], []⟩) [] 0 (fun _ => rOk (.bool b)) oNl oNl := by
  subst h
  exact CSpec.gval F.entry_str_startswith (by decide +kernel) (gives_str_startswith s t u v)
theorem ewS {s t : Str} {u v : Nat} {b : Bool} (h : (decide (0 + t.length ≤ s.length) && Builtin.Str.subAt s t (s.length - t.length)) = b) : CSpec w KK os d (.builtin "str.endswith" ⟨[.str s u, .str t v], []⟩) [] 0 (fun _ => rOk (.bool b)) oNl oNl := by
  subst h
  exact CSpec.gval F.entry_str_endswith (by decide +kernel) (gives_str_endswith s t u v)
end
noncomputable def mtch (j i : Nat) : Bool := othN i (j / 4) == j % 4
section
variable (w : World) (os : OsState)
noncomputable abbrev ElC (w : World) (os : OsState) (j i : Nat) : Prop := ∀ u v, CS w os 700 (.call (.ref 50) ⟨[sv (vwS j) u, sv (wdN i) v], []⟩) [] 0 (fun _ => rOk (.bool (mtch j i))) oNl oNl
theorem eld_0 : ∀ i < 8, (decide (0 + (⟨#[98, 99]⟩ : Str).length ≤ (⟨(wdN i).toArray⟩ : Str).length) && Builtin.Str.subAt (⟨(wdN i).toArray⟩ : Str) ⟨#[98, 99]⟩ ((⟨(wdN i).toArray⟩ : Str).length - (⟨#[98, 99]⟩ : Str).length)) = mtch 0 i := by decide
theorem elw_0 (i : Nat) (hi : i < 8) : ElC w os 0 i := fun u v => by
  have h := eld_0 i hi
  cases hm : mtch 0 i with
  | true => rw [hm] at h; exact el_0T w os _ _ _ u v (fun _ _ => ewS h)
  | false => rw [hm] at h; exact el_0F w os _ _ _ u v (fun _ _ => ewS h)
theorem eld_1 : ∀ i < 8, (decide (0 + (⟨#[66, 99]⟩ : Str).length ≤ (⟨(wdN i).toArray⟩ : Str).length) && Builtin.Str.subAt (⟨(wdN i).toArray⟩ : Str) ⟨#[66, 99]⟩ ((⟨(wdN i).toArray⟩ : Str).length - (⟨#[66, 99]⟩ : Str).length)) = mtch 1 i := by decide
theorem elw_1 (i : Nat) (hi : i < 8) : ElC w os 1 i := fun u v => by
  have h := eld_1 i hi
  cases hm : mtch 1 i with
  | true => rw [hm] at h; exact el_1T w os _ _ _ u v (fun _ _ => ewS h)
  | false => rw [hm] at h; exact el_1F w os _ _ _ u v (fun _ _ => ewS h)
theorem eld_2 : ∀ i < 8, (decide (0 + (⟨#[98, 67]⟩ : Str).length ≤ (⟨(wdN i).toArray⟩ : Str).length) && Builtin.Str.subAt (⟨(wdN i).toArray⟩ : Str) ⟨#[98, 67]⟩ ((⟨(wdN i).toArray⟩ : Str).length - (⟨#[98, 67]⟩ : Str).length)) = mtch 2 i := by decide
theorem elw_2 (i : Nat) (hi : i < 8) : ElC w os 2 i := fun u v => by
  have h := eld_2 i hi
  cases hm : mtch 2 i with
  | true => rw [hm] at h; exact el_2T w os _ _ _ u v (fun _ _ => ewS h)
  | false => rw [hm] at h; exact el_2F w os _ _ _ u v (fun _ _ => ewS h)
theorem eld_3 : ∀ i < 8, (decide (0 + (⟨#[66, 67]⟩ : Str).length ≤ (⟨(wdN i).toArray⟩ : Str).length) && Builtin.Str.subAt (⟨(wdN i).toArray⟩ : Str) ⟨#[66, 67]⟩ ((⟨(wdN i).toArray⟩ : Str).length - (⟨#[66, 67]⟩ : Str).length)) = mtch 3 i := by decide
theorem elw_3 (i : Nat) (hi : i < 8) : ElC w os 3 i := fun u v => by
  have h := eld_3 i hi
  cases hm : mtch 3 i with
  | true => rw [hm] at h; exact el_3T w os _ _ _ u v (fun _ _ => ewS h)
  | false => rw [hm] at h; exact el_3F w os _ _ _ u v (fun _ _ => ewS h)
theorem eld_4 : ∀ i < 8, ((decide (0 + (⟨#[97]⟩ : Str).length ≤ (⟨(wdN i).toArray⟩ : Str).length) && Builtin.Str.subAt (⟨(wdN i).toArray⟩ : Str) ⟨#[97]⟩ 0) && (decide (0 + (⟨#[99]⟩ : Str).length ≤ (⟨(wdN i).toArray⟩ : Str).length) && Builtin.Str.subAt (⟨(wdN i).toArray⟩ : Str) ⟨#[99]⟩ ((⟨(wdN i).toArray⟩ : Str).length - (⟨#[99]⟩ : Str).length))) = mtch 4 i := by decide
theorem elw_4 (i : Nat) (hi : i < 8) : ElC w os 4 i := fun u v => by
  have h := eld_4 i hi
  rw [← h]
  cases h1 : (decide (0 + (⟨#[97]⟩ : Str).length ≤ (⟨(wdN i).toArray⟩ : Str).length) && Builtin.Str.subAt (⟨(wdN i).toArray⟩ : Str) ⟨#[97]⟩ 0) with
  | false => exact el_4F w os _ _ _ u v (fun _ _ => swS h1)
  | true =>
    cases h2 : (decide (0 + (⟨#[99]⟩ : Str).length ≤ (⟨(wdN i).toArray⟩ : Str).length) && Builtin.Str.subAt (⟨(wdN i).toArray⟩ : Str) ⟨#[99]⟩ ((⟨(wdN i).toArray⟩ : Str).length - (⟨#[99]⟩ : Str).length)) with
    | true => exact el_4TT w os _ _ _ u v (fun _ _ => swS h1) (fun _ _ => ewS h2)
    | false => exact el_4TF w os _ _ _ u v (fun _ _ => swS h1) (fun _ _ => ewS h2)
theorem eld_5 : ∀ i < 8, ((decide (0 + (⟨#[65]⟩ : Str).length ≤ (⟨(wdN i).toArray⟩ : Str).length) && Builtin.Str.subAt (⟨(wdN i).toArray⟩ : Str) ⟨#[65]⟩ 0) && (decide (0 + (⟨#[99]⟩ : Str).length ≤ (⟨(wdN i).toArray⟩ : Str).length) && Builtin.Str.subAt (⟨(wdN i).toArray⟩ : Str) ⟨#[99]⟩ ((⟨(wdN i).toArray⟩ : Str).length - (⟨#[99]⟩ : Str).length))) = mtch 5 i := by decide
theorem elw_5 (i : Nat) (hi : i < 8) : ElC w os 5 i := fun u v => by
  have h := eld_5 i hi
  rw [← h]
  cases h1 : (decide (0 + (⟨#[65]⟩ : Str).length ≤ (⟨(wdN i).toArray⟩ : Str).length) && Builtin.Str.subAt (⟨(wdN i).toArray⟩ : Str) ⟨#[65]⟩ 0) with
  | false => exact el_5F w os _ _ _ u v (fun _ _ => swS h1)
  | true =>
    cases h2 : (decide (0 + (⟨#[99]⟩ : Str).length ≤ (⟨(wdN i).toArray⟩ : Str).length) && Builtin.Str.subAt (⟨(wdN i).toArray⟩ : Str) ⟨#[99]⟩ ((⟨(wdN i).toArray⟩ : Str).length - (⟨#[99]⟩ : Str).length)) with
    | true => exact el_5TT w os _ _ _ u v (fun _ _ => swS h1) (fun _ _ => ewS h2)
    | false => exact el_5TF w os _ _ _ u v (fun _ _ => swS h1) (fun _ _ => ewS h2)
theorem eld_6 : ∀ i < 8, ((decide (0 + (⟨#[97]⟩ : Str).length ≤ (⟨(wdN i).toArray⟩ : Str).length) && Builtin.Str.subAt (⟨(wdN i).toArray⟩ : Str) ⟨#[97]⟩ 0) && (decide (0 + (⟨#[67]⟩ : Str).length ≤ (⟨(wdN i).toArray⟩ : Str).length) && Builtin.Str.subAt (⟨(wdN i).toArray⟩ : Str) ⟨#[67]⟩ ((⟨(wdN i).toArray⟩ : Str).length - (⟨#[67]⟩ : Str).length))) = mtch 6 i := by decide
theorem elw_6 (i : Nat) (hi : i < 8) : ElC w os 6 i := fun u v => by
  have h := eld_6 i hi
  rw [← h]
  cases h1 : (decide (0 + (⟨#[97]⟩ : Str).length ≤ (⟨(wdN i).toArray⟩ : Str).length) && Builtin.Str.subAt (⟨(wdN i).toArray⟩ : Str) ⟨#[97]⟩ 0) with
  | false => exact el_6F w os _ _ _ u v (fun _ _ => swS h1)
  | true =>
    cases h2 : (decide (0 + (⟨#[67]⟩ : Str).length ≤ (⟨(wdN i).toArray⟩ : Str).length) && Builtin.Str.subAt (⟨(wdN i).toArray⟩ : Str) ⟨#[67]⟩ ((⟨(wdN i).toArray⟩ : Str).length - (⟨#[67]⟩ : Str).length)) with
    | true => exact el_6TT w os _ _ _ u v (fun _ _ => swS h1) (fun _ _ => ewS h2)
    | false => exact el_6TF w os _ _ _ u v (fun _ _ => swS h1) (fun _ _ => ewS h2)
theorem eld_7 : ∀ i < 8, ((decide (0 + (⟨#[65]⟩ : Str).length ≤ (⟨(wdN i).toArray⟩ : Str).length) && Builtin.Str.subAt (⟨(wdN i).toArray⟩ : Str) ⟨#[65]⟩ 0) && (decide (0 + (⟨#[67]⟩ : Str).length ≤ (⟨(wdN i).toArray⟩ : Str).length) && Builtin.Str.subAt (⟨(wdN i).toArray⟩ : Str) ⟨#[67]⟩ ((⟨(wdN i).toArray⟩ : Str).length - (⟨#[67]⟩ : Str).length))) = mtch 7 i := by decide
theorem elw_7 (i : Nat) (hi : i < 8) : ElC w os 7 i := fun u v => by
  have h := eld_7 i hi
  rw [← h]
  cases h1 : (decide (0 + (⟨#[65]⟩ : Str).length ≤ (⟨(wdN i).toArray⟩ : Str).length) && Builtin.Str.subAt (⟨(wdN i).toArray⟩ : Str) ⟨#[65]⟩ 0) with
  | false => exact el_7F w os _ _ _ u v (fun _ _ => swS h1)
  | true =>
    cases h2 : (decide (0 + (⟨#[67]⟩ : Str).length ≤ (⟨(wdN i).toArray⟩ : Str).length) && Builtin.Str.subAt (⟨(wdN i).toArray⟩ : Str) ⟨#[67]⟩ ((⟨(wdN i).toArray⟩ : Str).length - (⟨#[67]⟩ : Str).length)) with
    | true => exact el_7TT w os _ _ _ u v (fun _ _ => swS h1) (fun _ _ => ewS h2)
    | false => exact el_7TF w os _ _ _ u v (fun _ _ => swS h1) (fun _ _ => ewS h2)
theorem eld_8 : ∀ i < 8, (decide (0 + (⟨#[97, 98]⟩ : Str).length ≤ (⟨(wdN i).toArray⟩ : Str).length) && Builtin.Str.subAt (⟨(wdN i).toArray⟩ : Str) ⟨#[97, 98]⟩ 0) = mtch 8 i := by decide
theorem elw_8 (i : Nat) (hi : i < 8) : ElC w os 8 i := fun u v => by
  have h := eld_8 i hi
  cases hm : mtch 8 i with
  | true => rw [hm] at h; exact el_8T w os _ _ _ u v (fun _ _ => swS h)
  | false => rw [hm] at h; exact el_8F w os _ _ _ u v (fun _ _ => swS h)
theorem eld_9 : ∀ i < 8, (decide (0 + (⟨#[65, 98]⟩ : Str).length ≤ (⟨(wdN i).toArray⟩ : Str).length) && Builtin.Str.subAt (⟨(wdN i).toArray⟩ : Str) ⟨#[65, 98]⟩ 0) = mtch 9 i := by decide
theorem elw_9 (i : Nat) (hi : i < 8) : ElC w os 9 i := fun u v => by
  have h := eld_9 i hi
  cases hm : mtch 9 i with
  | true => rw [hm] at h; exact el_9T w os _ _ _ u v (fun _ _ => swS h)
  | false => rw [hm] at h; exact el_9F w os _ _ _ u v (fun _ _ => swS h)
theorem eld_10 : ∀ i < 8, (decide (0 + (⟨#[97, 66]⟩ : Str).length ≤ (⟨(wdN i).toArray⟩ : Str).length) && Builtin.Str.subAt (⟨(wdN i).toArray⟩ : Str) ⟨#[97, 66]⟩ 0) = mtch 10 i := by decide
theorem elw_10 (i : Nat) (hi : i < 8) : ElC w os 10 i := fun u v => by
  have h := eld_10 i hi
  cases hm : mtch 10 i with
  | true => rw [hm] at h; exact el_10T w os _ _ _ u v (fun _ _ => swS h)
  | false => rw [hm] at h; exact el_10F w os _ _ _ u v (fun _ _ => swS h)
theorem eld_11 : ∀ i < 8, (decide (0 + (⟨#[65, 66]⟩ : Str).length ≤ (⟨(wdN i).toArray⟩ : Str).length) && Builtin.Str.subAt (⟨(wdN i).toArray⟩ : Str) ⟨#[65, 66]⟩ 0) = mtch 11 i := by decide
theorem elw_11 (i : Nat) (hi : i < 8) : ElC w os 11 i := fun u v => by
  have h := eld_11 i hi
  cases hm : mtch 11 i with
  | true => rw [hm] at h; exact el_11T w os _ _ _ u v (fun _ _ => swS h)
  | false => rw [hm] at h; exact el_11F w os _ _ _ u v (fun _ _ => swS h)
theorem elw (j i : Nat) (hj : j < 12) (hi : i < 8) : ElC w os j i :=
  all12 (P := fun j => ∀ i, i < 8 → ElC w os j i) (elw_0 w os) (elw_1 w os) (elw_2 w os) (elw_3 w os) (elw_4 w os) (elw_5 w os) (elw_6 w os) (elw_7 w os) (elw_8 w os) (elw_9 w os) (elw_10 w os) (elw_11 w os) j hj i hi
end
end Mine
end
section
open PySem PySem.Spec PySem.Calls PyProof.Rows PySem.W PySem.W.X
set_option maxRecDepth 100000
set_option linter.unusedVariables false
set_option linter.unusedSimpArgs false
namespace Mine
noncomputable def madeF (S : List Nat) (j : Nat) : Nat := match S.filter (mtch j) with
  | [i] => bif bitN i (j / 4) == 0 then 2 else 1
  | _ => 0
theorem nb1 {a b : Nat} (h : a ≠ b) : ([a] == [b]) = false := by rw [beq_eq_false_iff_ne]; simpa using h
section
variable (w : World) (os : OsState)
noncomputable def MQ (it ml acc loc fr ck cv : Nat) (τ : Nat → Nat) (S : List Nat) (nS kk tk : Nat) (V : List Nat) (tv : Nat) (k0 : Nat) (co : List (List Nat)) (nn : Nat) (cs : List (List Nat)) (nx i : Nat) : Prop := ∀ (v0 : Value) (tka : Nat → Nat), CS w os 560 (compC w 142 [1, 0] it acc loc fr [(⟨Zaa⟩, cv), (⟨#[107]⟩, ck)]) [(it, itO ml i), (ml, lsO (wl τ S) nS), (acc, lsO (stL cs tka) nx), (loc, dq11 w k0 v0), (ck, cellO (.int (Int.ofNat kk) tk)), (cv, cellO (sv V tv))] 0 rNx (fun x => [x.o 0, lsO (wl τ S) nS, lsO (stL co (fun j => x.a (j + 3))) nn, dq11 w k0 (x.v 0), cellO (.int (Int.ofNat kk) tk), cellO (sv V tv)]) oNl
noncomputable def MQf (it ml acc loc fr ck cv : Nat) (τ : Nat → Nat) (S : List Nat) (nS kk tk : Nat) (V : List Nat) (tv : Nat) (co : List (List Nat)) (nn : Nat) (cs : List (List Nat)) (nx i : Nat) : Prop := ∀ (tka : Nat → Nat), CS w os 560 (compC w 142 [1, 0] it acc loc fr [(⟨Zaa⟩, cv), (⟨#[107]⟩, ck)]) [(it, itO ml i), (ml, lsO (wl τ S) nS), (acc, lsO (stL cs tka) nx), (loc, dcE w []), (ck, cellO (.int (Int.ofNat kk) tk)), (cv, cellO (sv V tv))] 0 rNx (fun x => [x.o 0, lsO (wl τ S) nS, lsO (stL co (fun j => x.a (j + 3))) nn, dq11 w (x.a 0) (x.v 0), cellO (.int (Int.ofNat kk) tk), cellO (sv V tv)]) oNl
theorem mq_step (it ml acc loc fr ck cv : Nat) (τ : Nat → Nat) (S : List Nat) (nS kk tk : Nat) (V : List Nat) (tv : Nat) (hk : kk < 3) (k0 : Nat) (co : List (List Nat)) (nn : Nat) (cs : List (List Nat)) (nx i s : Nat) (b : Bool) (hx : cs.length ≤ 100) (hs : S[i]? = some s) (hE : ∀ u, CS w os 700 (.call (.ref 50) ⟨[sv V tv, sv (wdN s) u], []⟩) [] 0 (fun _ => rOk (.bool b)) oNl oNl)
    (hX : MQ w os it ml acc loc fr ck cv τ S nS kk tk V tv k0 co nn (bif b then cs ++ [[ltr s kk]] else cs) (bif b then nx + 1 else nx) (i + 1)) : MQ w os it ml acc loc fr ck cv τ S nS kk tk V tv k0 co nn cs nx i := by
  intro v0 tka
  rcases (show kk = 0 ∨ kk = 1 ∨ kk = 2 by omega) with rfl | rfl | rfl
  · cases b with
    | true => exact mc_0T w os it ml acc loc fr ck cv (wl τ S) cs tka nS nx i V _ _ _ (τ s) tk tv hx k0 v0 (wl_get hs) (hE _) co nn hX
    | false => exact mc_0F w os it ml acc loc fr ck cv (wl τ S) cs tka nS nx i V _ _ _ (τ s) tk tv hx k0 v0 (wl_get hs) (hE _) co nn (fun v0 => hX v0 tka)
  · cases b with
    | true => exact mc_1T w os it ml acc loc fr ck cv (wl τ S) cs tka nS nx i V _ _ _ (τ s) tk tv hx k0 v0 (wl_get hs) (hE _) co nn hX
    | false => exact mc_1F w os it ml acc loc fr ck cv (wl τ S) cs tka nS nx i V _ _ _ (τ s) tk tv hx k0 v0 (wl_get hs) (hE _) co nn (fun v0 => hX v0 tka)
  · cases b with
    | true => exact mc_2T w os it ml acc loc fr ck cv (wl τ S) cs tka nS nx i V _ _ _ (τ s) tk tv hx k0 v0 (wl_get hs) (hE _) co nn hX
    | false => exact mc_2F w os it ml acc loc fr ck cv (wl τ S) cs tka nS nx i V _ _ _ (τ s) tk tv hx k0 v0 (wl_get hs) (hE _) co nn (fun v0 => hX v0 tka)
theorem mq_stepf (it ml acc loc fr ck cv : Nat) (τ : Nat → Nat) (S : List Nat) (nS kk tk : Nat) (V : List Nat) (tv : Nat) (hk : kk < 3) (co : List (List Nat)) (nn : Nat) (cs : List (List Nat)) (nx i s : Nat) (b : Bool) (hx : cs.length ≤ 100) (hs : S[i]? = some s) (hE : ∀ u, CS w os 700 (.call (.ref 50) ⟨[sv V tv, sv (wdN s) u], []⟩) [] 0 (fun _ => rOk (.bool b)) oNl oNl)
    (hX : ∀ k0, MQ w os it ml acc loc fr ck cv τ S nS kk tk V tv k0 co nn (bif b then cs ++ [[ltr s kk]] else cs) (bif b then nx + 1 else nx) (i + 1)) : MQf w os it ml acc loc fr ck cv τ S nS kk tk V tv co nn cs nx i := by
  intro tka
  rcases (show kk = 0 ∨ kk = 1 ∨ kk = 2 by omega) with rfl | rfl | rfl
  · cases b with
    | true => exact mc_0Tf w os it ml acc loc fr ck cv (wl τ S) cs tka nS nx i V _ _ _ (τ s) tk tv hx (wl_get hs) (hE _) co nn (fun v0 tka k0 => hX k0 v0 tka)
    | false => exact mc_0Ff w os it ml acc loc fr ck cv (wl τ S) cs tka nS nx i V _ _ _ (τ s) tk tv hx (wl_get hs) (hE _) co nn (fun v0 k0 => hX k0 v0 tka)
  · cases b with
    | true => exact mc_1Tf w os it ml acc loc fr ck cv (wl τ S) cs tka nS nx i V _ _ _ (τ s) tk tv hx (wl_get hs) (hE _) co nn (fun v0 tka k0 => hX k0 v0 tka)
    | false => exact mc_1Ff w os it ml acc loc fr ck cv (wl τ S) cs tka nS nx i V _ _ _ (τ s) tk tv hx (wl_get hs) (hE _) co nn (fun v0 k0 => hX k0 v0 tka)
  · cases b with
    | true => exact mc_2Tf w os it ml acc loc fr ck cv (wl τ S) cs tka nS nx i V _ _ _ (τ s) tk tv hx (wl_get hs) (hE _) co nn (fun v0 tka k0 => hX k0 v0 tka)
    | false => exact mc_2Ff w os it ml acc loc fr ck cv (wl τ S) cs tka nS nx i V _ _ _ (τ s) tk tv hx (wl_get hs) (hE _) co nn (fun v0 k0 => hX k0 v0 tka)
noncomputable def thereL (p : Nat → Bool) (kk : Nat) (S : List Nat) : List (List Nat) := (S.filter p).map fun i => [ltr i kk]
theorem there_cons {p : Nat → Bool} {kk s : Nat} {S : List Nat} {A : List (List Nat)} : A ++ thereL p kk (s :: S) = (bif p s then A ++ [[ltr s kk]] else A) ++ thereL p kk S := by
  unfold thereL
  rw [List.filter_cons]
  cases p s <;> simp
theorem cond_len1 {b : Bool} {A : List (List Nat)} {c : List Nat} : (bif b then A.length + 1 else A.length) = (bif b then A ++ [c] else A).length := by cases b <;> simp
theorem mq_loop (it ml acc loc fr ck cv : Nat) (τ : Nat → Nat) (S : List Nat) (nS kk tk : Nat) (V : List Nat) (tv : Nat) (hk : kk < 3) (p : Nat → Bool) (hE : ∀ s ∈ S, ∀ u, CS w os 700 (.call (.ref 50) ⟨[sv V tv, sv (wdN s) u], []⟩) [] 0 (fun _ => rOk (.bool (p s))) oNl oNl) (hl : S.length ≤ 20) (k0 : Nat) :
    ∀ (rest pre : List Nat) (A : List (List Nat)), S = pre ++ rest → A.length ≤ pre.length → MQ w os it ml acc loc fr ck cv τ S nS kk tk V tv k0 (A ++ thereL p kk rest) (A ++ thereL p kk rest).length A A.length pre.length
  | [], pre, A, e, hA => by
    rw [List.append_nil] at e
    subst e
    show MQ w os _ _ _ _ _ _ _ _ _ _ _ _ _ _ k0 (A ++ []) (A ++ []).length _ _ _
    rw [List.append_nil]
    exact fun v0 tka => mc_end w os it ml acc loc fr ck cv (wl τ S) A tka nS A.length S.length V 0 0 0 0 tk tv kk k0 v0 (by simp [wl])
  | s :: rest, pre, A, e, hA => by
    have hs : S[pre.length]? = some s := by rw [e]; simp
    have hm : s ∈ S := List.mem_of_getElem? hs
    have hl' : pre.length + (rest.length + 1) ≤ 20 := by rw [e] at hl; simpa using hl
    have ih := mq_loop it ml acc loc fr ck cv τ S nS kk tk V tv hk p hE hl k0 rest (pre ++ [s]) (bif p s then A ++ [[ltr s kk]] else A) (by rw [e]; simp) (by cases p s <;> simp <;> omega)
    have e3 : (pre ++ [s]).length = pre.length + 1 := by simp
    rw [← cond_len1, e3] at ih
    rw [there_cons]
    exact mq_step w os it ml acc loc fr ck cv τ S nS kk tk V tv hk k0 _ _ A A.length pre.length s (p s) (by omega) hs (hE s hm) ih
theorem mq_all (it ml acc loc fr ck cv : Nat) (τ : Nat → Nat) (S : List Nat) (nS kk tk : Nat) (V : List Nat) (tv : Nat) (hk : kk < 3) (p : Nat → Bool) (hE : ∀ s ∈ S, ∀ u, CS w os 700 (.call (.ref 50) ⟨[sv V tv, sv (wdN s) u], []⟩) [] 0 (fun _ => rOk (.bool (p s))) oNl oNl) (hl : S.length ≤ 20) (hne : S ≠ []) : MQf w os it ml acc loc fr ck cv τ S nS kk tk V tv (thereL p kk S) (thereL p kk S).length [] 0 0 := by
  match S, hne, hE, hl with
  | s :: rest, _, hE, hl =>
    have e : thereL p kk (s :: rest) = (bif p s then [] ++ [[ltr s kk]] else []) ++ thereL p kk rest := there_cons (A := [])
    rw [e]
    refine mq_stepf w os it ml acc loc fr ck cv τ (s :: rest) nS kk tk V tv hk _ _ [] 0 0 s (p s) (by simp) rfl (hE s (List.mem_cons_self ..)) fun k0 => ?_
    have ih := mq_loop w os it ml acc loc fr ck cv τ (s :: rest) nS kk tk V tv hk p hE hl k0 rest [s] (bif p s then [] ++ [[ltr s kk]] else []) rfl (by cases p s <;> simp)
    rw [← cond_len1] at ih
    exact ih
noncomputable def MD (vl ml fr it td ck cv : Nat) (vs : List Value) (nv : Nat) (τ : Nat → Nat) (S : List Nat) (nS k0 k1 k2 k3 : Nat) (E : List (Nat × Obj)) (lo l : List (List Nat × Nat × List Nat)) (i : Nat) : Prop := ∀ (tkt : Nat → Nat) (v3 vck vcv : Value), CS w os 440 (forCC w 142 [1] it fr [(⟨Zaa⟩, cv), (⟨#[107]⟩, ck)]) ([(vl, lsO vs nv), (ml, lsO (wl τ S) nS), (fr, fq15 w k0 (.ref vl) k1 (.ref ml) k2 (.ref td) k3 v3), (ck, cellO vck), (cv, cellO vcv), (td, dcE w (tabL l tkt)), (it, itO vl i)] ++ E) 0 rNx (fun x => [lsO vs nv, lsO (wl τ S) nS, fq15 w k0 (.ref vl) k1 (.ref ml) k2 (.ref td) k3 (x.v 0), cellO (x.v 1), cellO (x.v 2), dcE w (tabL lo (fun j => x.a (j + 3))), x.o 0] ++ E.map (·.2)) oNl
noncomputable def MDf (vl ml fr it td ck cv : Nat) (vs : List Value) (nv : Nat) (τ : Nat → Nat) (S : List Nat) (nS k0 k1 k2 k3 : Nat) (E : List (Nat × Obj)) (lo : List (List Nat × Nat × List Nat)) : Prop := CS w os 440 (forCC w 142 [1] it fr [(⟨Zaa⟩, cv), (⟨#[107]⟩, ck)]) ([(vl, lsO vs nv), (ml, lsO (wl τ S) nS), (fr, fq14 w k0 (.ref vl) k1 (.ref ml) k2 (.ref td)), (ck, cNo), (cv, cNo), (td, dcE w []), (it, itO vl 0)] ++ E) 0 rNx (fun x => [lsO vs nv, lsO (wl τ S) nS, fq15 w k0 (.ref vl) k1 (.ref ml) k2 (.ref td) (x.a 0) (x.v 0), cellO (x.v 1), cellO (x.v 2), dcE w (tabL lo (fun j => x.a (j + 3))), x.o 0] ++ E.map (·.2)) oNl
theorem md_core (ml fr ck cv : Nat) (τ : Nat → Nat) (S : List Nat) (nS j k tk tv : Nat) (hS : ∀ s ∈ S, s < 8) (hSl : S.length ≤ 20) (hj : j < 12) (hk : j / 4 = k) (hk3 : k < 3) {G : Prop}
    (cE : S = [] → madeF S j = 0 → G)
    (cN : ∀ (m : Nat) (there : List (List Nat)), there.length = m → m ≤ 1000 → (Int.ofNat m == 1) = false → (∀ it acc loc, MQf w os it ml acc loc fr ck cv τ S nS k tk (vwS j) tv there there.length [] 0 0) → madeF S j = 0 → G)
    (cL : ∀ ch, ([ch] == [97 + k]) = true → (∀ it acc loc, MQf w os it ml acc loc fr ck cv τ S nS k tk (vwS j) tv [[ch]] 1 [] 0 0) → madeF S j = 2 → G)
    (cU : ∀ ch, ([ch] == [97 + k]) = false → (∀ it acc loc, MQf w os it ml acc loc fr ck cv τ S nS k tk (vwS j) tv [[ch]] 1 [] 0 0) → madeF S j = 1 → G) : G := by
  have hE : ∀ s ∈ S, ∀ u, CS w os 700 (.call (.ref 50) ⟨[sv (vwS j) tv, sv (wdN s) u], []⟩) [] 0 (fun _ => rOk (.bool (mtch j s))) oNl oNl := fun s hs u => elw w os j s hj (hS s hs) tv u
  by_cases hne : S = []
  · exact cE hne (by subst hne; rfl)
  · have hC := fun it acc loc => mq_all w os it ml acc loc fr ck cv τ S nS k tk (vwS j) tv hk3 (mtch j) hE hSl hne
    unfold madeF at cN cL cU
    unfold thereL at hC
    rw [hk] at cL cU
    have hF : (S.filter (mtch j)).length ≤ 20 := Nat.le_trans (List.length_filter_le ..) hSl
    match hq : S.filter (mtch j) with
    | [] =>
      rw [hq] at hC cN
      exact cN 0 [] rfl (by decide) rfl hC rfl
    | [c] =>
      rw [hq] at hC cL cU
      rcases bit_cases c k with h | h
      · exact cL _ (by rw [ltr0 h]; exact beq_self_eq_true _) hC (by simp only [h]; rfl)
      · exact cU _ (by rw [ltr1 h]; exact nb1 (by omega)) hC (by simp only [h]; rfl)
    | c :: c2 :: r =>
      rw [hq] at hC cN hF
      refine cN (c :: c2 :: r).length _ (by simp) (Nat.le_trans hF (by decide)) ?_ hC rfl
      rw [show (1 : Int) = Int.ofNat 1 from rfl, beqO, beq_eq_false_iff_ne]
      simp
theorem md_0 (vl ml fr it td ck cv : Nat) (vs : List Value) (nv : Nat) (τ : Nat → Nat) (S : List Nat) (nS k0 k1 k2 k3 : Nat) (ta : Nat) (a0 a1 a2 a3 a4 a5 a6 a7 a8 a9 a10 : Nat) (g0 g1 g2 g3 g4 g5 g6 g7 g8 g9 g10 : Obj) (hS : ∀ s ∈ S, s < 8) (hSl : S.length ≤ 20) (j tk tv : Nat) (V : List Nat) (hj : j < 12) (hk : j / 4 = 0) (hV : vwS j = V) (i : Nat) (l : List (List Nat × Nat × List Nat)) (lo : List (List Nat × Nat × List Nat)) (hv : vs[i]? = some (.ref ta)) (hl : ∀ p ∈ l, p.1 ≠ V) (hl2 : l.length ≤ 100) (hN : MD w os vl ml fr it td ck cv vs nv τ S nS k0 k1 k2 k3 [(ta, tupO [.int 0 tk, sv V tv]), (a0, g0), (a1, g1), (a2, g2), (a3, g3), (a4, g4), (a5, g5), (a6, g6), (a7, g7), (a8, g8), (a9, g9), (a10, g10)] lo (l ++ [(V, tv, nmL 0 (madeF S j))]) (i + 1)) : MD w os vl ml fr it td ck cv vs nv τ S nS k0 k1 k2 k3 [(ta, tupO [.int 0 tk, sv V tv]), (a0, g0), (a1, g1), (a2, g2), (a3, g3), (a4, g4), (a5, g5), (a6, g6), (a7, g7), (a8, g8), (a9, g9), (a10, g10)] lo l i := by
  subst hV
  refine md_core w os ml fr ck cv τ S nS j 0 tk tv hS hSl hj hk (by decide) (fun hne hf => ?_) (fun m there h1 h2 h3 hC hf => ?_) (fun ch hc hC hf => ?_) (fun ch hc hC hf => ?_) <;> rw [hf] at hN
  · subst hne
    have hC := fun it acc loc => mc_endf w os it ml acc loc fr ck cv (wl τ []) [] (fun _ => 0) nS 0 0 (vwS j) 0 0 0 0 tk tv 0 rfl
    intro tkt v3 vck vcv
    exact mt_0E w os vl ml fr it td ck cv ta a0 a1 a2 a3 a4 a5 a6 a7 a8 a9 a10 g0 g1 g2 g3 g4 g5 g6 g7 g8 g9 g10 vs _ nv nS i _ l tkt k0 k1 k2 tk tv k3 v3 vck vcv hv hl hl2 [] 0 hC 0 rfl (by decide) rfl lo hN
  ·
    intro tkt v3 vck vcv
    exact mt_0N w os vl ml fr it td ck cv ta a0 a1 a2 a3 a4 a5 a6 a7 a8 a9 a10 g0 g1 g2 g3 g4 g5 g6 g7 g8 g9 g10 vs _ nv nS i _ l tkt k0 k1 k2 tk tv k3 v3 vck vcv hv hl hl2 there _ (fun it acc loc => hC it acc loc (fun _ => 0)) m h1 h2 h3 lo hN
  ·
    intro tkt v3 vck vcv
    exact mt_0L w os vl ml fr it td ck cv ta a0 a1 a2 a3 a4 a5 a6 a7 a8 a9 a10 g0 g1 g2 g3 g4 g5 g6 g7 g8 g9 g10 vs _ nv nS i _ l tkt k0 k1 k2 tk tv k3 v3 vck vcv hv hl hl2 ch _ (fun it acc loc => hC it acc loc (fun _ => 0)) hc lo hN
  ·
    intro tkt v3 vck vcv
    exact mt_0U w os vl ml fr it td ck cv ta a0 a1 a2 a3 a4 a5 a6 a7 a8 a9 a10 g0 g1 g2 g3 g4 g5 g6 g7 g8 g9 g10 vs _ nv nS i _ l tkt k0 k1 k2 tk tv k3 v3 vck vcv hv hl hl2 ch _ (fun it acc loc => hC it acc loc (fun _ => 0)) hc lo hN
theorem md_0f (vl ml fr it td ck cv : Nat) (vs : List Value) (nv : Nat) (τ : Nat → Nat) (S : List Nat) (nS k0 k1 k2 k3 : Nat) (ta : Nat) (a0 a1 a2 a3 a4 a5 a6 a7 a8 a9 a10 : Nat) (g0 g1 g2 g3 g4 g5 g6 g7 g8 g9 g10 : Obj) (hS : ∀ s ∈ S, s < 8) (hSl : S.length ≤ 20) (j tk tv : Nat) (V : List Nat) (hj : j < 12) (hk : j / 4 = 0) (hV : vwS j = V) (lo : List (List Nat × Nat × List Nat)) (hv : vs[0]? = some (.ref ta)) (hN : ∀ k3', MD w os vl ml fr it td ck cv vs nv τ S nS k0 k1 k2 k3' [(ta, tupO [.int 0 tk, sv V tv]), (a0, g0), (a1, g1), (a2, g2), (a3, g3), (a4, g4), (a5, g5), (a6, g6), (a7, g7), (a8, g8), (a9, g9), (a10, g10)] lo ([] ++ [(V, tv, nmL 0 (madeF S j))]) (0 + 1)) : MDf w os vl ml fr it td ck cv vs nv τ S nS k0 k1 k2 k3 [(ta, tupO [.int 0 tk, sv V tv]), (a0, g0), (a1, g1), (a2, g2), (a3, g3), (a4, g4), (a5, g5), (a6, g6), (a7, g7), (a8, g8), (a9, g9), (a10, g10)] lo := by
  subst hV
  refine md_core w os ml fr ck cv τ S nS j 0 tk tv hS hSl hj hk (by decide) (fun hne hf => ?_) (fun m there h1 h2 h3 hC hf => ?_) (fun ch hc hC hf => ?_) (fun ch hc hC hf => ?_) <;> rw [hf] at hN
  · subst hne
    have hC := fun it acc loc => mc_endf w os it ml acc loc fr ck cv (wl τ []) [] (fun _ => 0) nS 0 0 (vwS j) 0 0 0 0 tk tv 0 rfl
    exact mt_0Ef w os vl ml fr it td ck cv ta a0 a1 a2 a3 a4 a5 a6 a7 a8 a9 a10 g0 g1 g2 g3 g4 g5 g6 g7 g8 g9 g10 vs _ nv nS 0 _ [] (fun _ => 0) k0 k1 k2 tk tv hv (by simp) (by simp) [] 0 hC 0 rfl (by decide) rfl lo (fun a b c d k3 => hN k3 a b c d)
  ·
    exact mt_0Nf w os vl ml fr it td ck cv ta a0 a1 a2 a3 a4 a5 a6 a7 a8 a9 a10 g0 g1 g2 g3 g4 g5 g6 g7 g8 g9 g10 vs _ nv nS 0 _ [] (fun _ => 0) k0 k1 k2 tk tv hv (by simp) (by simp) there _ (fun it acc loc => hC it acc loc (fun _ => 0)) m h1 h2 h3 lo (fun a b c d k3 => hN k3 a b c d)
  ·
    exact mt_0Lf w os vl ml fr it td ck cv ta a0 a1 a2 a3 a4 a5 a6 a7 a8 a9 a10 g0 g1 g2 g3 g4 g5 g6 g7 g8 g9 g10 vs _ nv nS 0 _ [] (fun _ => 0) k0 k1 k2 tk tv hv (by simp) (by simp) ch _ (fun it acc loc => hC it acc loc (fun _ => 0)) hc lo (fun a b c d k3 => hN k3 a b c d)
  ·
    exact mt_0Uf w os vl ml fr it td ck cv ta a0 a1 a2 a3 a4 a5 a6 a7 a8 a9 a10 g0 g1 g2 g3 g4 g5 g6 g7 g8 g9 g10 vs _ nv nS 0 _ [] (fun _ => 0) k0 k1 k2 tk tv hv (by simp) (by simp) ch _ (fun it acc loc => hC it acc loc (fun _ => 0)) hc lo (fun a b c d k3 => hN k3 a b c d)
theorem md_1 (vl ml fr it td ck cv : Nat) (vs : List Value) (nv : Nat) (τ : Nat → Nat) (S : List Nat) (nS k0 k1 k2 k3 : Nat) (ta : Nat) (a0 a1 a2 a3 a4 a5 a6 a7 a8 a9 a10 : Nat) (g0 g1 g2 g3 g4 g5 g6 g7 g8 g9 g10 : Obj) (hS : ∀ s ∈ S, s < 8) (hSl : S.length ≤ 20) (j tk tv : Nat) (V : List Nat) (hj : j < 12) (hk : j / 4 = 1) (hV : vwS j = V) (i : Nat) (l : List (List Nat × Nat × List Nat)) (lo : List (List Nat × Nat × List Nat)) (hv : vs[i]? = some (.ref ta)) (hl : ∀ p ∈ l, p.1 ≠ V) (hl2 : l.length ≤ 100) (hN : MD w os vl ml fr it td ck cv vs nv τ S nS k0 k1 k2 k3 [(ta, tupO [.int 1 tk, sv V tv]), (a0, g0), (a1, g1), (a2, g2), (a3, g3), (a4, g4), (a5, g5), (a6, g6), (a7, g7), (a8, g8), (a9, g9), (a10, g10)] lo (l ++ [(V, tv, nmL 1 (madeF S j))]) (i + 1)) : MD w os vl ml fr it td ck cv vs nv τ S nS k0 k1 k2 k3 [(ta, tupO [.int 1 tk, sv V tv]), (a0, g0), (a1, g1), (a2, g2), (a3, g3), (a4, g4), (a5, g5), (a6, g6), (a7, g7), (a8, g8), (a9, g9), (a10, g10)] lo l i := by
  subst hV
  refine md_core w os ml fr ck cv τ S nS j 1 tk tv hS hSl hj hk (by decide) (fun hne hf => ?_) (fun m there h1 h2 h3 hC hf => ?_) (fun ch hc hC hf => ?_) (fun ch hc hC hf => ?_) <;> rw [hf] at hN
  · subst hne
    have hC := fun it acc loc => mc_endf w os it ml acc loc fr ck cv (wl τ []) [] (fun _ => 0) nS 0 0 (vwS j) 0 0 0 0 tk tv 1 rfl
    intro tkt v3 vck vcv
    exact mt_1E w os vl ml fr it td ck cv ta a0 a1 a2 a3 a4 a5 a6 a7 a8 a9 a10 g0 g1 g2 g3 g4 g5 g6 g7 g8 g9 g10 vs _ nv nS i _ l tkt k0 k1 k2 tk tv k3 v3 vck vcv hv hl hl2 [] 0 hC 0 rfl (by decide) rfl lo hN
  ·
    intro tkt v3 vck vcv
    exact mt_1N w os vl ml fr it td ck cv ta a0 a1 a2 a3 a4 a5 a6 a7 a8 a9 a10 g0 g1 g2 g3 g4 g5 g6 g7 g8 g9 g10 vs _ nv nS i _ l tkt k0 k1 k2 tk tv k3 v3 vck vcv hv hl hl2 there _ (fun it acc loc => hC it acc loc (fun _ => 0)) m h1 h2 h3 lo hN
  ·
    intro tkt v3 vck vcv
    exact mt_1L w os vl ml fr it td ck cv ta a0 a1 a2 a3 a4 a5 a6 a7 a8 a9 a10 g0 g1 g2 g3 g4 g5 g6 g7 g8 g9 g10 vs _ nv nS i _ l tkt k0 k1 k2 tk tv k3 v3 vck vcv hv hl hl2 ch _ (fun it acc loc => hC it acc loc (fun _ => 0)) hc lo hN
  ·
    intro tkt v3 vck vcv
    exact mt_1U w os vl ml fr it td ck cv ta a0 a1 a2 a3 a4 a5 a6 a7 a8 a9 a10 g0 g1 g2 g3 g4 g5 g6 g7 g8 g9 g10 vs _ nv nS i _ l tkt k0 k1 k2 tk tv k3 v3 vck vcv hv hl hl2 ch _ (fun it acc loc => hC it acc loc (fun _ => 0)) hc lo hN
theorem md_2 (vl ml fr it td ck cv : Nat) (vs : List Value) (nv : Nat) (τ : Nat → Nat) (S : List Nat) (nS k0 k1 k2 k3 : Nat) (ta : Nat) (a0 a1 a2 a3 a4 a5 a6 a7 a8 a9 a10 : Nat) (g0 g1 g2 g3 g4 g5 g6 g7 g8 g9 g10 : Obj) (hS : ∀ s ∈ S, s < 8) (hSl : S.length ≤ 20) (j tk tv : Nat) (V : List Nat) (hj : j < 12) (hk : j / 4 = 2) (hV : vwS j = V) (i : Nat) (l : List (List Nat × Nat × List Nat)) (lo : List (List Nat × Nat × List Nat)) (hv : vs[i]? = some (.ref ta)) (hl : ∀ p ∈ l, p.1 ≠ V) (hl2 : l.length ≤ 100) (hN : MD w os vl ml fr it td ck cv vs nv τ S nS k0 k1 k2 k3 [(ta, tupO [.int 2 tk, sv V tv]), (a0, g0), (a1, g1), (a2, g2), (a3, g3), (a4, g4), (a5, g5), (a6, g6), (a7, g7), (a8, g8), (a9, g9), (a10, g10)] lo (l ++ [(V, tv, nmL 2 (madeF S j))]) (i + 1)) : MD w os vl ml fr it td ck cv vs nv τ S nS k0 k1 k2 k3 [(ta, tupO [.int 2 tk, sv V tv]), (a0, g0), (a1, g1), (a2, g2), (a3, g3), (a4, g4), (a5, g5), (a6, g6), (a7, g7), (a8, g8), (a9, g9), (a10, g10)] lo l i := by
  subst hV
  refine md_core w os ml fr ck cv τ S nS j 2 tk tv hS hSl hj hk (by decide) (fun hne hf => ?_) (fun m there h1 h2 h3 hC hf => ?_) (fun ch hc hC hf => ?_) (fun ch hc hC hf => ?_) <;> rw [hf] at hN
  · subst hne
    have hC := fun it acc loc => mc_endf w os it ml acc loc fr ck cv (wl τ []) [] (fun _ => 0) nS 0 0 (vwS j) 0 0 0 0 tk tv 2 rfl
    intro tkt v3 vck vcv
    exact mt_2E w os vl ml fr it td ck cv ta a0 a1 a2 a3 a4 a5 a6 a7 a8 a9 a10 g0 g1 g2 g3 g4 g5 g6 g7 g8 g9 g10 vs _ nv nS i _ l tkt k0 k1 k2 tk tv k3 v3 vck vcv hv hl hl2 [] 0 hC 0 rfl (by decide) rfl lo hN
  ·
    intro tkt v3 vck vcv
    exact mt_2N w os vl ml fr it td ck cv ta a0 a1 a2 a3 a4 a5 a6 a7 a8 a9 a10 g0 g1 g2 g3 g4 g5 g6 g7 g8 g9 g10 vs _ nv nS i _ l tkt k0 k1 k2 tk tv k3 v3 vck vcv hv hl hl2 there _ (fun it acc loc => hC it acc loc (fun _ => 0)) m h1 h2 h3 lo hN
  ·
    intro tkt v3 vck vcv
    exact mt_2L w os vl ml fr it td ck cv ta a0 a1 a2 a3 a4 a5 a6 a7 a8 a9 a10 g0 g1 g2 g3 g4 g5 g6 g7 g8 g9 g10 vs _ nv nS i _ l tkt k0 k1 k2 tk tv k3 v3 vck vcv hv hl hl2 ch _ (fun it acc loc => hC it acc loc (fun _ => 0)) hc lo hN
  ·
    intro tkt v3 vck vcv
    exact mt_2U w os vl ml fr it td ck cv ta a0 a1 a2 a3 a4 a5 a6 a7 a8 a9 a10 g0 g1 g2 g3 g4 g5 g6 g7 g8 g9 g10 vs _ nv nS i _ l tkt k0 k1 k2 tk tv k3 v3 vck vcv hv hl hl2 ch _ (fun it acc loc => hC it acc loc (fun _ => 0)) hc lo hN
noncomputable def ordL (j : Nat) : List Nat := j :: (List.range 12).filter (· != j)
noncomputable def tupL (e kt vt : Nat → Nat) (j : Nat) : List (Nat × Obj) := (ordL j).map fun i => (e i, tupO [.int (Int.ofNat (i / 4)) (kt (i / 4)), sv (vwS i) (vt i)])
noncomputable def refL (e : Nat → Nat) : List Value := (List.range 12).map fun i => .ref (e i)
theorem mdp (vl ml fr it td ck cv : Nat) (vs : List Value) (nv : Nat) (τ : Nat → Nat) (S : List Nat) (nS k0 k1 k2 k3 : Nat) (e kt vt : Nat → Nat) (lo l : List (List Nat × Nat × List Nat)) (i : Nat) (j : Nat) (hj : j < 11) : MD w os vl ml fr it td ck cv vs nv τ S nS k0 k1 k2 k3 (tupL e kt vt (j + 1)) lo l i → MD w os vl ml fr it td ck cv vs nv τ S nS k0 k1 k2 k3 (tupL e kt vt j) lo l i :=
  all11 (P := fun j => MD w os vl ml fr it td ck cv vs nv τ S nS k0 k1 k2 k3 (tupL e kt vt (j + 1)) lo l i → MD w os vl ml fr it td ck cv vs nv τ S nS k0 k1 k2 k3 (tupL e kt vt j) lo l i)
  (fun h t a b c => (h t a b c).sub [0, 1, 2, 3, 4, 5, 6, 8, 7, 9, 10, 11, 12, 13, 14, 15, 16, 17, 18] id (Nat.le_refl _) (by kernel_rfl) (by kernel_rfl) (fun _ => rfl) (by intro x; kernel_rfl) (fun _ => rfl) (fun _ _ _ => rfl))
  (fun h t a b c => (h t a b c).sub [0, 1, 2, 3, 4, 5, 6, 9, 8, 7, 10, 11, 12, 13, 14, 15, 16, 17, 18] id (Nat.le_refl _) (by kernel_rfl) (by kernel_rfl) (fun _ => rfl) (by intro x; kernel_rfl) (fun _ => rfl) (fun _ _ _ => rfl))
  (fun h t a b c => (h t a b c).sub [0, 1, 2, 3, 4, 5, 6, 10, 8, 9, 7, 11, 12, 13, 14, 15, 16, 17, 18] id (Nat.le_refl _) (by kernel_rfl) (by kernel_rfl) (fun _ => rfl) (by intro x; kernel_rfl) (fun _ => rfl) (fun _ _ _ => rfl))
  (fun h t a b c => (h t a b c).sub [0, 1, 2, 3, 4, 5, 6, 11, 8, 9, 10, 7, 12, 13, 14, 15, 16, 17, 18] id (Nat.le_refl _) (by kernel_rfl) (by kernel_rfl) (fun _ => rfl) (by intro x; kernel_rfl) (fun _ => rfl) (fun _ _ _ => rfl))
  (fun h t a b c => (h t a b c).sub [0, 1, 2, 3, 4, 5, 6, 12, 8, 9, 10, 11, 7, 13, 14, 15, 16, 17, 18] id (Nat.le_refl _) (by kernel_rfl) (by kernel_rfl) (fun _ => rfl) (by intro x; kernel_rfl) (fun _ => rfl) (fun _ _ _ => rfl))
  (fun h t a b c => (h t a b c).sub [0, 1, 2, 3, 4, 5, 6, 13, 8, 9, 10, 11, 12, 7, 14, 15, 16, 17, 18] id (Nat.le_refl _) (by kernel_rfl) (by kernel_rfl) (fun _ => rfl) (by intro x; kernel_rfl) (fun _ => rfl) (fun _ _ _ => rfl))
  (fun h t a b c => (h t a b c).sub [0, 1, 2, 3, 4, 5, 6, 14, 8, 9, 10, 11, 12, 13, 7, 15, 16, 17, 18] id (Nat.le_refl _) (by kernel_rfl) (by kernel_rfl) (fun _ => rfl) (by intro x; kernel_rfl) (fun _ => rfl) (fun _ _ _ => rfl))
  (fun h t a b c => (h t a b c).sub [0, 1, 2, 3, 4, 5, 6, 15, 8, 9, 10, 11, 12, 13, 14, 7, 16, 17, 18] id (Nat.le_refl _) (by kernel_rfl) (by kernel_rfl) (fun _ => rfl) (by intro x; kernel_rfl) (fun _ => rfl) (fun _ _ _ => rfl))
  (fun h t a b c => (h t a b c).sub [0, 1, 2, 3, 4, 5, 6, 16, 8, 9, 10, 11, 12, 13, 14, 15, 7, 17, 18] id (Nat.le_refl _) (by kernel_rfl) (by kernel_rfl) (fun _ => rfl) (by intro x; kernel_rfl) (fun _ => rfl) (fun _ _ _ => rfl))
  (fun h t a b c => (h t a b c).sub [0, 1, 2, 3, 4, 5, 6, 17, 8, 9, 10, 11, 12, 13, 14, 15, 16, 7, 18] id (Nat.le_refl _) (by kernel_rfl) (by kernel_rfl) (fun _ => rfl) (by intro x; kernel_rfl) (fun _ => rfl) (fun _ _ _ => rfl))
  (fun h t a b c => (h t a b c).sub [0, 1, 2, 3, 4, 5, 6, 18, 8, 9, 10, 11, 12, 13, 14, 15, 16, 17, 7] id (Nat.le_refl _) (by kernel_rfl) (by kernel_rfl) (fun _ => rfl) (by intro x; kernel_rfl) (fun _ => rfl) (fun _ _ _ => rfl))
  j hj
noncomputable def tabT (f vt : Nat → Nat) (j : Nat) : List (List Nat × Nat × List Nat) := (tabF f vt).take j
theorem tabT_len {f vt : Nat → Nat} {j : Nat} : (tabT f vt j).length ≤ 100 := by
  unfold tabT
  have h : (tabF f vt).length = 12 := rfl
  rw [List.length_take]; omega
theorem vwS_ne : ∀ j < 12, ∀ i < j, vwS i ≠ vwS j := by decide
theorem tabT_key {f vt : Nat → Nat} {j : Nat} (hj : j < 12) : ∀ p ∈ tabT f vt j, p.1 ≠ vwS j := by
  intro p hp
  unfold tabT at hp
  obtain ⟨i, hi⟩ := List.mem_iff_getElem?.mp hp
  rw [List.getElem?_take] at hi
  split at hi
  · rename_i hij
    have : (tabF f vt)[i]? = some (vwS i, vt i, nmL (i / 4) (f i)) := by
      unfold tabF
      rw [mapI_get, vw_k i (by omega)]; simp
    rw [this] at hi
    cases hi
    exact vwS_ne j hj i hij
  · cases hi
theorem mds_11 (vl ml fr it td ck cv : Nat) (τ : Nat → Nat) (S : List Nat) (nS k0 k1 k2 k3 : Nat) (e kt vt : Nat → Nat) (hS : ∀ s ∈ S, s < 8) (hSl : S.length ≤ 20) : MD w os vl ml fr it td ck cv (refL e) 12 τ S nS k0 k1 k2 k3 (tupL e kt vt 11) (tabF (madeF S) vt) (tabT (madeF S) vt 11) 11 :=
  md_2 w os vl ml fr it td ck cv (refL e) 12 τ S nS k0 k1 k2 k3 _ _ _ _ _ _ _ _ _ _ _ _ _ _ _ _ _ _ _ _ _ _ _ hS hSl 11 _ _ _ (by decide) rfl rfl 11 _ _ rfl (tabT_key (by decide)) tabT_len (fun t a b c => mt_end w os vl ml fr it td ck cv _ _ _ _ _ _ _ _ _ _ _ _ _ _ _ _ _ _ _ _ _ _ _ _ _ (wl τ S) 12 nS 12 _ t k0 k1 k2 k3 a b c rfl)
theorem mds_10 (vl ml fr it td ck cv : Nat) (τ : Nat → Nat) (S : List Nat) (nS k0 k1 k2 k3 : Nat) (e kt vt : Nat → Nat) (hS : ∀ s ∈ S, s < 8) (hSl : S.length ≤ 20) : MD w os vl ml fr it td ck cv (refL e) 12 τ S nS k0 k1 k2 k3 (tupL e kt vt 10) (tabF (madeF S) vt) (tabT (madeF S) vt 10) 10 :=
  md_2 w os vl ml fr it td ck cv (refL e) 12 τ S nS k0 k1 k2 k3 _ _ _ _ _ _ _ _ _ _ _ _ _ _ _ _ _ _ _ _ _ _ _ hS hSl 10 _ _ _ (by decide) rfl rfl 10 _ _ rfl (tabT_key (by decide)) tabT_len (mdp w os vl ml fr it td ck cv (refL e) 12 τ S nS k0 k1 k2 k3 e kt vt _ _ _ 10 (by decide) (mds_11 w os vl ml fr it td ck cv τ S nS k0 k1 k2 k3 e kt vt hS hSl))
theorem mds_9 (vl ml fr it td ck cv : Nat) (τ : Nat → Nat) (S : List Nat) (nS k0 k1 k2 k3 : Nat) (e kt vt : Nat → Nat) (hS : ∀ s ∈ S, s < 8) (hSl : S.length ≤ 20) : MD w os vl ml fr it td ck cv (refL e) 12 τ S nS k0 k1 k2 k3 (tupL e kt vt 9) (tabF (madeF S) vt) (tabT (madeF S) vt 9) 9 :=
  md_2 w os vl ml fr it td ck cv (refL e) 12 τ S nS k0 k1 k2 k3 _ _ _ _ _ _ _ _ _ _ _ _ _ _ _ _ _ _ _ _ _ _ _ hS hSl 9 _ _ _ (by decide) rfl rfl 9 _ _ rfl (tabT_key (by decide)) tabT_len (mdp w os vl ml fr it td ck cv (refL e) 12 τ S nS k0 k1 k2 k3 e kt vt _ _ _ 9 (by decide) (mds_10 w os vl ml fr it td ck cv τ S nS k0 k1 k2 k3 e kt vt hS hSl))
theorem mds_8 (vl ml fr it td ck cv : Nat) (τ : Nat → Nat) (S : List Nat) (nS k0 k1 k2 k3 : Nat) (e kt vt : Nat → Nat) (hS : ∀ s ∈ S, s < 8) (hSl : S.length ≤ 20) : MD w os vl ml fr it td ck cv (refL e) 12 τ S nS k0 k1 k2 k3 (tupL e kt vt 8) (tabF (madeF S) vt) (tabT (madeF S) vt 8) 8 :=
  md_2 w os vl ml fr it td ck cv (refL e) 12 τ S nS k0 k1 k2 k3 _ _ _ _ _ _ _ _ _ _ _ _ _ _ _ _ _ _ _ _ _ _ _ hS hSl 8 _ _ _ (by decide) rfl rfl 8 _ _ rfl (tabT_key (by decide)) tabT_len (mdp w os vl ml fr it td ck cv (refL e) 12 τ S nS k0 k1 k2 k3 e kt vt _ _ _ 8 (by decide) (mds_9 w os vl ml fr it td ck cv τ S nS k0 k1 k2 k3 e kt vt hS hSl))
theorem mds_7 (vl ml fr it td ck cv : Nat) (τ : Nat → Nat) (S : List Nat) (nS k0 k1 k2 k3 : Nat) (e kt vt : Nat → Nat) (hS : ∀ s ∈ S, s < 8) (hSl : S.length ≤ 20) : MD w os vl ml fr it td ck cv (refL e) 12 τ S nS k0 k1 k2 k3 (tupL e kt vt 7) (tabF (madeF S) vt) (tabT (madeF S) vt 7) 7 :=
  md_1 w os vl ml fr it td ck cv (refL e) 12 τ S nS k0 k1 k2 k3 _ _ _ _ _ _ _ _ _ _ _ _ _ _ _ _ _ _ _ _ _ _ _ hS hSl 7 _ _ _ (by decide) rfl rfl 7 _ _ rfl (tabT_key (by decide)) tabT_len (mdp w os vl ml fr it td ck cv (refL e) 12 τ S nS k0 k1 k2 k3 e kt vt _ _ _ 7 (by decide) (mds_8 w os vl ml fr it td ck cv τ S nS k0 k1 k2 k3 e kt vt hS hSl))
theorem mds_6 (vl ml fr it td ck cv : Nat) (τ : Nat → Nat) (S : List Nat) (nS k0 k1 k2 k3 : Nat) (e kt vt : Nat → Nat) (hS : ∀ s ∈ S, s < 8) (hSl : S.length ≤ 20) : MD w os vl ml fr it td ck cv (refL e) 12 τ S nS k0 k1 k2 k3 (tupL e kt vt 6) (tabF (madeF S) vt) (tabT (madeF S) vt 6) 6 :=
  md_1 w os vl ml fr it td ck cv (refL e) 12 τ S nS k0 k1 k2 k3 _ _ _ _ _ _ _ _ _ _ _ _ _ _ _ _ _ _ _ _ _ _ _ hS hSl 6 _ _ _ (by decide) rfl rfl 6 _ _ rfl (tabT_key (by decide)) tabT_len (mdp w os vl ml fr it td ck cv (refL e) 12 τ S nS k0 k1 k2 k3 e kt vt _ _ _ 6 (by decide) (mds_7 w os vl ml fr it td ck cv τ S nS k0 k1 k2 k3 e kt vt hS hSl))
theorem mds_5 (vl ml fr it td ck cv : Nat) (τ : Nat → Nat) (S : List Nat) (nS k0 k1 k2 k3 : Nat) (e kt vt : Nat → Nat) (hS : ∀ s ∈ S, s < 8) (hSl : S.length ≤ 20) : MD w os vl ml fr it td ck cv (refL e) 12 τ S nS k0 k1 k2 k3 (tupL e kt vt 5) (tabF (madeF S) vt) (tabT (madeF S) vt 5) 5 :=
  md_1 w os vl ml fr it td ck cv (refL e) 12 τ S nS k0 k1 k2 k3 _ _ _ _ _ _ _ _ _ _ _ _ _ _ _ _ _ _ _ _ _ _ _ hS hSl 5 _ _ _ (by decide) rfl rfl 5 _ _ rfl (tabT_key (by decide)) tabT_len (mdp w os vl ml fr it td ck cv (refL e) 12 τ S nS k0 k1 k2 k3 e kt vt _ _ _ 5 (by decide) (mds_6 w os vl ml fr it td ck cv τ S nS k0 k1 k2 k3 e kt vt hS hSl))
theorem mds_4 (vl ml fr it td ck cv : Nat) (τ : Nat → Nat) (S : List Nat) (nS k0 k1 k2 k3 : Nat) (e kt vt : Nat → Nat) (hS : ∀ s ∈ S, s < 8) (hSl : S.length ≤ 20) : MD w os vl ml fr it td ck cv (refL e) 12 τ S nS k0 k1 k2 k3 (tupL e kt vt 4) (tabF (madeF S) vt) (tabT (madeF S) vt 4) 4 :=
  md_1 w os vl ml fr it td ck cv (refL e) 12 τ S nS k0 k1 k2 k3 _ _ _ _ _ _ _ _ _ _ _ _ _ _ _ _ _ _ _ _ _ _ _ hS hSl 4 _ _ _ (by decide) rfl rfl 4 _ _ rfl (tabT_key (by decide)) tabT_len (mdp w os vl ml fr it td ck cv (refL e) 12 τ S nS k0 k1 k2 k3 e kt vt _ _ _ 4 (by decide) (mds_5 w os vl ml fr it td ck cv τ S nS k0 k1 k2 k3 e kt vt hS hSl))
theorem mds_3 (vl ml fr it td ck cv : Nat) (τ : Nat → Nat) (S : List Nat) (nS k0 k1 k2 k3 : Nat) (e kt vt : Nat → Nat) (hS : ∀ s ∈ S, s < 8) (hSl : S.length ≤ 20) : MD w os vl ml fr it td ck cv (refL e) 12 τ S nS k0 k1 k2 k3 (tupL e kt vt 3) (tabF (madeF S) vt) (tabT (madeF S) vt 3) 3 :=
  md_0 w os vl ml fr it td ck cv (refL e) 12 τ S nS k0 k1 k2 k3 _ _ _ _ _ _ _ _ _ _ _ _ _ _ _ _ _ _ _ _ _ _ _ hS hSl 3 _ _ _ (by decide) rfl rfl 3 _ _ rfl (tabT_key (by decide)) tabT_len (mdp w os vl ml fr it td ck cv (refL e) 12 τ S nS k0 k1 k2 k3 e kt vt _ _ _ 3 (by decide) (mds_4 w os vl ml fr it td ck cv τ S nS k0 k1 k2 k3 e kt vt hS hSl))
theorem mds_2 (vl ml fr it td ck cv : Nat) (τ : Nat → Nat) (S : List Nat) (nS k0 k1 k2 k3 : Nat) (e kt vt : Nat → Nat) (hS : ∀ s ∈ S, s < 8) (hSl : S.length ≤ 20) : MD w os vl ml fr it td ck cv (refL e) 12 τ S nS k0 k1 k2 k3 (tupL e kt vt 2) (tabF (madeF S) vt) (tabT (madeF S) vt 2) 2 :=
  md_0 w os vl ml fr it td ck cv (refL e) 12 τ S nS k0 k1 k2 k3 _ _ _ _ _ _ _ _ _ _ _ _ _ _ _ _ _ _ _ _ _ _ _ hS hSl 2 _ _ _ (by decide) rfl rfl 2 _ _ rfl (tabT_key (by decide)) tabT_len (mdp w os vl ml fr it td ck cv (refL e) 12 τ S nS k0 k1 k2 k3 e kt vt _ _ _ 2 (by decide) (mds_3 w os vl ml fr it td ck cv τ S nS k0 k1 k2 k3 e kt vt hS hSl))
theorem mds_1 (vl ml fr it td ck cv : Nat) (τ : Nat → Nat) (S : List Nat) (nS k0 k1 k2 k3 : Nat) (e kt vt : Nat → Nat) (hS : ∀ s ∈ S, s < 8) (hSl : S.length ≤ 20) : MD w os vl ml fr it td ck cv (refL e) 12 τ S nS k0 k1 k2 k3 (tupL e kt vt 1) (tabF (madeF S) vt) (tabT (madeF S) vt 1) 1 :=
  md_0 w os vl ml fr it td ck cv (refL e) 12 τ S nS k0 k1 k2 k3 _ _ _ _ _ _ _ _ _ _ _ _ _ _ _ _ _ _ _ _ _ _ _ hS hSl 1 _ _ _ (by decide) rfl rfl 1 _ _ rfl (tabT_key (by decide)) tabT_len (mdp w os vl ml fr it td ck cv (refL e) 12 τ S nS k0 k1 k2 k3 e kt vt _ _ _ 1 (by decide) (mds_2 w os vl ml fr it td ck cv τ S nS k0 k1 k2 k3 e kt vt hS hSl))
theorem mds_0 (vl ml fr it td ck cv : Nat) (τ : Nat → Nat) (S : List Nat) (nS k0 k1 k2 k3 : Nat) (e kt vt : Nat → Nat) (hS : ∀ s ∈ S, s < 8) (hSl : S.length ≤ 20) : MDf w os vl ml fr it td ck cv (refL e) 12 τ S nS k0 k1 k2 k3 (tupL e kt vt 0) (tabF (madeF S) vt) :=
  md_0f w os vl ml fr it td ck cv (refL e) 12 τ S nS k0 k1 k2 k3 _ _ _ _ _ _ _ _ _ _ _ _ _ _ _ _ _ _ _ _ _ _ _ hS hSl 0 _ _ _ (by decide) rfl rfl _ rfl (fun k3' => mdp w os vl ml fr it td ck cv (refL e) 12 τ S nS k0 k1 k2 k3' e kt vt _ _ _ 0 (by decide) (mds_1 w os vl ml fr it td ck cv τ S nS k0 k1 k2 k3' e kt vt hS hSl))
theorem made_s (vl ml : Nat) (e kt vt τ : Nat → Nat) (S : List Nat) (nS : Nat) (hS : ∀ s ∈ S, s < 8) (hSl : S.length ≤ 20) : CS w os 430 (.call (.ref 142) ⟨[.ref vl, .ref ml], []⟩) ([(vl, lst (refL e) 12), (ml, lsO (wl τ S) nS)] ++ tupL e kt vt 0) 1 (fun x => rOk (.ref (x.a 0))) (fun _ => [lst (refL e) 12, lsO (wl τ S) nS] ++ (tupL e kt vt 0).map (·.2)) (fun x => [dcE w (tabL (tabF (madeF S) vt) (fun j => x.a (j + 3)))]) :=
  made_b w os vl ml _ _ _ _ _ _ _ _ _ _ _ _ _ _ _ _ _ _ _ _ _ _ _ _ (refL e) (wl τ S) 12 nS _ fun it fr td ck cv k0 k1 k2 => mds_0 w os vl ml fr it td ck cv τ S nS k0 k1 k2 0 e kt vt hS hSl
end
end Mine
end
section
open PySem PySem.Spec PySem.Calls PyProof.Rows PySem.W PySem.W.X
set_option maxRecDepth 100000
set_option linter.unusedVariables false
set_option linter.unusedSimpArgs false
namespace Mine
theorem DL_get {G : List Nat} {tk : Nat → Nat} {j g : Nat} (h : G[j]? = some g) : (DL G tk)[j]? = some (.int (Int.ofNat g) (tk j)) := by
  unfold DL; rw [mapI_get, h]; simp
section
variable (w : World) (os : OsState)
noncomputable def DD (vl fl fr it td : Nat) (vs fs : List Value) (nv nf k0 k1 k2 k3 k4 k5 : Nat) (E : List (Nat × Obj)) (lo l : List (List Nat × Nat × List Nat)) (t m : Nat) : Prop := ∀ (tkt : Nat → Nat) (v3 v4 v5 : Value), CS w os 420 (forC w 137 [1] it fr) ([(vl, lsO vs nv), (fl, lsO fs nf), (fr, fq2 w k0 (.ref vl) k1 (.ref fl) k2 (.ref td) k3 v3 k4 v4 k5 v5), (td, dcE w (tabL l tkt)), (it, rgI (Int.ofNat t) (Int.ofNat m))] ++ E) 0 rNx (fun x => [lsO vs nv, lsO fs nf, fq2 w k0 (.ref vl) k1 (.ref fl) k2 (.ref td) k3 (x.v 0) k4 (x.v 1) k5 (x.v 2), dcE w (tabL lo (fun j => x.a (j + 3))), x.o 0] ++ E.map (·.2)) oNl
noncomputable def DDf (vl fl fr it td : Nat) (vs fs : List Value) (nv nf k0 k1 k2 k3 k4 k5 : Nat) (E : List (Nat × Obj)) (lo l : List (List Nat × Nat × List Nat)) (t m : Nat) : Prop := ∀ (tkt : Nat → Nat), CS w os 420 (forC w 137 [1] it fr) ([(vl, lsO vs nv), (fl, lsO fs nf), (fr, fq1 w k0 (.ref vl) k1 (.ref fl) k2 (.ref td)), (td, dcE w (tabL l tkt)), (it, rgI (Int.ofNat t) (Int.ofNat m))] ++ E) 0 rNx (fun x => [lsO vs nv, lsO fs nf, fq2 w k0 (.ref vl) k1 (.ref fl) k2 (.ref td) (x.a 0) (x.v 0) (x.a 1) (x.v 1) (x.a 2) (x.v 2), dcE w (tabL lo (fun j => x.a (j + 3))), x.o 0] ++ E.map (·.2)) oNl
theorem dd_0 (vl fl fr it td : Nat) (vs fs : List Value) (nv nf k0 k1 k2 k3 k4 k5 : Nat) (ta : Nat) (a0 a1 a2 a3 a4 a5 a6 a7 a8 a9 a10 : Nat) (g0 g1 g2 g3 g4 g5 g6 g7 g8 g9 g10 : Obj) (tk tv gt g t m : Nat) (V : List Nat) (l lo : List (List Nat × Nat × List Nat)) (hg : g < 4) (hv : vs[t]? = some (.ref ta)) (hf : fs[t]? = some (.int (Int.ofNat g) gt)) (ht : t < 1000) (hl : ∀ p ∈ l, p.1 ≠ V) (hl2 : l.length ≤ 100)
    (hN : DD w os vl fl fr it td vs fs nv nf k0 k1 k2 k3 k4 k5 [(ta, tupO [.int 0 tk, sv V tv]), (a0, g0), (a1, g1), (a2, g2), (a3, g3), (a4, g4), (a5, g5), (a6, g6), (a7, g7), (a8, g8), (a9, g9), (a10, g10)] lo (l ++ [(V, tv, nmL 0 g)]) (t + 1) m) : DD w os vl fl fr it td vs fs nv nf k0 k1 k2 k3 k4 k5 [(ta, tupO [.int 0 tk, sv V tv]), (a0, g0), (a1, g1), (a2, g2), (a3, g3), (a4, g4), (a5, g5), (a6, g6), (a7, g7), (a8, g8), (a9, g9), (a10, g10)] lo l t (m + 1) := by
  intro tkt v3 v4 v5
  revert hf hN
  revert g
  exact all4 (fun hf hN => dt_00 w os vl fl fr it td ta a0 a1 a2 a3 a4 a5 a6 a7 a8 a9 a10 g0 g1 g2 g3 g4 g5 g6 g7 g8 g9 g10 vs fs nv nf t m V l tkt k0 k1 k2 tk tv gt k3 k4 k5 v3 v4 v5 hv hf ht hl hl2 lo hN)
    (fun hf hN => dt_01 w os vl fl fr it td ta a0 a1 a2 a3 a4 a5 a6 a7 a8 a9 a10 g0 g1 g2 g3 g4 g5 g6 g7 g8 g9 g10 vs fs nv nf t m V l tkt k0 k1 k2 tk tv gt k3 k4 k5 v3 v4 v5 hv hf ht hl hl2 lo hN)
    (fun hf hN => dt_02 w os vl fl fr it td ta a0 a1 a2 a3 a4 a5 a6 a7 a8 a9 a10 g0 g1 g2 g3 g4 g5 g6 g7 g8 g9 g10 vs fs nv nf t m V l tkt k0 k1 k2 tk tv gt k3 k4 k5 v3 v4 v5 hv hf ht hl hl2 lo hN)
    (fun hf hN => dt_03 w os vl fl fr it td ta a0 a1 a2 a3 a4 a5 a6 a7 a8 a9 a10 g0 g1 g2 g3 g4 g5 g6 g7 g8 g9 g10 vs fs nv nf t m V l tkt k0 k1 k2 tk tv gt k3 k4 k5 v3 v4 v5 hv hf ht hl hl2 lo hN)
theorem dd_0f (vl fl fr it td : Nat) (vs fs : List Value) (nv nf k0 k1 k2 k3 k4 k5 : Nat) (ta : Nat) (a0 a1 a2 a3 a4 a5 a6 a7 a8 a9 a10 : Nat) (g0 g1 g2 g3 g4 g5 g6 g7 g8 g9 g10 : Obj) (tk tv gt g t m : Nat) (V : List Nat) (l lo : List (List Nat × Nat × List Nat)) (hg : g < 4) (hv : vs[t]? = some (.ref ta)) (hf : fs[t]? = some (.int (Int.ofNat g) gt)) (ht : t < 1000) (hl : ∀ p ∈ l, p.1 ≠ V) (hl2 : l.length ≤ 100)
    (hN : ∀ k3' k4' k5', DD w os vl fl fr it td vs fs nv nf k0 k1 k2 k3' k4' k5' [(ta, tupO [.int 0 tk, sv V tv]), (a0, g0), (a1, g1), (a2, g2), (a3, g3), (a4, g4), (a5, g5), (a6, g6), (a7, g7), (a8, g8), (a9, g9), (a10, g10)] lo (l ++ [(V, tv, nmL 0 g)]) (t + 1) m) : DDf w os vl fl fr it td vs fs nv nf k0 k1 k2 k3 k4 k5 [(ta, tupO [.int 0 tk, sv V tv]), (a0, g0), (a1, g1), (a2, g2), (a3, g3), (a4, g4), (a5, g5), (a6, g6), (a7, g7), (a8, g8), (a9, g9), (a10, g10)] lo l t (m + 1) := by
  intro tkt
  revert hf hN
  revert g
  exact all4 (fun hf hN => dt_00f w os vl fl fr it td ta a0 a1 a2 a3 a4 a5 a6 a7 a8 a9 a10 g0 g1 g2 g3 g4 g5 g6 g7 g8 g9 g10 vs fs nv nf t m V l tkt k0 k1 k2 tk tv gt hv hf ht hl hl2 lo (fun a b c d k3 k4 k5 => hN k3 k4 k5 a b c d))
    (fun hf hN => dt_01f w os vl fl fr it td ta a0 a1 a2 a3 a4 a5 a6 a7 a8 a9 a10 g0 g1 g2 g3 g4 g5 g6 g7 g8 g9 g10 vs fs nv nf t m V l tkt k0 k1 k2 tk tv gt hv hf ht hl hl2 lo (fun a b c d k3 k4 k5 => hN k3 k4 k5 a b c d))
    (fun hf hN => dt_02f w os vl fl fr it td ta a0 a1 a2 a3 a4 a5 a6 a7 a8 a9 a10 g0 g1 g2 g3 g4 g5 g6 g7 g8 g9 g10 vs fs nv nf t m V l tkt k0 k1 k2 tk tv gt hv hf ht hl hl2 lo (fun a b c d k3 k4 k5 => hN k3 k4 k5 a b c d))
    (fun hf hN => dt_03f w os vl fl fr it td ta a0 a1 a2 a3 a4 a5 a6 a7 a8 a9 a10 g0 g1 g2 g3 g4 g5 g6 g7 g8 g9 g10 vs fs nv nf t m V l tkt k0 k1 k2 tk tv gt hv hf ht hl hl2 lo (fun a b c d k3 k4 k5 => hN k3 k4 k5 a b c d))
theorem dd_1 (vl fl fr it td : Nat) (vs fs : List Value) (nv nf k0 k1 k2 k3 k4 k5 : Nat) (ta : Nat) (a0 a1 a2 a3 a4 a5 a6 a7 a8 a9 a10 : Nat) (g0 g1 g2 g3 g4 g5 g6 g7 g8 g9 g10 : Obj) (tk tv gt g t m : Nat) (V : List Nat) (l lo : List (List Nat × Nat × List Nat)) (hg : g < 4) (hv : vs[t]? = some (.ref ta)) (hf : fs[t]? = some (.int (Int.ofNat g) gt)) (ht : t < 1000) (hl : ∀ p ∈ l, p.1 ≠ V) (hl2 : l.length ≤ 100)
    (hN : DD w os vl fl fr it td vs fs nv nf k0 k1 k2 k3 k4 k5 [(ta, tupO [.int 1 tk, sv V tv]), (a0, g0), (a1, g1), (a2, g2), (a3, g3), (a4, g4), (a5, g5), (a6, g6), (a7, g7), (a8, g8), (a9, g9), (a10, g10)] lo (l ++ [(V, tv, nmL 1 g)]) (t + 1) m) : DD w os vl fl fr it td vs fs nv nf k0 k1 k2 k3 k4 k5 [(ta, tupO [.int 1 tk, sv V tv]), (a0, g0), (a1, g1), (a2, g2), (a3, g3), (a4, g4), (a5, g5), (a6, g6), (a7, g7), (a8, g8), (a9, g9), (a10, g10)] lo l t (m + 1) := by
  intro tkt v3 v4 v5
  revert hf hN
  revert g
  exact all4 (fun hf hN => dt_10 w os vl fl fr it td ta a0 a1 a2 a3 a4 a5 a6 a7 a8 a9 a10 g0 g1 g2 g3 g4 g5 g6 g7 g8 g9 g10 vs fs nv nf t m V l tkt k0 k1 k2 tk tv gt k3 k4 k5 v3 v4 v5 hv hf ht hl hl2 lo hN)
    (fun hf hN => dt_11 w os vl fl fr it td ta a0 a1 a2 a3 a4 a5 a6 a7 a8 a9 a10 g0 g1 g2 g3 g4 g5 g6 g7 g8 g9 g10 vs fs nv nf t m V l tkt k0 k1 k2 tk tv gt k3 k4 k5 v3 v4 v5 hv hf ht hl hl2 lo hN)
    (fun hf hN => dt_12 w os vl fl fr it td ta a0 a1 a2 a3 a4 a5 a6 a7 a8 a9 a10 g0 g1 g2 g3 g4 g5 g6 g7 g8 g9 g10 vs fs nv nf t m V l tkt k0 k1 k2 tk tv gt k3 k4 k5 v3 v4 v5 hv hf ht hl hl2 lo hN)
    (fun hf hN => dt_13 w os vl fl fr it td ta a0 a1 a2 a3 a4 a5 a6 a7 a8 a9 a10 g0 g1 g2 g3 g4 g5 g6 g7 g8 g9 g10 vs fs nv nf t m V l tkt k0 k1 k2 tk tv gt k3 k4 k5 v3 v4 v5 hv hf ht hl hl2 lo hN)
theorem dd_2 (vl fl fr it td : Nat) (vs fs : List Value) (nv nf k0 k1 k2 k3 k4 k5 : Nat) (ta : Nat) (a0 a1 a2 a3 a4 a5 a6 a7 a8 a9 a10 : Nat) (g0 g1 g2 g3 g4 g5 g6 g7 g8 g9 g10 : Obj) (tk tv gt g t m : Nat) (V : List Nat) (l lo : List (List Nat × Nat × List Nat)) (hg : g < 4) (hv : vs[t]? = some (.ref ta)) (hf : fs[t]? = some (.int (Int.ofNat g) gt)) (ht : t < 1000) (hl : ∀ p ∈ l, p.1 ≠ V) (hl2 : l.length ≤ 100)
    (hN : DD w os vl fl fr it td vs fs nv nf k0 k1 k2 k3 k4 k5 [(ta, tupO [.int 2 tk, sv V tv]), (a0, g0), (a1, g1), (a2, g2), (a3, g3), (a4, g4), (a5, g5), (a6, g6), (a7, g7), (a8, g8), (a9, g9), (a10, g10)] lo (l ++ [(V, tv, nmL 2 g)]) (t + 1) m) : DD w os vl fl fr it td vs fs nv nf k0 k1 k2 k3 k4 k5 [(ta, tupO [.int 2 tk, sv V tv]), (a0, g0), (a1, g1), (a2, g2), (a3, g3), (a4, g4), (a5, g5), (a6, g6), (a7, g7), (a8, g8), (a9, g9), (a10, g10)] lo l t (m + 1) := by
  intro tkt v3 v4 v5
  revert hf hN
  revert g
  exact all4 (fun hf hN => dt_20 w os vl fl fr it td ta a0 a1 a2 a3 a4 a5 a6 a7 a8 a9 a10 g0 g1 g2 g3 g4 g5 g6 g7 g8 g9 g10 vs fs nv nf t m V l tkt k0 k1 k2 tk tv gt k3 k4 k5 v3 v4 v5 hv hf ht hl hl2 lo hN)
    (fun hf hN => dt_21 w os vl fl fr it td ta a0 a1 a2 a3 a4 a5 a6 a7 a8 a9 a10 g0 g1 g2 g3 g4 g5 g6 g7 g8 g9 g10 vs fs nv nf t m V l tkt k0 k1 k2 tk tv gt k3 k4 k5 v3 v4 v5 hv hf ht hl hl2 lo hN)
    (fun hf hN => dt_22 w os vl fl fr it td ta a0 a1 a2 a3 a4 a5 a6 a7 a8 a9 a10 g0 g1 g2 g3 g4 g5 g6 g7 g8 g9 g10 vs fs nv nf t m V l tkt k0 k1 k2 tk tv gt k3 k4 k5 v3 v4 v5 hv hf ht hl hl2 lo hN)
    (fun hf hN => dt_23 w os vl fl fr it td ta a0 a1 a2 a3 a4 a5 a6 a7 a8 a9 a10 g0 g1 g2 g3 g4 g5 g6 g7 g8 g9 g10 vs fs nv nf t m V l tkt k0 k1 k2 tk tv gt k3 k4 k5 v3 v4 v5 hv hf ht hl hl2 lo hN)
theorem ddp (vl fl fr it td : Nat) (vs fs : List Value) (nv nf k0 k1 k2 k3 k4 k5 : Nat) (e kt vt : Nat → Nat) (lo l : List (List Nat × Nat × List Nat)) (t m : Nat) (j : Nat) (hj : j < 11) : DD w os vl fl fr it td vs fs nv nf k0 k1 k2 k3 k4 k5 (tupL e kt vt (j + 1)) lo l t m → DD w os vl fl fr it td vs fs nv nf k0 k1 k2 k3 k4 k5 (tupL e kt vt j) lo l t m :=
  all11 (P := fun j => DD w os vl fl fr it td vs fs nv nf k0 k1 k2 k3 k4 k5 (tupL e kt vt (j + 1)) lo l t m → DD w os vl fl fr it td vs fs nv nf k0 k1 k2 k3 k4 k5 (tupL e kt vt j) lo l t m)
  (fun h t a b c => (h t a b c).sub [0, 1, 2, 3, 4, 6, 5, 7, 8, 9, 10, 11, 12, 13, 14, 15, 16] id (Nat.le_refl _) (by kernel_rfl) (by kernel_rfl) (fun _ => rfl) (by intro x; kernel_rfl) (fun _ => rfl) (fun _ _ _ => rfl))
  (fun h t a b c => (h t a b c).sub [0, 1, 2, 3, 4, 7, 6, 5, 8, 9, 10, 11, 12, 13, 14, 15, 16] id (Nat.le_refl _) (by kernel_rfl) (by kernel_rfl) (fun _ => rfl) (by intro x; kernel_rfl) (fun _ => rfl) (fun _ _ _ => rfl))
  (fun h t a b c => (h t a b c).sub [0, 1, 2, 3, 4, 8, 6, 7, 5, 9, 10, 11, 12, 13, 14, 15, 16] id (Nat.le_refl _) (by kernel_rfl) (by kernel_rfl) (fun _ => rfl) (by intro x; kernel_rfl) (fun _ => rfl) (fun _ _ _ => rfl))
  (fun h t a b c => (h t a b c).sub [0, 1, 2, 3, 4, 9, 6, 7, 8, 5, 10, 11, 12, 13, 14, 15, 16] id (Nat.le_refl _) (by kernel_rfl) (by kernel_rfl) (fun _ => rfl) (by intro x; kernel_rfl) (fun _ => rfl) (fun _ _ _ => rfl))
  (fun h t a b c => (h t a b c).sub [0, 1, 2, 3, 4, 10, 6, 7, 8, 9, 5, 11, 12, 13, 14, 15, 16] id (Nat.le_refl _) (by kernel_rfl) (by kernel_rfl) (fun _ => rfl) (by intro x; kernel_rfl) (fun _ => rfl) (fun _ _ _ => rfl))
  (fun h t a b c => (h t a b c).sub [0, 1, 2, 3, 4, 11, 6, 7, 8, 9, 10, 5, 12, 13, 14, 15, 16] id (Nat.le_refl _) (by kernel_rfl) (by kernel_rfl) (fun _ => rfl) (by intro x; kernel_rfl) (fun _ => rfl) (fun _ _ _ => rfl))
  (fun h t a b c => (h t a b c).sub [0, 1, 2, 3, 4, 12, 6, 7, 8, 9, 10, 11, 5, 13, 14, 15, 16] id (Nat.le_refl _) (by kernel_rfl) (by kernel_rfl) (fun _ => rfl) (by intro x; kernel_rfl) (fun _ => rfl) (fun _ _ _ => rfl))
  (fun h t a b c => (h t a b c).sub [0, 1, 2, 3, 4, 13, 6, 7, 8, 9, 10, 11, 12, 5, 14, 15, 16] id (Nat.le_refl _) (by kernel_rfl) (by kernel_rfl) (fun _ => rfl) (by intro x; kernel_rfl) (fun _ => rfl) (fun _ _ _ => rfl))
  (fun h t a b c => (h t a b c).sub [0, 1, 2, 3, 4, 14, 6, 7, 8, 9, 10, 11, 12, 13, 5, 15, 16] id (Nat.le_refl _) (by kernel_rfl) (by kernel_rfl) (fun _ => rfl) (by intro x; kernel_rfl) (fun _ => rfl) (fun _ _ _ => rfl))
  (fun h t a b c => (h t a b c).sub [0, 1, 2, 3, 4, 15, 6, 7, 8, 9, 10, 11, 12, 13, 14, 5, 16] id (Nat.le_refl _) (by kernel_rfl) (by kernel_rfl) (fun _ => rfl) (by intro x; kernel_rfl) (fun _ => rfl) (fun _ _ _ => rfl))
  (fun h t a b c => (h t a b c).sub [0, 1, 2, 3, 4, 16, 6, 7, 8, 9, 10, 11, 12, 13, 14, 15, 5] id (Nat.le_refl _) (by kernel_rfl) (by kernel_rfl) (fun _ => rfl) (by intro x; kernel_rfl) (fun _ => rfl) (fun _ _ _ => rfl))
  j hj
theorem dds_11 (vl fl fr it td : Nat) (G : List Nat) (gt : Nat → Nat) (nf k0 k1 k2 k3 k4 k5 : Nat) (e kt vt f : Nat → Nat) (hf : ∀ j < 12, G[j]? = some (f j)) (hg : ∀ j, f j < 4) : DD w os vl fl fr it td (refL e) (DL G gt) 12 nf k0 k1 k2 k3 k4 k5 (tupL e kt vt 11) (tabF f vt) (tabT f vt 11) 11 1 :=
  dd_2 w os vl fl fr it td (refL e) (DL G gt) 12 nf k0 k1 k2 k3 k4 k5 _ _ _ _ _ _ _ _ _ _ _ _ _ _ _ _ _ _ _ _ _ _ _ _ _ (gt 11) (f 11) 11 0 (vwS 11) _ _ (hg 11) rfl (DL_get (hf 11 (by decide))) (by decide) (tabT_key (by decide)) tabT_len (fun t a b c => dt_end w os vl fl fr it td _ _ _ _ _ _ _ _ _ _ _ _ _ _ _ _ _ _ _ _ _ _ _ _ _ (DL G gt) 12 nf (Int.ofNat 12) _ t k0 k1 k2 k3 k4 k5 a b c)
theorem dds_10 (vl fl fr it td : Nat) (G : List Nat) (gt : Nat → Nat) (nf k0 k1 k2 k3 k4 k5 : Nat) (e kt vt f : Nat → Nat) (hf : ∀ j < 12, G[j]? = some (f j)) (hg : ∀ j, f j < 4) : DD w os vl fl fr it td (refL e) (DL G gt) 12 nf k0 k1 k2 k3 k4 k5 (tupL e kt vt 10) (tabF f vt) (tabT f vt 10) 10 2 :=
  dd_2 w os vl fl fr it td (refL e) (DL G gt) 12 nf k0 k1 k2 k3 k4 k5 _ _ _ _ _ _ _ _ _ _ _ _ _ _ _ _ _ _ _ _ _ _ _ _ _ (gt 10) (f 10) 10 1 (vwS 10) _ _ (hg 10) rfl (DL_get (hf 10 (by decide))) (by decide) (tabT_key (by decide)) tabT_len (ddp w os vl fl fr it td (refL e) (DL G gt) 12 nf k0 k1 k2 k3 k4 k5 e kt vt _ _ _ _ 10 (by decide) (dds_11 w os vl fl fr it td G gt nf k0 k1 k2 k3 k4 k5 e kt vt f hf hg))
theorem dds_9 (vl fl fr it td : Nat) (G : List Nat) (gt : Nat → Nat) (nf k0 k1 k2 k3 k4 k5 : Nat) (e kt vt f : Nat → Nat) (hf : ∀ j < 12, G[j]? = some (f j)) (hg : ∀ j, f j < 4) : DD w os vl fl fr it td (refL e) (DL G gt) 12 nf k0 k1 k2 k3 k4 k5 (tupL e kt vt 9) (tabF f vt) (tabT f vt 9) 9 3 :=
  dd_2 w os vl fl fr it td (refL e) (DL G gt) 12 nf k0 k1 k2 k3 k4 k5 _ _ _ _ _ _ _ _ _ _ _ _ _ _ _ _ _ _ _ _ _ _ _ _ _ (gt 9) (f 9) 9 2 (vwS 9) _ _ (hg 9) rfl (DL_get (hf 9 (by decide))) (by decide) (tabT_key (by decide)) tabT_len (ddp w os vl fl fr it td (refL e) (DL G gt) 12 nf k0 k1 k2 k3 k4 k5 e kt vt _ _ _ _ 9 (by decide) (dds_10 w os vl fl fr it td G gt nf k0 k1 k2 k3 k4 k5 e kt vt f hf hg))
theorem dds_8 (vl fl fr it td : Nat) (G : List Nat) (gt : Nat → Nat) (nf k0 k1 k2 k3 k4 k5 : Nat) (e kt vt f : Nat → Nat) (hf : ∀ j < 12, G[j]? = some (f j)) (hg : ∀ j, f j < 4) : DD w os vl fl fr it td (refL e) (DL G gt) 12 nf k0 k1 k2 k3 k4 k5 (tupL e kt vt 8) (tabF f vt) (tabT f vt 8) 8 4 :=
  dd_2 w os vl fl fr it td (refL e) (DL G gt) 12 nf k0 k1 k2 k3 k4 k5 _ _ _ _ _ _ _ _ _ _ _ _ _ _ _ _ _ _ _ _ _ _ _ _ _ (gt 8) (f 8) 8 3 (vwS 8) _ _ (hg 8) rfl (DL_get (hf 8 (by decide))) (by decide) (tabT_key (by decide)) tabT_len (ddp w os vl fl fr it td (refL e) (DL G gt) 12 nf k0 k1 k2 k3 k4 k5 e kt vt _ _ _ _ 8 (by decide) (dds_9 w os vl fl fr it td G gt nf k0 k1 k2 k3 k4 k5 e kt vt f hf hg))
theorem dds_7 (vl fl fr it td : Nat) (G : List Nat) (gt : Nat → Nat) (nf k0 k1 k2 k3 k4 k5 : Nat) (e kt vt f : Nat → Nat) (hf : ∀ j < 12, G[j]? = some (f j)) (hg : ∀ j, f j < 4) : DD w os vl fl fr it td (refL e) (DL G gt) 12 nf k0 k1 k2 k3 k4 k5 (tupL e kt vt 7) (tabF f vt) (tabT f vt 7) 7 5 :=
  dd_1 w os vl fl fr it td (refL e) (DL G gt) 12 nf k0 k1 k2 k3 k4 k5 _ _ _ _ _ _ _ _ _ _ _ _ _ _ _ _ _ _ _ _ _ _ _ _ _ (gt 7) (f 7) 7 4 (vwS 7) _ _ (hg 7) rfl (DL_get (hf 7 (by decide))) (by decide) (tabT_key (by decide)) tabT_len (ddp w os vl fl fr it td (refL e) (DL G gt) 12 nf k0 k1 k2 k3 k4 k5 e kt vt _ _ _ _ 7 (by decide) (dds_8 w os vl fl fr it td G gt nf k0 k1 k2 k3 k4 k5 e kt vt f hf hg))
theorem dds_6 (vl fl fr it td : Nat) (G : List Nat) (gt : Nat → Nat) (nf k0 k1 k2 k3 k4 k5 : Nat) (e kt vt f : Nat → Nat) (hf : ∀ j < 12, G[j]? = some (f j)) (hg : ∀ j, f j < 4) : DD w os vl fl fr it td (refL e) (DL G gt) 12 nf k0 k1 k2 k3 k4 k5 (tupL e kt vt 6) (tabF f vt) (tabT f vt 6) 6 6 :=
  dd_1 w os vl fl fr it td (refL e) (DL G gt) 12 nf k0 k1 k2 k3 k4 k5 _ _ _ _ _ _ _ _ _ _ _ _ _ _ _ _ _ _ _ _ _ _ _ _ _ (gt 6) (f 6) 6 5 (vwS 6) _ _ (hg 6) rfl (DL_get (hf 6 (by decide))) (by decide) (tabT_key (by decide)) tabT_len (ddp w os vl fl fr it td (refL e) (DL G gt) 12 nf k0 k1 k2 k3 k4 k5 e kt vt _ _ _ _ 6 (by decide) (dds_7 w os vl fl fr it td G gt nf k0 k1 k2 k3 k4 k5 e kt vt f hf hg))
theorem dds_5 (vl fl fr it td : Nat) (G : List Nat) (gt : Nat → Nat) (nf k0 k1 k2 k3 k4 k5 : Nat) (e kt vt f : Nat → Nat) (hf : ∀ j < 12, G[j]? = some (f j)) (hg : ∀ j, f j < 4) : DD w os vl fl fr it td (refL e) (DL G gt) 12 nf k0 k1 k2 k3 k4 k5 (tupL e kt vt 5) (tabF f vt) (tabT f vt 5) 5 7 :=
  dd_1 w os vl fl fr it td (refL e) (DL G gt) 12 nf k0 k1 k2 k3 k4 k5 _ _ _ _ _ _ _ _ _ _ _ _ _ _ _ _ _ _ _ _ _ _ _ _ _ (gt 5) (f 5) 5 6 (vwS 5) _ _ (hg 5) rfl (DL_get (hf 5 (by decide))) (by decide) (tabT_key (by decide)) tabT_len (ddp w os vl fl fr it td (refL e) (DL G gt) 12 nf k0 k1 k2 k3 k4 k5 e kt vt _ _ _ _ 5 (by decide) (dds_6 w os vl fl fr it td G gt nf k0 k1 k2 k3 k4 k5 e kt vt f hf hg))
theorem dds_4 (vl fl fr it td : Nat) (G : List Nat) (gt : Nat → Nat) (nf k0 k1 k2 k3 k4 k5 : Nat) (e kt vt f : Nat → Nat) (hf : ∀ j < 12, G[j]? = some (f j)) (hg : ∀ j, f j < 4) : DD w os vl fl fr it td (refL e) (DL G gt) 12 nf k0 k1 k2 k3 k4 k5 (tupL e kt vt 4) (tabF f vt) (tabT f vt 4) 4 8 :=
  dd_1 w os vl fl fr it td (refL e) (DL G gt) 12 nf k0 k1 k2 k3 k4 k5 _ _ _ _ _ _ _ _ _ _ _ _ _ _ _ _ _ _ _ _ _ _ _ _ _ (gt 4) (f 4) 4 7 (vwS 4) _ _ (hg 4) rfl (DL_get (hf 4 (by decide))) (by decide) (tabT_key (by decide)) tabT_len (ddp w os vl fl fr it td (refL e) (DL G gt) 12 nf k0 k1 k2 k3 k4 k5 e kt vt _ _ _ _ 4 (by decide) (dds_5 w os vl fl fr it td G gt nf k0 k1 k2 k3 k4 k5 e kt vt f hf hg))
theorem dds_3 (vl fl fr it td : Nat) (G : List Nat) (gt : Nat → Nat) (nf k0 k1 k2 k3 k4 k5 : Nat) (e kt vt f : Nat → Nat) (hf : ∀ j < 12, G[j]? = some (f j)) (hg : ∀ j, f j < 4) : DD w os vl fl fr it td (refL e) (DL G gt) 12 nf k0 k1 k2 k3 k4 k5 (tupL e kt vt 3) (tabF f vt) (tabT f vt 3) 3 9 :=
  dd_0 w os vl fl fr it td (refL e) (DL G gt) 12 nf k0 k1 k2 k3 k4 k5 _ _ _ _ _ _ _ _ _ _ _ _ _ _ _ _ _ _ _ _ _ _ _ _ _ (gt 3) (f 3) 3 8 (vwS 3) _ _ (hg 3) rfl (DL_get (hf 3 (by decide))) (by decide) (tabT_key (by decide)) tabT_len (ddp w os vl fl fr it td (refL e) (DL G gt) 12 nf k0 k1 k2 k3 k4 k5 e kt vt _ _ _ _ 3 (by decide) (dds_4 w os vl fl fr it td G gt nf k0 k1 k2 k3 k4 k5 e kt vt f hf hg))
theorem dds_2 (vl fl fr it td : Nat) (G : List Nat) (gt : Nat → Nat) (nf k0 k1 k2 k3 k4 k5 : Nat) (e kt vt f : Nat → Nat) (hf : ∀ j < 12, G[j]? = some (f j)) (hg : ∀ j, f j < 4) : DD w os vl fl fr it td (refL e) (DL G gt) 12 nf k0 k1 k2 k3 k4 k5 (tupL e kt vt 2) (tabF f vt) (tabT f vt 2) 2 10 :=
  dd_0 w os vl fl fr it td (refL e) (DL G gt) 12 nf k0 k1 k2 k3 k4 k5 _ _ _ _ _ _ _ _ _ _ _ _ _ _ _ _ _ _ _ _ _ _ _ _ _ (gt 2) (f 2) 2 9 (vwS 2) _ _ (hg 2) rfl (DL_get (hf 2 (by decide))) (by decide) (tabT_key (by decide)) tabT_len (ddp w os vl fl fr it td (refL e) (DL G gt) 12 nf k0 k1 k2 k3 k4 k5 e kt vt _ _ _ _ 2 (by decide) (dds_3 w os vl fl fr it td G gt nf k0 k1 k2 k3 k4 k5 e kt vt f hf hg))
theorem dds_1 (vl fl fr it td : Nat) (G : List Nat) (gt : Nat → Nat) (nf k0 k1 k2 k3 k4 k5 : Nat) (e kt vt f : Nat → Nat) (hf : ∀ j < 12, G[j]? = some (f j)) (hg : ∀ j, f j < 4) : DD w os vl fl fr it td (refL e) (DL G gt) 12 nf k0 k1 k2 k3 k4 k5 (tupL e kt vt 1) (tabF f vt) (tabT f vt 1) 1 11 :=
  dd_0 w os vl fl fr it td (refL e) (DL G gt) 12 nf k0 k1 k2 k3 k4 k5 _ _ _ _ _ _ _ _ _ _ _ _ _ _ _ _ _ _ _ _ _ _ _ _ _ (gt 1) (f 1) 1 10 (vwS 1) _ _ (hg 1) rfl (DL_get (hf 1 (by decide))) (by decide) (tabT_key (by decide)) tabT_len (ddp w os vl fl fr it td (refL e) (DL G gt) 12 nf k0 k1 k2 k3 k4 k5 e kt vt _ _ _ _ 1 (by decide) (dds_2 w os vl fl fr it td G gt nf k0 k1 k2 k3 k4 k5 e kt vt f hf hg))
theorem dds_0 (vl fl fr it td : Nat) (G : List Nat) (gt : Nat → Nat) (nf k0 k1 k2 k3 k4 k5 : Nat) (e kt vt f : Nat → Nat) (hf : ∀ j < 12, G[j]? = some (f j)) (hg : ∀ j, f j < 4) : DDf w os vl fl fr it td (refL e) (DL G gt) 12 nf k0 k1 k2 k3 k4 k5 (tupL e kt vt 0) (tabF f vt) (tabT f vt 0) 0 12 :=
  dd_0f w os vl fl fr it td (refL e) (DL G gt) 12 nf k0 k1 k2 k3 k4 k5 _ _ _ _ _ _ _ _ _ _ _ _ _ _ _ _ _ _ _ _ _ _ _ _ _ (gt 0) (f 0) 0 11 (vwS 0) _ _ (hg 0) rfl (DL_get (hf 0 (by decide))) (by decide) (tabT_key (by decide)) tabT_len (fun k3' k4' k5' => ddp w os vl fl fr it td (refL e) (DL G gt) 12 nf k0 k1 k2 k3' k4' k5' e kt vt _ _ _ _ 0 (by decide) (dds_1 w os vl fl fr it td G gt nf k0 k1 k2 k3' k4' k5' e kt vt f hf hg))
theorem drawn_s (vl fl : Nat) (e kt vt f : Nat → Nat) (G : List Nat) (gt : Nat → Nat) (hf : ∀ j < 12, G[j]? = some (f j)) (hg : ∀ j, f j < 4) : CS w os 400 (.call (.ref 137) ⟨[.ref vl, .ref fl], []⟩) ([(vl, lst (refL e) 12), (fl, lsO (DL G gt) 0)] ++ tupL e kt vt 0) 1 (fun x => rOk (.ref (x.a 0))) (fun _ => [lst (refL e) 12, lsO (DL G gt) 0] ++ (tupL e kt vt 0).map (·.2)) (fun x => [dcE w (tabL (tabF f vt) (fun j => x.a (j + 3)))]) :=
  drawn_b w os vl fl _ _ _ _ _ _ _ _ _ _ _ _ _ _ _ _ _ _ _ _ _ _ _ _ (refL e) (DL G gt) 12 0 _ fun it fr td k0 k1 k2 => dds_0 w os vl fl fr it td G gt 0 k0 k1 k2 0 0 0 e kt vt f hf hg (fun _ => 0)
end
end Mine
end
section
open PySem PySem.Spec PySem.Calls PyProof.Rows PySem.W PySem.W.X
set_option maxRecDepth 100000
set_option linter.unusedVariables false
set_option linter.unusedSimpArgs false
namespace Mine
section
variable (w : World) (os : OsState)
noncomputable def LM (it acc loc fr cw cb wla bl : Nat) (τ : Nat → Nat) (G : List Nat) (gt : Nat → Nat) (k0 : Nat) (out : List Value) (nn : Nat) (xs : List Value) (nx t m : Nat) : Prop := ∀ (v0 : Value), CS w os 560 (compC w 166 [9] it acc loc fr [(⟨Zae⟩, cw), (⟨Zai⟩, cb)]) [(it, rgI (Int.ofNat t) (Int.ofNat m)), (acc, lsO xs nx), (loc, dq10 w k0 v0), (cw, cellO (.ref wla)), (cb, cellO (.ref bl)), (wla, wordsO τ), (bl, lsO (DL G gt) 0)] 0 rNx (fun x => [x.o 0, lsO out nn, dq10 w k0 (x.v 0), cellO (.ref wla), cellO (.ref bl), wordsO τ, lsO (DL G gt) 0]) oNl
noncomputable def LMf (it acc loc fr cw cb wla bl : Nat) (τ : Nat → Nat) (G : List Nat) (gt : Nat → Nat) (out : List Value) (nn : Nat) (xs : List Value) (nx t m : Nat) : Prop := CS w os 560 (compC w 166 [9] it acc loc fr [(⟨Zae⟩, cw), (⟨Zai⟩, cb)]) [(it, rgI (Int.ofNat t) (Int.ofNat m)), (acc, lsO xs nx), (loc, dcE w []), (cw, cellO (.ref wla)), (cb, cellO (.ref bl)), (wla, wordsO τ), (bl, lsO (DL G gt) 0)] 0 rNx (fun x => [x.o 0, lsO out nn, dq10 w (x.a 0) (x.v 0), cellO (.ref wla), cellO (.ref bl), wordsO τ, lsO (DL G gt) 0]) oNl
noncomputable def LCh (it acc loc fr cw cp wla : Nat) (τ : Nat → Nat) (P z : Nat) (k0 : Nat) (out : List Value) (nn : Nat) (xs : List Value) (nx t m : Nat) : Prop := ∀ (v0 : Value), CS w os 560 (compC w 166 [10] it acc loc fr [(⟨Zae⟩, cw), (⟨Zaj⟩, cp)]) [(it, rgI (Int.ofNat t) (Int.ofNat m)), (acc, lsO xs nx), (loc, dq10 w k0 v0), (cw, cellO (.ref wla)), (cp, cellO (.int (Int.ofNat P) z)), (wla, wordsO τ)] 0 rNx (fun x => [x.o 0, lsO out nn, dq10 w k0 (x.v 0), cellO (.ref wla), cellO (.int (Int.ofNat P) z), wordsO τ]) oNl
noncomputable def LChf (it acc loc fr cw cp wla : Nat) (τ : Nat → Nat) (P z : Nat) (out : List Value) (nn : Nat) (xs : List Value) (nx t m : Nat) : Prop := CS w os 560 (compC w 166 [10] it acc loc fr [(⟨Zae⟩, cw), (⟨Zaj⟩, cp)]) [(it, rgI (Int.ofNat t) (Int.ofNat m)), (acc, lsO xs nx), (loc, dcE w []), (cw, cellO (.ref wla)), (cp, cellO (.int (Int.ofNat P) z)), (wla, wordsO τ)] 0 rNx (fun x => [x.o 0, lsO out nn, dq10 w (x.a 0) (x.v 0), cellO (.ref wla), cellO (.int (Int.ofNat P) z), wordsO τ]) oNl
noncomputable def LD (it acc loc fr wla cc cf chl fal : Nat) (τ : Nat → Nat) (A F : List Nat) (nc nf : Nat) (k0 : Nat) (out : List Value) (nn : Nat) (xs : List Value) (nx t m : Nat) : Prop := ∀ (v0 : Value), CS w os 560 (compC w 166 [15] it acc loc fr [(⟨Zag⟩, cf), (⟨Zah⟩, cc)]) [(it, itO wla t), (wla, wordsO τ), (acc, lsO xs nx), (loc, dq11 w k0 v0), (cc, cellO (.ref chl)), (cf, cellO (.ref fal)), (chl, lsO (wl τ A) nc), (fal, lsO (wl τ F) nf)] 0 rNx (fun x => [x.o 0, wordsO τ, lsO out nn, dq11 w k0 (x.v 0), cellO (.ref chl), cellO (.ref fal), lsO (wl τ A) nc, lsO (wl τ F) nf]) oNl
noncomputable def LDf (it acc loc fr wla cc cf chl fal : Nat) (τ : Nat → Nat) (A F : List Nat) (nc nf : Nat) (out : List Value) (nn : Nat) (xs : List Value) (nx t m : Nat) : Prop := CS w os 560 (compC w 166 [15] it acc loc fr [(⟨Zag⟩, cf), (⟨Zah⟩, cc)]) [(it, itO wla t), (wla, wordsO τ), (acc, lsO xs nx), (loc, dcE w []), (cc, cellO (.ref chl)), (cf, cellO (.ref fal)), (chl, lsO (wl τ A) nc), (fal, lsO (wl τ F) nf)] 0 rNx (fun x => [x.o 0, wordsO τ, lsO out nn, dq11 w (x.a 0) (x.v 0), cellO (.ref chl), cellO (.ref fal), lsO (wl τ A) nc, lsO (wl τ F) nf]) oNl
noncomputable def bitB (b : Nat → Nat) (n : Nat) : Bool := b n == 1
theorem lm_step (it acc loc fr cw cb wla bl : Nat) (τ : Nat → Nat) (G : List Nat) (gt : Nat → Nat) (b : Nat → Nat) (hb : ∀ j < 8, G[j]? = some (b j)) (k0 : Nat) (out : List Value) (nn t m : Nat) (ht : t < 8) (hN : LM w os it acc loc fr cw cb wla bl τ G gt k0 out nn (toldS (bitB b) τ (t + 1)) (upTo (bitB b) (t + 1)).length (t + 1) m) : LM w os it acc loc fr cw cb wla bl τ G gt k0 out nn (toldS (bitB b) τ t) (upTo (bitB b) t).length t (m + 1) := by
  have hv : (wl τ (List.range 8))[t]? = some (sv (wdN t) (τ t)) := wl_get (by rw [List.getElem?_range ht])
  have hx : (toldS (bitB b) τ t).length ≤ 100 := le_of_8 toldS_len ht (by decide)
  rw [← toldS_next, ← toldN_next] at hN
  intro v0
  cases hq : (bitB b) t with
  | true =>
    rw [hq] at hN
    exact lm_T w os it acc loc fr cw cb wla bl (wl τ (List.range 8)) (DL G gt) (toldS (bitB b) τ t) 8 0 _ t m (sv (wdN t) (τ t)) (Int.ofNat (b t)) (gt t) hx k0 v0 hv (DL_get (hb t ht)) (Nat.lt_trans ht (by decide)) (by rw [show (1 : Int) = Int.ofNat 1 from rfl, beqO]; exact hq) out nn (fun v0 => hN v0)
  | false =>
    rw [hq] at hN
    exact lm_F w os it acc loc fr cw cb wla bl (wl τ (List.range 8)) (DL G gt) (toldS (bitB b) τ t) 8 0 _ t m (sv (wdN t) (τ t)) (Int.ofNat (b t)) (gt t) hx k0 v0 hv (DL_get (hb t ht)) (Nat.lt_trans ht (by decide)) (by rw [show (1 : Int) = Int.ofNat 1 from rfl, beqO]; exact hq) out nn (fun v0 => hN v0)
theorem lm_stepf (it acc loc fr cw cb wla bl : Nat) (τ : Nat → Nat) (G : List Nat) (gt : Nat → Nat) (b : Nat → Nat) (hb : ∀ j < 8, G[j]? = some (b j)) (out : List Value) (nn t m : Nat) (ht : t < 8) (hN : ∀ k0, LM w os it acc loc fr cw cb wla bl τ G gt k0 out nn (toldS (bitB b) τ (t + 1)) (upTo (bitB b) (t + 1)).length (t + 1) m) : LMf w os it acc loc fr cw cb wla bl τ G gt out nn (toldS (bitB b) τ t) (upTo (bitB b) t).length t (m + 1) := by
  have hv : (wl τ (List.range 8))[t]? = some (sv (wdN t) (τ t)) := wl_get (by rw [List.getElem?_range ht])
  have hx : (toldS (bitB b) τ t).length ≤ 100 := le_of_8 toldS_len ht (by decide)
  rw [← toldS_next, ← toldN_next] at hN
  
  cases hq : (bitB b) t with
  | true =>
    rw [hq] at hN
    exact lm_Tf w os it acc loc fr cw cb wla bl (wl τ (List.range 8)) (DL G gt) (toldS (bitB b) τ t) 8 0 _ t m (sv (wdN t) (τ t)) (Int.ofNat (b t)) (gt t) hx hv (DL_get (hb t ht)) (Nat.lt_trans ht (by decide)) (by rw [show (1 : Int) = Int.ofNat 1 from rfl, beqO]; exact hq) out nn (fun v0 k0 => hN k0 v0)
  | false =>
    rw [hq] at hN
    exact lm_Ff w os it acc loc fr cw cb wla bl (wl τ (List.range 8)) (DL G gt) (toldS (bitB b) τ t) 8 0 _ t m (sv (wdN t) (τ t)) (Int.ofNat (b t)) (gt t) hx hv (DL_get (hb t ht)) (Nat.lt_trans ht (by decide)) (by rw [show (1 : Int) = Int.ofNat 1 from rfl, beqO]; exact hq) out nn (fun v0 k0 => hN k0 v0)
theorem lm_loop (it acc loc fr cw cb wla bl : Nat) (τ : Nat → Nat) (G : List Nat) (gt : Nat → Nat) (b : Nat → Nat) (hb : ∀ j < 8, G[j]? = some (b j)) (k0 : Nat) : ∀ m t, t + m = 8 → LM w os it acc loc fr cw cb wla bl τ G gt k0 (toldS (bitB b) τ 8) (upTo (bitB b) 8).length (toldS (bitB b) τ t) (upTo (bitB b) t).length t m
  | 0, t, h => by
    have : t = 8 := by omega
    subst this
    exact fun v0 => lm_end w os it acc loc fr cw cb wla bl _ _ 8 _ _ 0 (Int.ofNat 8) k0 v0
  | m + 1, t, h => lm_step w os it acc loc fr cw cb wla bl τ G gt b hb k0 _ _ t m (t8 h).1 (lm_loop it acc loc fr cw cb wla bl τ G gt b hb k0 m (t + 1) (t8 h).2)
theorem lm_all (it acc loc fr cw cb wla bl : Nat) (τ : Nat → Nat) (G : List Nat) (gt : Nat → Nat) (b : Nat → Nat) (hb : ∀ j < 8, G[j]? = some (b j)) : LMf w os it acc loc fr cw cb wla bl τ G gt (wl τ (upTo (bitB b) 8)) (upTo (bitB b) 8).length [] 0 0 8 :=
  lm_stepf w os it acc loc fr cw cb wla bl τ G gt b hb _ _ 0 7 (by omega) fun k0 => lm_loop w os it acc loc fr cw cb wla bl τ G gt b hb k0 7 (0 + 1) (by omega)
noncomputable def binF (P n : Nat) : Nat := P / 2 ^ n % 2
theorem pow2_ok : ∀ t < 8, 0 < 2 ^ t ∧ 2 ^ t < 2 ^ 60 := by decide
theorem lch_step (it acc loc fr cw cp wla : Nat) (τ : Nat → Nat) (P z : Nat)  (k0 : Nat) (out : List Value) (nn t m : Nat) (ht : t < 8) (hN : LCh w os it acc loc fr cw cp wla τ P z k0 out nn (toldS (bitB (binF P)) τ (t + 1)) (upTo (bitB (binF P)) (t + 1)).length (t + 1) m) : LCh w os it acc loc fr cw cp wla τ P z k0 out nn (toldS (bitB (binF P)) τ t) (upTo (bitB (binF P)) t).length t (m + 1) := by
  have hv : (wl τ (List.range 8))[t]? = some (sv (wdN t) (τ t)) := wl_get (by rw [List.getElem?_range ht])
  have hx : (toldS (bitB (binF P)) τ t).length ≤ 100 := le_of_8 toldS_len ht (by decide)
  rw [← toldS_next, ← toldN_next] at hN
  intro v0
  cases hq : (bitB (binF P)) t with
  | true =>
    rw [hq] at hN
    exact lc_T w os it acc loc fr cw cp wla (wl τ (List.range 8)) (toldS (bitB (binF P)) τ t) 8 _ t m (sv (wdN t) (τ t)) P z hx k0 v0 hv (Nat.lt_trans ht (by decide)) (2 ^ t) (P / 2 ^ t) (P / 2 ^ t % 2) rfl rfl rfl (pow2_ok t ht).1 (pow2_ok t ht).2 (by rw [show (1 : Int) = Int.ofNat 1 from rfl, beqO]; exact hq) out nn (fun v0 => hN v0)
  | false =>
    rw [hq] at hN
    exact lc_F w os it acc loc fr cw cp wla (wl τ (List.range 8)) (toldS (bitB (binF P)) τ t) 8 _ t m (sv (wdN t) (τ t)) P z hx k0 v0 hv (Nat.lt_trans ht (by decide)) (2 ^ t) (P / 2 ^ t) (P / 2 ^ t % 2) rfl rfl rfl (pow2_ok t ht).1 (pow2_ok t ht).2 (by rw [show (1 : Int) = Int.ofNat 1 from rfl, beqO]; exact hq) out nn (fun v0 => hN v0)
theorem lch_stepf (it acc loc fr cw cp wla : Nat) (τ : Nat → Nat) (P z : Nat)  (out : List Value) (nn t m : Nat) (ht : t < 8) (hN : ∀ k0, LCh w os it acc loc fr cw cp wla τ P z k0 out nn (toldS (bitB (binF P)) τ (t + 1)) (upTo (bitB (binF P)) (t + 1)).length (t + 1) m) : LChf w os it acc loc fr cw cp wla τ P z out nn (toldS (bitB (binF P)) τ t) (upTo (bitB (binF P)) t).length t (m + 1) := by
  have hv : (wl τ (List.range 8))[t]? = some (sv (wdN t) (τ t)) := wl_get (by rw [List.getElem?_range ht])
  have hx : (toldS (bitB (binF P)) τ t).length ≤ 100 := le_of_8 toldS_len ht (by decide)
  rw [← toldS_next, ← toldN_next] at hN
  
  cases hq : (bitB (binF P)) t with
  | true =>
    rw [hq] at hN
    exact lc_Tf w os it acc loc fr cw cp wla (wl τ (List.range 8)) (toldS (bitB (binF P)) τ t) 8 _ t m (sv (wdN t) (τ t)) P z hx hv (Nat.lt_trans ht (by decide)) (2 ^ t) (P / 2 ^ t) (P / 2 ^ t % 2) rfl rfl rfl (pow2_ok t ht).1 (pow2_ok t ht).2 (by rw [show (1 : Int) = Int.ofNat 1 from rfl, beqO]; exact hq) out nn (fun v0 k0 => hN k0 v0)
  | false =>
    rw [hq] at hN
    exact lc_Ff w os it acc loc fr cw cp wla (wl τ (List.range 8)) (toldS (bitB (binF P)) τ t) 8 _ t m (sv (wdN t) (τ t)) P z hx hv (Nat.lt_trans ht (by decide)) (2 ^ t) (P / 2 ^ t) (P / 2 ^ t % 2) rfl rfl rfl (pow2_ok t ht).1 (pow2_ok t ht).2 (by rw [show (1 : Int) = Int.ofNat 1 from rfl, beqO]; exact hq) out nn (fun v0 k0 => hN k0 v0)
theorem lch_loop (it acc loc fr cw cp wla : Nat) (τ : Nat → Nat) (P z : Nat)  (k0 : Nat) : ∀ m t, t + m = 8 → LCh w os it acc loc fr cw cp wla τ P z k0 (toldS (bitB (binF P)) τ 8) (upTo (bitB (binF P)) 8).length (toldS (bitB (binF P)) τ t) (upTo (bitB (binF P)) t).length t m
  | 0, t, h => by
    have : t = 8 := by omega
    subst this
    exact fun v0 => lc_end w os it acc loc fr cw cp wla _ _ 8 _ P z (Int.ofNat 8) k0 v0
  | m + 1, t, h => lch_step w os it acc loc fr cw cp wla τ P z  k0 _ _ t m (t8 h).1 (lch_loop it acc loc fr cw cp wla τ P z  k0 m (t + 1) (t8 h).2)
theorem lch_all (it acc loc fr cw cp wla : Nat) (τ : Nat → Nat) (P z : Nat)  : LChf w os it acc loc fr cw cp wla τ P z (wl τ (upTo (bitB (binF P)) 8)) (upTo (bitB (binF P)) 8).length [] 0 0 8 :=
  lch_stepf w os it acc loc fr cw cp wla τ P z  _ _ 0 7 (by omega) fun k0 => lch_loop w os it acc loc fr cw cp wla τ P z  k0 7 (0 + 1) (by omega)
noncomputable def dueB (A F : List Nat) (i : Nat) : Bool := A.contains i || F.contains i
theorem ld_step (it acc loc fr wla cc cf chl fal : Nat) (τ : Nat → Nat) (A F : List Nat) (nc nf : Nat) (hA : ∀ s ∈ A, s < 8) (hF : ∀ s ∈ F, s < 8) (k0 : Nat) (out : List Value) (nn t m : Nat) (ht : t < 8) (hN : LD w os it acc loc fr wla cc cf chl fal τ A F nc nf k0 out nn (toldS (dueB A F) τ (t + 1)) (upTo (dueB A F) (t + 1)).length (t + 1) m) : LD w os it acc loc fr wla cc cf chl fal τ A F nc nf k0 out nn (toldS (dueB A F) τ t) (upTo (dueB A F) t).length t (m + 1) := by
  have hv : (wl τ (List.range 8))[t]? = some (sv (wdN t) (τ t)) := wl_get (by rw [List.getElem?_range ht])
  have hx : (toldS (dueB A F) τ t).length ≤ 100 := le_of_8 toldS_len ht (by decide)
  rw [← toldS_next, ← toldN_next] at hN
  intro v0
  cases hq : (dueB A F) t with
  | true =>
    rw [hq] at hN
    cases hc : A.contains t with
    | true => exact ld_C w os it acc loc fr wla cc cf chl fal (wl τ (List.range 8)) (toldS (dueB A F) τ t) (wl τ A) (wl τ F) 8 _ nc nf t (wdN t) (τ t) hx k0 v0 hv (wl_in w os τ A chl t (τ t) nc hA ht hc) out nn (fun v0 => hN v0)
    | false =>
      have h2 : F.contains t = true := by unfold dueB at hq; rw [hc] at hq; exact hq
      exact ld_F w os it acc loc fr wla cc cf chl fal (wl τ (List.range 8)) (toldS (dueB A F) τ t) (wl τ A) (wl τ F) 8 _ nc nf t (wdN t) (τ t) hx k0 v0 hv (wl_in w os τ A chl t (τ t) nc hA ht hc) (wl_in w os τ F fal t (τ t) nf hF ht h2) out nn (fun v0 => hN v0)
  | false =>
    rw [hq] at hN
    have hc : A.contains t = false := (Bool.or_eq_false_iff.mp hq).1
    have h2 : F.contains t = false := (Bool.or_eq_false_iff.mp hq).2
    exact ld_N w os it acc loc fr wla cc cf chl fal (wl τ (List.range 8)) (toldS (dueB A F) τ t) (wl τ A) (wl τ F) 8 _ nc nf t (wdN t) (τ t) hx k0 v0 hv (wl_in w os τ A chl t (τ t) nc hA ht hc) (wl_in w os τ F fal t (τ t) nf hF ht h2) out nn (fun v0 => hN v0)
theorem ld_stepf (it acc loc fr wla cc cf chl fal : Nat) (τ : Nat → Nat) (A F : List Nat) (nc nf : Nat) (hA : ∀ s ∈ A, s < 8) (hF : ∀ s ∈ F, s < 8) (out : List Value) (nn t m : Nat) (ht : t < 8) (hN : ∀ k0, LD w os it acc loc fr wla cc cf chl fal τ A F nc nf k0 out nn (toldS (dueB A F) τ (t + 1)) (upTo (dueB A F) (t + 1)).length (t + 1) m) : LDf w os it acc loc fr wla cc cf chl fal τ A F nc nf out nn (toldS (dueB A F) τ t) (upTo (dueB A F) t).length t (m + 1) := by
  have hv : (wl τ (List.range 8))[t]? = some (sv (wdN t) (τ t)) := wl_get (by rw [List.getElem?_range ht])
  have hx : (toldS (dueB A F) τ t).length ≤ 100 := le_of_8 toldS_len ht (by decide)
  rw [← toldS_next, ← toldN_next] at hN
  
  cases hq : (dueB A F) t with
  | true =>
    rw [hq] at hN
    cases hc : A.contains t with
    | true => exact ld_Cf w os it acc loc fr wla cc cf chl fal (wl τ (List.range 8)) (toldS (dueB A F) τ t) (wl τ A) (wl τ F) 8 _ nc nf t (wdN t) (τ t) hx hv (wl_in w os τ A chl t (τ t) nc hA ht hc) out nn (fun v0 k0 => hN k0 v0)
    | false =>
      have h2 : F.contains t = true := by unfold dueB at hq; rw [hc] at hq; exact hq
      exact ld_Ff w os it acc loc fr wla cc cf chl fal (wl τ (List.range 8)) (toldS (dueB A F) τ t) (wl τ A) (wl τ F) 8 _ nc nf t (wdN t) (τ t) hx hv (wl_in w os τ A chl t (τ t) nc hA ht hc) (wl_in w os τ F fal t (τ t) nf hF ht h2) out nn (fun v0 k0 => hN k0 v0)
  | false =>
    rw [hq] at hN
    have hc : A.contains t = false := (Bool.or_eq_false_iff.mp hq).1
    have h2 : F.contains t = false := (Bool.or_eq_false_iff.mp hq).2
    exact ld_Nf w os it acc loc fr wla cc cf chl fal (wl τ (List.range 8)) (toldS (dueB A F) τ t) (wl τ A) (wl τ F) 8 _ nc nf t (wdN t) (τ t) hx hv (wl_in w os τ A chl t (τ t) nc hA ht hc) (wl_in w os τ F fal t (τ t) nf hF ht h2) out nn (fun v0 k0 => hN k0 v0)
theorem ld_loop (it acc loc fr wla cc cf chl fal : Nat) (τ : Nat → Nat) (A F : List Nat) (nc nf : Nat) (hA : ∀ s ∈ A, s < 8) (hF : ∀ s ∈ F, s < 8) (k0 : Nat) : ∀ m t, t + m = 8 → LD w os it acc loc fr wla cc cf chl fal τ A F nc nf k0 (toldS (dueB A F) τ 8) (upTo (dueB A F) 8).length (toldS (dueB A F) τ t) (upTo (dueB A F) t).length t m
  | 0, t, h => by
    have : t = 8 := by omega
    subst this
    exact fun v0 => ld_end w os it acc loc fr wla cc cf chl fal _ _ _ _ 8 _ nc nf 8 rfl k0 v0
  | m + 1, t, h => ld_step w os it acc loc fr wla cc cf chl fal τ A F nc nf hA hF k0 _ _ t m (t8 h).1 (ld_loop it acc loc fr wla cc cf chl fal τ A F nc nf hA hF k0 m (t + 1) (t8 h).2)
theorem ld_all (it acc loc fr wla cc cf chl fal : Nat) (τ : Nat → Nat) (A F : List Nat) (nc nf : Nat) (hA : ∀ s ∈ A, s < 8) (hF : ∀ s ∈ F, s < 8) : LDf w os it acc loc fr wla cc cf chl fal τ A F nc nf (wl τ (upTo (dueB A F) 8)) (upTo (dueB A F) 8).length [] 0 0 8 :=
  ld_stepf w os it acc loc fr wla cc cf chl fal τ A F nc nf hA hF _ _ 0 7 (by omega) fun k0 => ld_loop w os it acc loc fr wla cc cf chl fal τ A F nc nf hA hF k0 7 (0 + 1) (by omega)
end
end Mine
end
section
open PySem PySem.Spec PySem.Calls PyProof.Rows PySem.W PySem.W.X
set_option maxRecDepth 100000
set_option linter.unusedVariables false
set_option linter.unusedSimpArgs false
namespace Mine
section
variable {w : World} {os : OsState} {KK : Nat → Option Obj} {d : Nat}
theorem inW {s t : Str} {u v : Nat} {b : Bool} (h : (!(Builtin.Str.occurrences s t 0 s.length 1).isEmpty) = b) : CSpec w KK os d (.builtin "str.__contains__" ⟨[.str s u, .str t v], []⟩) [] 0 (fun _ => rOk (.bool b)) oNl oNl := by
  subst h
  exact CSpec.gval F.entry_str_contains (by decide +kernel) (gives_str_contains s t u v)
end
noncomputable def isDig (c : Nat) : Bool := Nat.ble 48 c && Nat.ble c 57
theorem wsNo : ∀ c < 100, (isDig c || c == 34 || c == 92) = true → (!(Builtin.Str.occurrences ⟨#[10, 9, 13, 32]⟩ ⟨#[c]⟩ 0 4 1).isEmpty) = false := by decide +kernel
theorem wsNl : (!(Builtin.Str.occurrences ⟨#[10, 9, 13, 32]⟩ ⟨#[10]⟩ 0 4 1).isEmpty) = true := by decide +kernel
theorem dig_lt {c : Nat} (h : isDig c = true) : 48 ≤ c ∧ c ≤ 57 := by
  unfold isDig at h
  rw [Bool.and_eq_true] at h
  exact ⟨Nat.le_of_ble_eq_true h.1, Nat.le_of_ble_eq_true h.2⟩
theorem nb {a b : Nat} (h : a ≠ b) : ([a] == [b]) = false := by rw [beq_eq_false_iff_ne]; simpa using h
theorem dig_ne {c : Nat} (h : isDig c = true) : c ≠ 10 ∧ c ≠ 34 ∧ c ≠ 92 ∧ c ≠ 0 := by have := dig_lt h; omega
section
variable (w : World) (os : OsState)
theorem noW (c : Nat) (h : (isDig c || c == 34 || c == 92) = true) : ∀ t u, CS w os 990 (.builtin "str.__contains__" ⟨[.str ⟨#[10, 9, 13, 32]⟩ t, sv [c] u], []⟩) [] 0 (fun _ => rOk (.bool false)) oNl oNl := by
  intro t u
  refine inW ?_
  refine wsNo c ?_ h
  by_cases hd : isDig c = true
  · have := dig_lt hd; omega
  · simp only [Bool.not_eq_true] at hd
    rw [hd] at h
    simp only [Bool.false_or, Bool.or_eq_true, beq_iff_eq] at h
    omega
theorem nlW : ∀ t u, CS w os 990 (.builtin "str.__contains__" ⟨[.str ⟨#[10, 9, 13, 32]⟩ t, sv [10] u], []⟩) [] 0 (fun _ => rOk (.bool true)) oNl oNl := fun t u => inW wsNl
/-- the text has the signs xs at p -/
noncomputable def RD (s : Str) (p : Nat) (xs : List Nat) : Prop := ∀ (i : Nat) (c : Nat), xs[i]? = some c → s.cps[p + i]? = some c
theorem RD.hd {s : Str} {p x : Nat} {xs : List Nat} (h : RD s p (x :: xs)) : s.cps[p]? = some x := h 0 x rfl
theorem RD.tl {s : Str} {p x : Nat} {xs : List Nat} (h : RD s p (x :: xs)) : RD s (p + 1) xs := fun i c e => by
  rw [show p + 1 + i = p + (i + 1) by omega]; exact h (i + 1) c (by simpa using e)
theorem RD.app {s : Str} {p : Nat} {xs ys : List Nat} (h : RD s p (xs ++ ys)) : RD s (p + xs.length) ys := fun i c e => by
  rw [Nat.add_assoc]; exact h _ c (by rw [List.getElem?_append_right (by omega)]; simpa using e)
theorem RD.pre {s : Str} {p : Nat} {xs ys : List Nat} (h : RD s p (xs ++ ys)) : RD s p xs := fun i c e => h i c (by rw [List.getElem?_append_left (List.getElem?_eq_some_iff.mp e).1]; exact e)
noncomputable def GU (mi md pb st sd rf cd ct ca al tu cl fr bm fi : Nat) (ν : Nat → Nat) (n : Nat) (rd : Nat) (a0 : Value) (rest : List Value) (q : Nat) (s : Str) (ts na es k0 k1 k2 : Nat) (k3 : Nat) (out : List Nat) (P : Nat) (L2 : Int) (L : Int) (p : Nat) (sl : List Nat) : Prop := ∀ (lt tp tk : Nat) (vch : Value), CS w os 520 (forC w 78 [3, 101, 2] fi fr) (gI w mi md pb st sd rf cd ct ca al tu cl ν n rd a0 rest q s ts na L lt p tp ++ gJ fr (fq5 w k0 (.ref mi) k1 (sv sl tk) k2 (.ref fi) k3 vch) mi bm fi es) 0 (fun x => rOk (sv out (x.a 0))) (fun x => gO w mi md pb st sd rf cd ct ca al tu cl ν n rd a0 rest q s ts na L2 (x.a 2) P (x.a 1) ++ gP (x.o 0) mi bm es) oNl
noncomputable def GQ (mi md pb st sd rf cd ct ca al tu cl fr bm fi : Nat) (ν : Nat → Nat) (n : Nat) (rd : Nat) (a0 : Value) (rest : List Value) (q : Nat) (s : Str) (ts na es k0 k1 k2 : Nat) (k3 : Nat) (out : List Nat) (P : Nat) (L2 : Int) (L : Int) (p : Nat) (sl : List Nat) : Prop := ∀ (lt tp tk : Nat) (vch : Value), CS w os 520 (forC w 78 [3, 1, 0] fi fr) (gI w mi md pb st sd rf cd ct ca al tu cl ν n rd a0 rest q s ts na L lt p tp ++ gJ fr (fq5 w k0 (.ref mi) k1 (sv sl tk) k2 (.ref fi) k3 vch) mi bm fi es) 0 (fun x => rOk (sv out (x.a 0))) (fun x => gO w mi md pb st sd rf cd ct ca al tu cl ν n rd a0 rest q s ts na L2 (x.a 2) P (x.a 1) ++ gP (x.o 0) mi bm es) oNl
noncomputable def GO (mi md pb st sd rf cd ct ca al tu cl fr bm fi : Nat) (ν : Nat → Nat) (n : Nat) (rd : Nat) (a0 : Value) (rest : List Value) (q : Nat) (s : Str) (ts na es k0 k1 k2 : Nat) (k3 : Nat) (out : List Nat) (P : Nat) (L2 : Int) (L : Int) (p : Nat) (sl : List Nat) : Prop := ∀ (lt tp tk : Nat) (vch : Value), CS w os 480 (forC w 78 [3] fi fr) (gI w mi md pb st sd rf cd ct ca al tu cl ν n rd a0 rest q s ts na L lt p tp ++ gJ fr (fq5 w k0 (.ref mi) k1 (sv sl tk) k2 (.ref fi) k3 vch) mi bm fi es) 0 (fun x => rOk (sv out (x.a 0))) (fun x => gO w mi md pb st sd rf cd ct ca al tu cl ν n rd a0 rest q s ts na L2 (x.a 2) P (x.a 1) ++ gP (x.o 0) mi bm es) oNl
noncomputable def GOf (mi md pb st sd rf cd ct ca al tu cl fr bm fi : Nat) (ν : Nat → Nat) (n : Nat) (rd : Nat) (a0 : Value) (rest : List Value) (q : Nat) (s : Str) (ts na es k0 k1 k2 : Nat) (out : List Nat) (P : Nat) (L2 : Int) (L : Int) (p : Nat) (sl : List Nat) : Prop := ∀ (lt tp tk : Nat), CS w os 480 (forC w 78 [3] fi fr) (gI w mi md pb st sd rf cd ct ca al tu cl ν n rd a0 rest q s ts na L lt p tp ++ gJ fr (fq6 w k0 (.ref mi) k1 (sv sl tk) k2 (.ref fi)) mi bm fi es) 0 (fun x => rOk (sv out (x.a 0))) (fun x => gO w mi md pb st sd rf cd ct ca al tu cl ν n rd a0 rest q s ts na L2 (x.a 2) P (x.a 1) ++ gP (x.o 0) mi bm es) oNl
theorem gu_d (mi md pb st sd rf cd ct ca al tu cl fr bm fi : Nat) (ν : Nat → Nat) (n : Nat) (rd : Nat) (a0 : Value) (rest : List Value) (q : Nat) (s : Str) (ts na es k0 k1 k2 : Nat) (k3 : Nat) (out : List Nat) (P : Nat) (L2 : Int) (L : Int) (p : Nat) (sl : List Nat) (hsl : sl.length ≤ 800) (h2 : 2 ≤ s.length) (hp : p + 1 < 1000000) (c : Nat) (hd : isDig c = true) (hc : s.cps[p]? = some c) (hX : GU w os mi md pb st sd rf cd ct ca al tu cl fr bm fi ν n rd a0 rest q s ts na es k0 k1 k2 k3 out P L2 L (p + 1) (sl ++ [c])) : GU w os mi md pb st sd rf cd ct ca al tu cl fr bm fi ν n rd a0 rest q s ts na es k0 k1 k2 k3 out P L2 L p sl := by
  have hn := dig_ne hd
  have hw := noW w os c (by rw [hd]; rfl)
  obtain ⟨c, rfl⟩ : ∃ b, c = b + 1 := Nat.exists_eq_succ_of_ne_zero hn.2.2.2
  intro lt tp tk vch
  exact gU_n w os mi md pb st sd rf cd ct ca al tu cl fr bm fi ν n L lt rd a0 rest q s ts na p tp sl (Nat.le_trans hsl (by decide)) tk es k0 k1 k2 c k3 vch hc h2 hp (nb hn.1) (nb hn.2.1) (nb hn.2.2.1) hw P L2 out (fun a b v t => hX b a t v)
theorem gu_b (mi md pb st sd rf cd ct ca al tu cl fr bm fi : Nat) (ν : Nat → Nat) (n : Nat) (rd : Nat) (a0 : Value) (rest : List Value) (q : Nat) (s : Str) (ts na es k0 k1 k2 : Nat) (k3 : Nat) (out : List Nat) (P : Nat) (L2 : Int) (L : Int) (p : Nat) (sl : List Nat) (hsl : sl.length ≤ 800) (h2 : 2 ≤ s.length) (hp : p + 1 < 1000000) (c : Nat) (hd : isDig c = true) (hc : s.cps[p]? = some 92) (hc2 : s.cps[p + 1]? = some c) (hX : GU w os mi md pb st sd rf cd ct ca al tu cl fr bm fi ν n rd a0 rest q s ts na es k0 k1 k2 k3 out P L2 L (p + 1 + 1) (sl ++ [c])) : GU w os mi md pb st sd rf cd ct ca al tu cl fr bm fi ν n rd a0 rest q s ts na es k0 k1 k2 k3 out P L2 L p sl := by
  intro lt tp tk vch
  exact gU_b w os mi md pb st sd rf cd ct ca al tu cl fr bm fi ν n L lt rd a0 rest q s ts na p tp sl (Nat.le_trans hsl (by decide)) tk es k0 k1 k2 c k3 vch hc h2 hp hc2 (nb (dig_ne hd).1) (noW w os 92 rfl) P L2 out (fun a b v t => hX b a t v)
theorem gu_e (mi md pb st sd rf cd ct ca al tu cl fr bm fi : Nat) (ν : Nat → Nat) (n : Nat) (rd : Nat) (a0 : Value) (rest : List Value) (q : Nat) (s : Str) (ts na es k0 k1 k2 : Nat) (k3 : Nat) (L : Int) (p : Nat) (sl : List Nat) (hsl : sl.length ≤ 800) (h2 : 2 ≤ s.length) (hp : p + 1 < 1000000) (hc : s.cps[p]? = some 10) : GU w os mi md pb st sd rf cd ct ca al tu cl fr bm fi ν n rd a0 rest q s ts na es k0 k1 k2 k3 sl (p + 1) (L + 1) L p sl := by
  intro lt tp tk vch
  exact gU_e w os mi md pb st sd rf cd ct ca al tu cl fr bm fi ν n L lt rd a0 rest q s ts na p tp sl (Nat.le_trans hsl (by decide)) tk es k0 k1 k2 k3 vch hc h2 hp (nlW w os)
theorem gq_d (mi md pb st sd rf cd ct ca al tu cl fr bm fi : Nat) (ν : Nat → Nat) (n : Nat) (rd : Nat) (a0 : Value) (rest : List Value) (q : Nat) (s : Str) (ts na es k0 k1 k2 : Nat) (k3 : Nat) (out : List Nat) (P : Nat) (L2 : Int) (L : Int) (p : Nat) (sl : List Nat) (hsl : sl.length ≤ 800) (h2 : 2 ≤ s.length) (hp : p + 1 < 1000000) (c : Nat) (hc0 : c ≠ 0 ∧ c ≠ 10 ∧ c ≠ 34 ∧ c ≠ 92) (hc : s.cps[p]? = some c) (hX : GQ w os mi md pb st sd rf cd ct ca al tu cl fr bm fi ν n rd a0 rest q s ts na es k0 k1 k2 k3 out P L2 L (p + 1) (sl ++ [c])) : GQ w os mi md pb st sd rf cd ct ca al tu cl fr bm fi ν n rd a0 rest q s ts na es k0 k1 k2 k3 out P L2 L p sl := by
  have hn := hc0.2
  obtain ⟨c, rfl⟩ : ∃ b, c = b + 1 := Nat.exists_eq_succ_of_ne_zero hc0.1
  intro lt tp tk vch
  exact gQ_n w os mi md pb st sd rf cd ct ca al tu cl fr bm fi ν n L lt rd a0 rest q s ts na p tp sl (Nat.le_trans hsl (by decide)) tk es k0 k1 k2 c k3 vch hc h2 hp (nb hn.1) (nb hn.2.1) (nb hn.2.2) P L2 out (fun a b v t => hX b a t v)
theorem gq_e (mi md pb st sd rf cd ct ca al tu cl fr bm fi : Nat) (ν : Nat → Nat) (n : Nat) (rd : Nat) (a0 : Value) (rest : List Value) (q : Nat) (s : Str) (ts na es k0 k1 k2 : Nat) (k3 : Nat) (L : Int) (p : Nat) (sl : List Nat) (hsl : sl.length ≤ 800) (h2 : 2 ≤ s.length) (hp : p + 1 < 1000000) (hc : s.cps[p]? = some 34) : GQ w os mi md pb st sd rf cd ct ca al tu cl fr bm fi ν n rd a0 rest q s ts na es k0 k1 k2 k3 sl (p + 1) L L p sl := by
  intro lt tp tk vch
  exact gQ_e w os mi md pb st sd rf cd ct ca al tu cl fr bm fi ν n L lt rd a0 rest q s ts na p tp sl (Nat.le_trans hsl (by decide)) tk es k0 k1 k2 k3 vch hc h2 hp
theorem go_d (mi md pb st sd rf cd ct ca al tu cl fr bm fi : Nat) (ν : Nat → Nat) (n : Nat) (rd : Nat) (a0 : Value) (rest : List Value) (q : Nat) (s : Str) (ts na es k0 k1 k2 : Nat) (k3 : Nat) (out : List Nat) (P : Nat) (L2 : Int) (L : Int) (p : Nat) (sl : List Nat) (hsl : sl.length ≤ 800) (h2 : 2 ≤ s.length) (hp : p + 1 < 1000000) (c : Nat) (hd : isDig c = true) (hc : s.cps[p]? = some c) (hX : GU w os mi md pb st sd rf cd ct ca al tu cl fr bm fi ν n rd a0 rest q s ts na es k0 k1 k2 k3 out P L2 L (p + 1) (sl ++ [c])) : GO w os mi md pb st sd rf cd ct ca al tu cl fr bm fi ν n rd a0 rest q s ts na es k0 k1 k2 k3 out P L2 L p sl := by
  have hn := dig_ne hd
  have hw := noW w os c (by rw [hd]; rfl)
  obtain ⟨c, rfl⟩ : ∃ b, c = b + 1 := Nat.exists_eq_succ_of_ne_zero hn.2.2.2
  intro lt tp tk vch
  exact gO_n w os mi md pb st sd rf cd ct ca al tu cl fr bm fi ν n L lt rd a0 rest q s ts na p tp sl (Nat.le_trans hsl (by decide)) tk es k0 k1 k2 c k3 vch hc h2 hp (nb hn.1) (nb hn.2.1) (nb hn.2.2.1) hw P L2 out (fun a b v t => hX b a t v)
theorem go_df (mi md pb st sd rf cd ct ca al tu cl fr bm fi : Nat) (ν : Nat → Nat) (n : Nat) (rd : Nat) (a0 : Value) (rest : List Value) (q : Nat) (s : Str) (ts na es k0 k1 k2 : Nat) (out : List Nat) (P : Nat) (L2 : Int) (L : Int) (p : Nat) (sl : List Nat) (hsl : sl.length ≤ 800) (h2 : 2 ≤ s.length) (hp : p + 1 < 1000000) (c : Nat) (hd : isDig c = true) (hc : s.cps[p]? = some c) (hX : ∀ k3, GU w os mi md pb st sd rf cd ct ca al tu cl fr bm fi ν n rd a0 rest q s ts na es k0 k1 k2 k3 out P L2 L (p + 1) (sl ++ [c])) : GOf w os mi md pb st sd rf cd ct ca al tu cl fr bm fi ν n rd a0 rest q s ts na es k0 k1 k2 out P L2 L p sl := by
  have hn := dig_ne hd
  have hw := noW w os c (by rw [hd]; rfl)
  obtain ⟨c, rfl⟩ : ∃ b, c = b + 1 := Nat.exists_eq_succ_of_ne_zero hn.2.2.2
  intro lt tp tk
  exact gO_nf w os mi md pb st sd rf cd ct ca al tu cl fr bm fi ν n L lt rd a0 rest q s ts na p tp sl (Nat.le_trans hsl (by decide)) tk es k0 k1 k2 c hc h2 hp (nb hn.1) (nb hn.2.1) (nb hn.2.2.1) hw P L2 out (fun a b v t k3 => hX k3 b a t v)
theorem go_b (mi md pb st sd rf cd ct ca al tu cl fr bm fi : Nat) (ν : Nat → Nat) (n : Nat) (rd : Nat) (a0 : Value) (rest : List Value) (q : Nat) (s : Str) (ts na es k0 k1 k2 : Nat) (k3 : Nat) (out : List Nat) (P : Nat) (L2 : Int) (L : Int) (p : Nat) (sl : List Nat) (hsl : sl.length ≤ 800) (h2 : 2 ≤ s.length) (hp : p + 1 < 1000000) (c : Nat) (hd : isDig c = true) (hc : s.cps[p]? = some 92) (hc2 : s.cps[p + 1]? = some c) (hX : GU w os mi md pb st sd rf cd ct ca al tu cl fr bm fi ν n rd a0 rest q s ts na es k0 k1 k2 k3 out P L2 L (p + 1 + 1) (sl ++ [c])) : GO w os mi md pb st sd rf cd ct ca al tu cl fr bm fi ν n rd a0 rest q s ts na es k0 k1 k2 k3 out P L2 L p sl := by
  intro lt tp tk vch
  exact gO_b w os mi md pb st sd rf cd ct ca al tu cl fr bm fi ν n L lt rd a0 rest q s ts na p tp sl (Nat.le_trans hsl (by decide)) tk es k0 k1 k2 c k3 vch hc h2 hp hc2 (nb (dig_ne hd).1) (noW w os 92 rfl) P L2 out (fun a b v t => hX b a t v)
theorem go_bf (mi md pb st sd rf cd ct ca al tu cl fr bm fi : Nat) (ν : Nat → Nat) (n : Nat) (rd : Nat) (a0 : Value) (rest : List Value) (q : Nat) (s : Str) (ts na es k0 k1 k2 : Nat) (out : List Nat) (P : Nat) (L2 : Int) (L : Int) (p : Nat) (sl : List Nat) (hsl : sl.length ≤ 800) (h2 : 2 ≤ s.length) (hp : p + 1 < 1000000) (c : Nat) (hd : isDig c = true) (hc : s.cps[p]? = some 92) (hc2 : s.cps[p + 1]? = some c) (hX : ∀ k3, GU w os mi md pb st sd rf cd ct ca al tu cl fr bm fi ν n rd a0 rest q s ts na es k0 k1 k2 k3 out P L2 L (p + 1 + 1) (sl ++ [c])) : GOf w os mi md pb st sd rf cd ct ca al tu cl fr bm fi ν n rd a0 rest q s ts na es k0 k1 k2 out P L2 L p sl := by
  intro lt tp tk
  exact gO_bf w os mi md pb st sd rf cd ct ca al tu cl fr bm fi ν n L lt rd a0 rest q s ts na p tp sl (Nat.le_trans hsl (by decide)) tk es k0 k1 k2 c hc h2 hp hc2 (nb (dig_ne hd).1) (noW w os 92 rfl) P L2 out (fun a b v t k3 => hX k3 b a t v)
theorem go_q (mi md pb st sd rf cd ct ca al tu cl fr bm fi : Nat) (ν : Nat → Nat) (n : Nat) (rd : Nat) (a0 : Value) (rest : List Value) (q : Nat) (s : Str) (ts na es k0 k1 k2 : Nat) (k3 : Nat) (out : List Nat) (P : Nat) (L2 : Int) (L : Int) (p : Nat) (sl : List Nat) (hsl : sl.length ≤ 800) (h2 : 2 ≤ s.length) (hp : p + 1 < 1000000) (hc : s.cps[p]? = some 34) (hX : GQ w os mi md pb st sd rf cd ct ca al tu cl fr bm fi ν n rd a0 rest q s ts na es k0 k1 k2 k3 out P L2 L (p + 1) sl) : GO w os mi md pb st sd rf cd ct ca al tu cl fr bm fi ν n rd a0 rest q s ts na es k0 k1 k2 k3 out P L2 L p sl := by
  intro lt tp tk vch
  exact gO_q w os mi md pb st sd rf cd ct ca al tu cl fr bm fi ν n L lt rd a0 rest q s ts na p tp sl (Nat.le_trans hsl (by decide)) tk es k0 k1 k2 k3 vch hc h2 hp (noW w os 34 rfl) P L2 out (fun a b v => hX b a tk v)
theorem go_qf (mi md pb st sd rf cd ct ca al tu cl fr bm fi : Nat) (ν : Nat → Nat) (n : Nat) (rd : Nat) (a0 : Value) (rest : List Value) (q : Nat) (s : Str) (ts na es k0 k1 k2 : Nat) (out : List Nat) (P : Nat) (L2 : Int) (L : Int) (p : Nat) (sl : List Nat) (hsl : sl.length ≤ 800) (h2 : 2 ≤ s.length) (hp : p + 1 < 1000000) (hc : s.cps[p]? = some 34) (hX : ∀ k3, GQ w os mi md pb st sd rf cd ct ca al tu cl fr bm fi ν n rd a0 rest q s ts na es k0 k1 k2 k3 out P L2 L (p + 1) sl) : GOf w os mi md pb st sd rf cd ct ca al tu cl fr bm fi ν n rd a0 rest q s ts na es k0 k1 k2 out P L2 L p sl := by
  intro lt tp tk
  exact gO_qf w os mi md pb st sd rf cd ct ca al tu cl fr bm fi ν n L lt rd a0 rest q s ts na p tp sl (Nat.le_trans hsl (by decide)) tk es k0 k1 k2 hc h2 hp (noW w os 34 rfl) P L2 out (fun a b v k3 => hX k3 b a tk v)
theorem go_wf (mi md pb st sd rf cd ct ca al tu cl fr bm fi : Nat) (ν : Nat → Nat) (n : Nat) (rd : Nat) (a0 : Value) (rest : List Value) (q : Nat) (s : Str) (ts na es k0 k1 k2 : Nat) (out : List Nat) (P : Nat) (L2 : Int) (L : Int) (p : Nat) (sl : List Nat) (hsl : sl.length ≤ 800) (h2 : 2 ≤ s.length) (hp : p + 1 < 1000000) (hc : s.cps[p]? = some 10) (hX : ∀ k3, GO w os mi md pb st sd rf cd ct ca al tu cl fr bm fi ν n rd a0 rest q s ts na es k0 k1 k2 k3 out P L2 (L + 1) (p + 1) sl) : GOf w os mi md pb st sd rf cd ct ca al tu cl fr bm fi ν n rd a0 rest q s ts na es k0 k1 k2 out P L2 L p sl := by
  intro lt tp tk
  exact gO_wsf w os mi md pb st sd rf cd ct ca al tu cl fr bm fi ν n L lt rd a0 rest q s ts na p tp sl (Nat.le_trans hsl (by decide)) tk es k0 k1 k2 hc h2 hp (nlW w os) P L2 out (fun a b v k3 => hX k3 b a tk v)
noncomputable def bsl (ds : List Nat) : List Nat := ds.flatMap fun c => [92, c]
theorem bnd {a d p : Nat} (h : a + (d + 1) ≤ 800) (hp : p + (d + 1) + 2 < 1000000) : a ≤ 800 ∧ p + 1 < 1000000 ∧ a + 1 + d ≤ 800 ∧ p + 1 + d + 2 < 1000000 := by omega
theorem bnd2 {a d p : Nat} (h : a + (d + 1) ≤ 800) (hp : p + 2 * (d + 1) + 2 < 1000000) : a ≤ 800 ∧ p + 1 < 1000000 ∧ a + 1 + d ≤ 800 ∧ p + 1 + 1 + 2 * d + 2 < 1000000 := by omega
theorem eqb (p d : Nat) : p + (d + 1) + 1 = p + 1 + d + 1 := by omega
theorem eqb2 (p d : Nat) : p + 2 * (d + 1) + 1 = p + 1 + 1 + 2 * d + 1 := by omega
theorem len1 {sl : List Nat} {c d : Nat} (h : sl.length + 1 + d ≤ 800) : (sl ++ [c]).length + d ≤ 800 := by rw [List.length_append]; exact h
theorem gu_all (mi md pb st sd rf cd ct ca al tu cl fr bm fi : Nat) (ν : Nat → Nat) (n : Nat) (rd : Nat) (a0 : Value) (rest : List Value) (q : Nat) (s : Str) (ts na es k0 k1 k2 : Nat) (k3 : Nat) (L : Int) (h2 : 2 ≤ s.length) : ∀ (ds : List Nat) (p : Nat) (sl : List Nat), (∀ c ∈ ds, isDig c = true) → sl.length + ds.length ≤ 800 → p + ds.length + 2 < 1000000 → RD s p (ds ++ [10]) → GU w os mi md pb st sd rf cd ct ca al tu cl fr bm fi ν n rd a0 rest q s ts na es k0 k1 k2 k3 (sl ++ ds) (p + ds.length + 1) (L + 1) L p sl := by
  intro ds
  induction ds with
  | nil =>
    intro p sl hd hl hp hr
    rw [List.append_nil]
    exact gu_e w os mi md pb st sd rf cd ct ca al tu cl fr bm fi ν n rd a0 rest q s ts na es k0 k1 k2 k3 L p sl hl h2 (Nat.lt_of_succ_lt hp) hr.hd
  | cons c ds ih =>
    intro p sl hd hl hp hr
    have B := bnd hl hp
    have ih := ih (p + 1) (sl ++ [c]) (fun x hx => hd x (List.mem_cons_of_mem _ hx)) (len1 B.2.2.1) B.2.2.2 hr.tl
    rw [List.append_assoc] at ih
    rw [List.length_cons, eqb]
    exact gu_d w os mi md pb st sd rf cd ct ca al tu cl fr bm fi ν n rd a0 rest q s ts na es k0 k1 k2 k3 _ _ _ L p sl B.1 h2 B.2.1 c (hd c (List.mem_cons_self ..)) hr.hd ih
theorem gub_all (mi md pb st sd rf cd ct ca al tu cl fr bm fi : Nat) (ν : Nat → Nat) (n : Nat) (rd : Nat) (a0 : Value) (rest : List Value) (q : Nat) (s : Str) (ts na es k0 k1 k2 : Nat) (k3 : Nat) (L : Int) (h2 : 2 ≤ s.length) : ∀ (ds : List Nat) (p : Nat) (sl : List Nat), (∀ c ∈ ds, isDig c = true) → sl.length + ds.length ≤ 800 → p + 2 * ds.length + 2 < 1000000 → RD s p (bsl ds ++ [10]) → GU w os mi md pb st sd rf cd ct ca al tu cl fr bm fi ν n rd a0 rest q s ts na es k0 k1 k2 k3 (sl ++ ds) (p + 2 * ds.length + 1) (L + 1) L p sl := by
  intro ds
  induction ds with
  | nil =>
    intro p sl hd hl hp hr
    rw [List.append_nil]
    exact gu_e w os mi md pb st sd rf cd ct ca al tu cl fr bm fi ν n rd a0 rest q s ts na es k0 k1 k2 k3 L p sl hl h2 (Nat.lt_of_succ_lt hp) hr.hd
  | cons c ds ih =>
    intro p sl hd hl hp hr
    have hr' : RD s p (92 :: c :: (bsl ds ++ [10])) := hr
    have B := bnd2 hl hp
    have ih := ih (p + 1 + 1) (sl ++ [c]) (fun x hx => hd x (List.mem_cons_of_mem _ hx)) (len1 B.2.2.1) B.2.2.2 hr'.tl.tl
    rw [List.append_assoc] at ih
    rw [List.length_cons, eqb2]
    exact gu_b w os mi md pb st sd rf cd ct ca al tu cl fr bm fi ν n rd a0 rest q s ts na es k0 k1 k2 k3 _ _ _ L p sl B.1 h2 B.2.1 c (hd c (List.mem_cons_self ..)) hr'.hd hr'.tl.hd ih
theorem gq_all (mi md pb st sd rf cd ct ca al tu cl fr bm fi : Nat) (ν : Nat → Nat) (n : Nat) (rd : Nat) (a0 : Value) (rest : List Value) (q : Nat) (s : Str) (ts na es k0 k1 k2 : Nat) (k3 : Nat) (L : Int) (h2 : 2 ≤ s.length) : ∀ (ds : List Nat) (p : Nat) (sl : List Nat), (∀ c ∈ ds, c ≠ 0 ∧ c ≠ 10 ∧ c ≠ 34 ∧ c ≠ 92) → sl.length + ds.length ≤ 800 → p + ds.length + 2 < 1000000 → RD s p (ds ++ [34]) → GQ w os mi md pb st sd rf cd ct ca al tu cl fr bm fi ν n rd a0 rest q s ts na es k0 k1 k2 k3 (sl ++ ds) (p + ds.length + 1) L L p sl := by
  intro ds
  induction ds with
  | nil =>
    intro p sl hd hl hp hr
    rw [List.append_nil]
    exact gq_e w os mi md pb st sd rf cd ct ca al tu cl fr bm fi ν n rd a0 rest q s ts na es k0 k1 k2 k3 L p sl hl h2 (Nat.lt_of_succ_lt hp) hr.hd
  | cons c ds ih =>
    intro p sl hd hl hp hr
    have B := bnd hl hp
    have ih := ih (p + 1) (sl ++ [c]) (fun x hx => hd x (List.mem_cons_of_mem _ hx)) (len1 B.2.2.1) B.2.2.2 hr.tl
    rw [List.append_assoc] at ih
    rw [List.length_cons, eqb]
    exact gq_d w os mi md pb st sd rf cd ct ca al tu cl fr bm fi ν n rd a0 rest q s ts na es k0 k1 k2 k3 _ _ _ L p sl B.1 h2 B.2.1 c (hd c (List.mem_cons_self ..)) hr.hd ih
noncomputable def glueU : List Nat → List Nat
  | [] => []
  | c :: cs => c :: cs.flatMap fun x => [95, x]
/-- the written form, the token, its end, the newlines passed -/
noncomputable def wform : Nat → List Nat → List Nat
  | 0, ds => [34] ++ glueU ds ++ [32, 34]
  | 1, ds => ds
  | _, ds => bsl ds
noncomputable def tform : Nat → List Nat → List Nat
  | 0, ds => glueU ds ++ [32]
  | _, ds => ds
noncomputable def eform : Nat → List Nat → Nat → Nat
  | 0, ds, p => p + 1 + (glueU ds ++ [32]).length + 1
  | 1, ds, p => p + ds.length + 1
  | _, ds, p => p + 2 * ds.length + 1
noncomputable def lform : Nat → Int → Int
  | 0, L => L
  | _, L => L + 1
theorem glueU_ok {ds : List Nat} (hd : ∀ c ∈ ds, isDig c = true) : ∀ c ∈ glueU ds ++ [32], c ≠ 0 ∧ c ≠ 10 ∧ c ≠ 34 ∧ c ≠ 92 := by
  intro c hc
  have hdd : ∀ c ∈ ds, c ≠ 0 ∧ c ≠ 10 ∧ c ≠ 34 ∧ c ≠ 92 := fun c h => by have := dig_lt (hd c h); omega
  rcases List.mem_append.mp hc with h | h
  · match ds, h, hdd with
    | c' :: cs, h, hdd =>
      rcases List.mem_cons.mp h with rfl | h
      · exact hdd _ (List.mem_cons_self ..)
      · obtain ⟨y, hy, hm⟩ := List.mem_flatMap.mp h
        simp only [List.mem_cons, List.not_mem_nil, or_false] at hm
        rcases hm with rfl | rfl
        · decide
        · exact hdd _ (List.mem_cons_of_mem _ hy)
  · simp only [List.mem_singleton] at h
    subst h; decide
theorem flat2_len {g : Nat} : ∀ (cs : List Nat), (cs.flatMap fun x => [g, x]).length = 2 * cs.length
  | [] => rfl
  | c :: cs => by
    have := flat2_len (g := g) cs
    simp only [List.flatMap_cons, List.length_append, this, List.length_cons, List.length_nil]; omega
theorem glueU_len {ds : List Nat} : (glueU ds).length ≤ 2 * ds.length := by
  match ds with
  | [] => exact Nat.le_refl _
  | c :: cs => simp only [glueU, List.length_cons, flat2_len]; omega
theorem goB {g p : Nat} (hp : p < 900000) (hg : g ≤ 300) : p + 1 < 1000000 ∧ 0 + g ≤ 800 ∧ p + 1 + g + 2 < 1000000 := by omega
theorem goC {d p : Nat} (hp : p < 900000) (hl : d + 1 ≤ 100) : p + 1 < 1000000 ∧ 1 + d ≤ 800 ∧ p + 1 + d + 2 < 1000000 ∧ p + 1 + 1 + 2 * d + 2 < 1000000 := by omega
theorem glue_300 {ds : List Nat} (hl : ds.length ≤ 100) : (glueU ds ++ [32]).length ≤ 300 := by
  have hg := glueU_len (ds := ds)
  rw [List.length_append, List.length_singleton]; omega
theorem go_all (mi md pb st sd rf cd ct ca al tu cl fr bm fi : Nat) (ν : Nat → Nat) (n : Nat) (rd : Nat) (a0 : Value) (rest : List Value) (q : Nat) (s : Str) (ts na es k0 k1 k2 : Nat) (k3 : Nat) (L : Int) (h2 : 2 ≤ s.length) (f p : Nat) (ds : List Nat) (hne : ds ≠ []) (hd : ∀ c ∈ ds, isDig c = true) (hl : ds.length ≤ 100) (hp : p < 900000) (hr : RD s p (wform f ds ++ [10])) : GO w os mi md pb st sd rf cd ct ca al tu cl fr bm fi ν n rd a0 rest q s ts na es k0 k1 k2 k3 (tform f ds) (eform f ds p) (lform f L) L p [] := by
  match f, ds, hne, hr with
  | 0, ds, _, hr =>
    have hr' : RD s p (34 :: (glueU ds ++ [32] ++ [34] ++ [10])) := by
      have e : wform 0 ds ++ [10] = 34 :: (glueU ds ++ [32] ++ [34] ++ [10]) := by simp [wform]
      rw [← e]; exact hr
    have B := goB hp (glue_300 hl)
    exact go_q w os mi md pb st sd rf cd ct ca al tu cl fr bm fi ν n rd a0 rest q s ts na es k0 k1 k2 k3 _ _ _ L p [] (Nat.zero_le _) h2 B.1 hr'.hd (gq_all w os mi md pb st sd rf cd ct ca al tu cl fr bm fi ν n rd a0 rest q s ts na es k0 k1 k2 k3 L h2 (glueU ds ++ [32]) (p + 1) [] (glueU_ok hd) B.2.1 B.2.2 hr'.tl.pre)
  | 1, c :: ds, _, hr =>
    have B := goC hp hl
    have hr' : RD s p (c :: (ds ++ [10])) := hr
    have e : eform 1 (c :: ds) p = p + 1 + ds.length + 1 := eqb p ds.length
    rw [e]
    exact go_d w os mi md pb st sd rf cd ct ca al tu cl fr bm fi ν n rd a0 rest q s ts na es k0 k1 k2 k3 _ _ _ L p [] (Nat.zero_le _) h2 B.1 c (hd c (List.mem_cons_self ..)) hr'.hd (gu_all w os mi md pb st sd rf cd ct ca al tu cl fr bm fi ν n rd a0 rest q s ts na es k0 k1 k2 k3 L h2 ds (p + 1) [c] (fun x hx => hd x (List.mem_cons_of_mem _ hx)) B.2.1 B.2.2.1 hr'.tl)
  | f + 2, c :: ds, _, hr =>
    have B := goC hp hl
    have hr' : RD s p (92 :: c :: (bsl ds ++ [10])) := hr
    have e : eform (f + 2) (c :: ds) p = p + 1 + 1 + 2 * ds.length + 1 := eqb2 p ds.length
    rw [e]
    exact go_b w os mi md pb st sd rf cd ct ca al tu cl fr bm fi ν n rd a0 rest q s ts na es k0 k1 k2 k3 _ _ _ L p [] (Nat.zero_le _) h2 B.1 c (hd c (List.mem_cons_self ..)) hr'.hd hr'.tl.hd (gub_all w os mi md pb st sd rf cd ct ca al tu cl fr bm fi ν n rd a0 rest q s ts na es k0 k1 k2 k3 L h2 ds (p + 1 + 1) [c] (fun x hx => hd x (List.mem_cons_of_mem _ hx)) B.2.1 B.2.2.2 hr'.tl.tl)
theorem go_allf (mi md pb st sd rf cd ct ca al tu cl fr bm fi : Nat) (ν : Nat → Nat) (n : Nat) (rd : Nat) (a0 : Value) (rest : List Value) (q : Nat) (s : Str) (ts na es k0 k1 k2 : Nat) (L : Int) (h2 : 2 ≤ s.length) (f p : Nat) (ds : List Nat) (hne : ds ≠ []) (hd : ∀ c ∈ ds, isDig c = true) (hl : ds.length ≤ 100) (hp : p < 900000) (hr : RD s p (wform f ds ++ [10])) : GOf w os mi md pb st sd rf cd ct ca al tu cl fr bm fi ν n rd a0 rest q s ts na es k0 k1 k2 (tform f ds) (eform f ds p) (lform f L) L p [] := by
  match f, ds, hne, hr with
  | 0, ds, _, hr =>
    have hr' : RD s p (34 :: (glueU ds ++ [32] ++ [34] ++ [10])) := by
      have e : wform 0 ds ++ [10] = 34 :: (glueU ds ++ [32] ++ [34] ++ [10]) := by simp [wform]
      rw [← e]; exact hr
    have B := goB hp (glue_300 hl)
    exact go_qf w os mi md pb st sd rf cd ct ca al tu cl fr bm fi ν n rd a0 rest q s ts na es k0 k1 k2 _ _ _ L p [] (Nat.zero_le _) h2 B.1 hr'.hd (fun k3 => gq_all w os mi md pb st sd rf cd ct ca al tu cl fr bm fi ν n rd a0 rest q s ts na es k0 k1 k2 k3 L h2 (glueU ds ++ [32]) (p + 1) [] (glueU_ok hd) B.2.1 B.2.2 hr'.tl.pre)
  | 1, c :: ds, _, hr =>
    have B := goC hp hl
    have hr' : RD s p (c :: (ds ++ [10])) := hr
    have e : eform 1 (c :: ds) p = p + 1 + ds.length + 1 := eqb p ds.length
    rw [e]
    exact go_df w os mi md pb st sd rf cd ct ca al tu cl fr bm fi ν n rd a0 rest q s ts na es k0 k1 k2 _ _ _ L p [] (Nat.zero_le _) h2 B.1 c (hd c (List.mem_cons_self ..)) hr'.hd (fun k3 => gu_all w os mi md pb st sd rf cd ct ca al tu cl fr bm fi ν n rd a0 rest q s ts na es k0 k1 k2 k3 L h2 ds (p + 1) [c] (fun x hx => hd x (List.mem_cons_of_mem _ hx)) B.2.1 B.2.2.1 hr'.tl)
  | f + 2, c :: ds, _, hr =>
    have B := goC hp hl
    have hr' : RD s p (92 :: c :: (bsl ds ++ [10])) := hr
    have e : eform (f + 2) (c :: ds) p = p + 1 + 1 + 2 * ds.length + 1 := eqb2 p ds.length
    rw [e]
    exact go_bf w os mi md pb st sd rf cd ct ca al tu cl fr bm fi ν n rd a0 rest q s ts na es k0 k1 k2 _ _ _ L p [] (Nat.zero_le _) h2 B.1 c (hd c (List.mem_cons_self ..)) hr'.hd hr'.tl.hd (fun k3 => gub_all w os mi md pb st sd rf cd ct ca al tu cl fr bm fi ν n rd a0 rest q s ts na es k0 k1 k2 k3 L h2 ds (p + 1 + 1) [c] (fun x hx => hd x (List.mem_cons_of_mem _ hx)) B.2.1 B.2.2.2 hr'.tl.tl)
theorem tok1 (mi md pb st sd rf cd ct ca al tu cl : Nat) (ν : Nat → Nat) (rd : Nat) (a0 : Value) (rest : List Value) (q : Nat) (s : Str) (ts na tp lt n : Nat) (L : Int) (h2 : 2 ≤ s.length) (f p : Nat) (ds : List Nat) (hne : ds ≠ []) (hd : ∀ c ∈ ds, isDig c = true) (hl : ds.length ≤ 100) (hp : p < 800000) (hr : RD s p (wform f ds ++ [10])) : CS w os 470 (.call (.ref 78) ⟨[.ref mi], []⟩) (gI w mi md pb st sd rf cd ct ca al tu cl ν n rd a0 rest q s ts na L lt p tp) 0 (fun x => rOk (sv (tform f ds) (x.a 0))) (fun x => gO w mi md pb st sd rf cd ct ca al tu cl ν n rd a0 rest q s ts na (lform f L) (x.a 2) (eform f ds p) (x.a 1)) oNl :=
  gt_b w os mi md pb st sd rf cd ct ca al tu cl ν n L lt rd a0 rest q s ts na p tp _ _ _ fun fr bm fi es tk k0 k1 k2 => go_allf w os mi md pb st sd rf cd ct ca al tu cl fr bm fi ν n rd a0 rest q s ts na es k0 k1 k2 L h2 f p ds hne hd hl (Nat.lt_trans hp (by decide)) hr lt tp tk
theorem tok2 (mi md pb st sd rf cd ct ca al tu cl : Nat) (ν : Nat → Nat) (rd : Nat) (a0 : Value) (rest : List Value) (q : Nat) (s : Str) (ts na tp lt n : Nat) (L : Int) (h2 : 2 ≤ s.length) (f p : Nat) (ds : List Nat) (hne : ds ≠ []) (hd : ∀ c ∈ ds, isDig c = true) (hl : ds.length ≤ 100) (hp : p < 800000) (hr : RD s p (10 :: (wform f ds ++ [10]))) : CS w os 470 (.call (.ref 78) ⟨[.ref mi], []⟩) (gI w mi md pb st sd rf cd ct ca al tu cl ν n rd a0 rest q s ts na L lt p tp) 0 (fun x => rOk (sv (tform f ds) (x.a 0))) (fun x => gO w mi md pb st sd rf cd ct ca al tu cl ν n rd a0 rest q s ts na (lform f (L + 1)) (x.a 2) (eform f ds (p + 1)) (x.a 1)) oNl :=
  gt_b w os mi md pb st sd rf cd ct ca al tu cl ν n L lt rd a0 rest q s ts na p tp _ _ _ fun fr bm fi es tk k0 k1 k2 => go_wf w os mi md pb st sd rf cd ct ca al tu cl fr bm fi ν n rd a0 rest q s ts na es k0 k1 k2 _ _ _ L p [] (Nat.zero_le _) h2 (Nat.lt_trans (Nat.succ_lt_succ hp) (by decide)) hr.hd (fun k3 => go_all w os mi md pb st sd rf cd ct ca al tu cl fr bm fi ν n rd a0 rest q s ts na es k0 k1 k2 k3 (L + 1) h2 f (p + 1) ds hne hd hl (Nat.lt_trans (Nat.succ_lt_succ hp) (by decide)) hr.tl) lt tp tk
end
end Mine
end
section
open PySem PySem.Spec PySem.Calls PyProof.Rows PySem.W PySem.W.X
set_option maxRecDepth 100000
set_option linter.unusedVariables false
namespace Mine
section
variable (w : World) (os : OsState)
theorem sum_loop (it l S : Nat) (xs : List Value) (n : Nat) (hall : AllI xs) : ∀ (m i : Nat) (a : Int) (t c : Nat) (st : Int), i + m = xs.length → (st = 0 ∨ st = 2) → SL w (KKw w) os 950 it l S xs n (sumI a (xs.drop i)) i a t c st
  | 0, i, a, t, c, st, h, hst => by
    rw [List.drop_of_length_le (by omega)]
    rcases hst with rfl | rfl
    · exact sum_e0 w os it l S xs n i t c a (List.getElem?_eq_none (by omega))
    · exact sum_e2 w os it l S xs n i t c a (List.getElem?_eq_none (by omega))
  | m + 1, i, a, t, c, st, h, hst => by
    have hl : i < xs.length := by omega
    obtain ⟨b, tb, hb⟩ := hall xs[i] (List.getElem_mem hl)
    have hv : xs[i]? = some (.int b tb) := by rw [List.getElem?_eq_getElem hl, hb]
    have e : xs.drop i = .int b tb :: xs.drop (i + 1) := by rw [← hb]; exact (List.getElem_cons_drop ..).symm
    rw [e]
    exact sum_turn hst hv fun t' c' st' hs' => sum_loop it l S xs n hall m (i + 1) (a + b) t' c' st' (by omega) hs'
theorem sum_s (l : Nat) (xs : List Value) (n : Nat) (hall : AllI xs) : CS w os 900 (.builtin "sum" ⟨[.ref l], []⟩) [(l, lsO xs n)] 0 (fun x => rOk (.int (sumI 0 xs) (x.a 0))) (fun _ => [lsO xs n]) oNl :=
  sum_b w os l xs n _ fun it S t => sum_loop w os it l S xs n hall xs.length 0 0 t 0 0 (by omega) (.inl rfl)
noncomputable abbrev slcS (k : Int) (t u : Nat) : Obj := ⟨.type "slice", none, .fields #[.int k t, .none, .int 2 u], #[]⟩
noncomputable def pickL (xs : List Value) (k : Int) : List Value := (slicePick ⟨xs⟩ (some k) none (some 2)).toList
theorem pick_mem {xs : List Value} {k : Int} : ∀ y ∈ pickL xs k, y ∈ xs := by
  intro y hy
  unfold pickL slicePick at hy
  obtain ⟨i, _, hi⟩ := List.mem_filterMap.mp (by simpa using hy)
  exact List.mem_of_getElem? hi
theorem After.sameA {KK : Nat → Option Obj} {h : Heap} {ins : List (Nat × Obj)} {x : X} (hA : At KK h ins) : After KK h ins x 0 (ins.map (·.2)) [] h :=
  ⟨hA.good, Nat.le_refl _, fun _ _ _ => rfl, by simp, fun j a o ha ho => by
    rw [List.getElem?_map] at ha ho
    cases e : ins[j]? with
    | none => rw [e] at ha; cases ha
    | some p => rw [e] at ha ho; cases ha; cases ho; exact hA.get j p e, rfl, fun j o e => by simp at e, fun j e => by omega, fun j k e => by omega⟩
theorem slice_s (l sl : Nat) (xs : List Value) (n t u : Nat) (k : Int) (hl : xs.length ≤ 100) : CS w os 900 (.builtin "list.__getitem__" ⟨[.ref l, .ref sl], []⟩) [(l, lsO xs n), (sl, slcS k t u)] 1 (fun x => rOk (.ref (x.a 0))) (fun _ => [lsO xs n, slcS k t u]) (fun _ => [lsO (pickL xs k) 0]) := by
  intro B Q h dr tk hd hh hA hQ
  have hos := hA.get2
  have hTs : (⟨h, #[], dr, tk + 1, os⟩ : Shared).TypeIs (.ref sl) "slice" := ⟨_, hos, rfl⟩
  refine codeAny_builtin entry_list_getitem ?_
  show wpAny _ _ (Builtin.List.listSubscript? (.ref sl) >>= _) _ _ _
  refine wpAny_bind ?_
  unfold Builtin.List.listSubscript?
  refine wpAny_bind (wpAny_specialOf hTs slice_no_index ?_)
  simp only [Option.isNone_none, if_true]
  refine wpAny_pure ?_
  show wpAny _ _ (typeOf (.ref sl) >>= _) _ _ _
  refine wpAny_bind (wpAny_typeOf hTs ?_)
  rw [if_neg (by decide)]
  rw [listSliceParts_eq]
  have hstep : ¬ ((rawPart (some 2) == rawInt 0) = true) := by simp [rawPart, rawInt]
  refine wpAny_bind (wpAny_bind (wpAny_field hos rfl (x := .int 2 u) rfl (wpAny_bind (wpAny_listPart (.int 2 u) ?_))))
  rw [if_neg hstep]
  refine wpAny_bind (wpAny_field hos rfl (x := .int k t) rfl (wpAny_bind (wpAny_listPart (.int k t) ?_)))
  refine wpAny_bind (wpAny_field hos rfl (x := .none) rfl (wpAny_bind (wpAny_listPart .none (wpAny_pure ?_))))
  refine wpAny_bind (m := Builtin.List.listItems (.ref l)) ?_
  unfold Builtin.List.listItems
  refine wpAny_bind (wpAny_seqItems hA.get1 rfl (wpAny_pure ?_))
  refine wpAny_bind (wpAny_of_eq (sliceIndices_raw (some k) none (some 2) xs.length (by simp)) ?_)
  refine wpAny_bind (wpAny_newObj_type (wpAny_pure ?_) ?_)
  · exact hQ ⟨fun j => h.objs.size + j, fun _ => default, fun _ => .none⟩ _ dr tk (After.push1 (x := ⟨fun _ => 0, fun _ => default, fun _ => .none⟩) (After.sameA hA) rfl)
  · exact Nat.le_trans (slicePick_size_le ⟨xs⟩ (some k) none (some 2)) (by show xs.length ≤ sizeLine; rw [sizeLine_eq]; omega)
end
end Mine
end
section
open PySem PySem.Spec PySem.Calls PyProof.Rows PySem.W PySem.W.X
set_option maxRecDepth 100000
set_option linter.unusedVariables false
set_option linter.unusedSimpArgs false
namespace Mine
theorem xor_low (X s : Nat) : Builtin.bitXor (Int.ofNat X) (Int.ofNat (X / 2 ^ s * 2 ^ s)) = Int.ofNat (X % 2 ^ s) := by
  have h1 : X ||| (X / 2 ^ s * 2 ^ s) = X := by
    apply Nat.eq_of_testBit_eq
    intro i
    rw [Nat.testBit_or, Nat.testBit_mul_two_pow, Nat.testBit_div_two_pow]
    by_cases h : s ≤ i
    · simp [h, Nat.sub_add_cancel h]
    · simp [h]
  have h2 : X &&& (X / 2 ^ s * 2 ^ s) = X / 2 ^ s * 2 ^ s := by
    apply Nat.eq_of_testBit_eq
    intro i
    rw [Nat.testBit_and, Nat.testBit_mul_two_pow, Nat.testBit_div_two_pow]
    by_cases h : s ≤ i
    · simp [h, Nat.sub_add_cancel h]
    · simp [h]
  have h3 := Nat.div_add_mod X (2 ^ s)
  rw [Nat.mul_comm] at h3
  generalize hY : X / 2 ^ s * 2 ^ s = Y at *
  have e1 : Builtin.bitAnd (Int.ofNat X) (Int.ofNat Y) = Int.ofNat Y := by
    unfold Builtin.bitAnd
    rw [show decide (0 ≤ Int.ofNat X) = true from decide_eq_true (Int.natCast_nonneg X), show decide (0 ≤ Int.ofNat Y) = true from decide_eq_true (Int.natCast_nonneg Y)]
    show ((X &&& Y : Nat) : Int) = _
    rw [h2]; rfl
  have n1 : ∀ a : Nat, Builtin.bitNot (Builtin.bitNot (Int.ofNat a)) = Int.ofNat a := fun a => by unfold Builtin.bitNot; omega
  have n2 : ∀ a : Nat, decide (0 ≤ Builtin.bitNot (Int.ofNat a)) = false := fun a => decide_eq_false (by unfold Builtin.bitNot; simp only [Int.ofNat_eq_natCast]; omega)
  have e2 : Builtin.bitOr (Int.ofNat X) (Int.ofNat Y) = Int.ofNat X := by
    unfold Builtin.bitOr Builtin.bitAnd
    rw [n2, n2]
    show Builtin.bitNot (Builtin.bitNot (((Builtin.bitNot (Builtin.bitNot (Int.ofNat X))).toNat ||| (Builtin.bitNot (Builtin.bitNot (Int.ofNat Y))).toNat : Nat) : Int)) = _
    rw [n1 X, n1 Y]
    show Builtin.bitNot (Builtin.bitNot (((X ||| Y : Nat)) : Int)) = _
    rw [h1]; exact n1 X
  unfold Builtin.bitXor
  rw [e1, e2]
  simp only [Int.ofNat_eq_natCast]
  omega
section
variable (w : World) (os : OsState)
noncomputable def IN (nn d X l r : Nat) (g G : List Nat) : Prop := ∀ (f cd cn ca ci dl tu : Nat) (a0 : Value) (q : Nat) (rest : List Value) (tn m tx tl tr : Nat) (tk : Nat → Nat), CS w os d (.call (.ref f) ⟨[.int (Int.ofNat X) tx, .int (Int.ofNat l) tl, .int (Int.ofNat r) tr], []⟩) [(f, idO w [(⟨#[110]⟩, cn), (⟨Zab⟩, ci), (⟨Zac⟩, ca)] cd tu), (cd, cdG a0 idQ q rest), (cn, cellO (.int (Int.ofNat nn) tn)), (ca, cellO (.ref dl)), (ci, cellO (.ref f)), (dl, lsO (DL g tk) m)] 0 (fun _ => rOk .none) (fun x => [idO w [(⟨#[110]⟩, cn), (⟨Zab⟩, ci), (⟨Zac⟩, ca)] cd tu, cdG a0 idQ q rest, cellO (.int (Int.ofNat nn) tn), cellO (.ref dl), cellO (.ref f), lsO (DL G x.a) m]) oNl
theorem IN.mono {nn d e X l r : Nat} {g G : List Nat} (h : IN w os nn e X l r g G) (hd : d ≤ e) : IN w os nn d X l r g G := fun f cd cn ca ci dl tu a0 q rest tn m tx tl tr tk => (h f cd cn ca ci dl tu a0 q rest tn m tx tl tr tk).mono hd
theorem in_l {nn X l : Nat} {g : List Nat} (hl : l < g.length) (hg : g.length ≤ 100) : IN w os nn 700 X l (l + 1) g (g.set l X) := fun f cd cn ca ci dl tu a0 q rest tn m tx tl tr tk =>
  in_leaf w os f cd cn ca ci dl tu a0 q rest nn tn m X tx l tl (l + 1) tr g tk (by simp) hl hg
theorem in_n1 {nn X l r : Nat} {g g1 g2 : List Nat} (he : l + 1 < r) (mid k sf : Nat) (hm : (l + r) / 2 = mid) (hk : l + k = mid) (hs : k * nn = sf) (hnn : nn < 2 ^ 60) (hub : X / 2 ^ sf < 2 ^ 60) (hsb : sf < 60)
    (hA : IN w os nn 700 (X % 2 ^ sf) l mid g g1) (hB : IN w os nn 700 (X / 2 ^ sf) mid r g1 g2) : IN w os nn 680 X l r g g2 := fun f cd cn ca ci dl tu a0 q rest tn m tx tl tr tk =>
  in_node1 w os f cd cn ca ci dl tu a0 q rest nn tn m X tx l tl r tr g tk (by rw [beqO, beq_eq_false_iff_ne]; omega) mid k sf _ _ _ (by rw [Nat.pow_one]; exact hm) hk hs hnn rfl rfl hub hsb (xor_low X sf) g1 g2 (fun t1 t2 t3 => hA f cd cn ca ci dl tu a0 q rest tn m t1 t2 t3 tk) (fun t1 t2 t3 tk' => hB f cd cn ca ci dl tu a0 q rest tn m t1 t2 t3 tk')
theorem in_n2 {nn X l r : Nat} {g g1 g2 : List Nat} (he : l + 1 < r) (mid k sf : Nat) (hm : (l + r) / 2 = mid) (hk : l + k = mid) (hs : k * nn = sf) (hnn : nn < 2 ^ 60) (hub : X / 2 ^ sf < 2 ^ 60) (hsb : sf < 60)
    (hA : IN w os nn 680 (X % 2 ^ sf) l mid g g1) (hB : IN w os nn 680 (X / 2 ^ sf) mid r g1 g2) : IN w os nn 660 X l r g g2 := fun f cd cn ca ci dl tu a0 q rest tn m tx tl tr tk =>
  in_node2 w os f cd cn ca ci dl tu a0 q rest nn tn m X tx l tl r tr g tk (by rw [beqO, beq_eq_false_iff_ne]; omega) mid k sf _ _ _ (by rw [Nat.pow_one]; exact hm) hk hs hnn rfl rfl hub hsb (xor_low X sf) g1 g2 (fun t1 t2 t3 => hA f cd cn ca ci dl tu a0 q rest tn m t1 t2 t3 tk) (fun t1 t2 t3 tk' => hB f cd cn ca ci dl tu a0 q rest tn m t1 t2 t3 tk')
theorem in_n3 {nn X l r : Nat} {g g1 g2 : List Nat} (he : l + 1 < r) (mid k sf : Nat) (hm : (l + r) / 2 = mid) (hk : l + k = mid) (hs : k * nn = sf) (hnn : nn < 2 ^ 60) (hub : X / 2 ^ sf < 2 ^ 60) (hsb : sf < 60)
    (hA : IN w os nn 660 (X % 2 ^ sf) l mid g g1) (hB : IN w os nn 660 (X / 2 ^ sf) mid r g1 g2) : IN w os nn 640 X l r g g2 := fun f cd cn ca ci dl tu a0 q rest tn m tx tl tr tk =>
  in_node3 w os f cd cn ca ci dl tu a0 q rest nn tn m X tx l tl r tr g tk (by rw [beqO, beq_eq_false_iff_ne]; omega) mid k sf _ _ _ (by rw [Nat.pow_one]; exact hm) hk hs hnn rfl rfl hub hsb (xor_low X sf) g1 g2 (fun t1 t2 t3 => hA f cd cn ca ci dl tu a0 q rest tn m t1 t2 t3 tk) (fun t1 t2 t3 tk' => hB f cd cn ca ci dl tu a0 q rest tn m t1 t2 t3 tk')
theorem in_n4 {nn X l r : Nat} {g g1 g2 : List Nat} (he : l + 1 < r) (mid k sf : Nat) (hm : (l + r) / 2 = mid) (hk : l + k = mid) (hs : k * nn = sf) (hnn : nn < 2 ^ 60) (hub : X / 2 ^ sf < 2 ^ 60) (hsb : sf < 60)
    (hA : IN w os nn 640 (X % 2 ^ sf) l mid g g1) (hB : IN w os nn 640 (X / 2 ^ sf) mid r g1 g2) : IN w os nn 620 X l r g g2 := fun f cd cn ca ci dl tu a0 q rest tn m tx tl tr tk =>
  in_node4 w os f cd cn ca ci dl tu a0 q rest nn tn m X tx l tl r tr g tk (by rw [beqO, beq_eq_false_iff_ne]; omega) mid k sf _ _ _ (by rw [Nat.pow_one]; exact hm) hk hs hnn rfl rfl hub hsb (xor_low X sf) g1 g2 (fun t1 t2 t3 => hA f cd cn ca ci dl tu a0 q rest tn m t1 t2 t3 tk) (fun t1 t2 t3 tk' => hB f cd cn ca ci dl tu a0 q rest tn m t1 t2 t3 tk')
theorem in_n {nn j X l r : Nat} {g g1 g2 : List Nat} (hj : j < 4) (he : l + 1 < r) (mid k sf : Nat) (hm : (l + r) / 2 = mid) (hk : l + k = mid) (hs : k * nn = sf) (hnn : nn < 2 ^ 60) (hub : X / 2 ^ sf < 2 ^ 60) (hsb : sf < 60)
    (hA : IN w os nn (700 - 20 * j) (X % 2 ^ sf) l mid g g1) (hB : IN w os nn (700 - 20 * j) (X / 2 ^ sf) mid r g1 g2) : IN w os nn (700 - 20 * (j + 1)) X l r g g2 := by
  match j, hj, hA, hB with
  | 0, _, hA, hB => exact in_n1 w os he mid k sf hm hk hs hnn hub hsb hA hB
  | 1, _, hA, hB => exact in_n2 w os he mid k sf hm hk hs hnn hub hsb hA hB
  | 2, _, hA, hB => exact in_n3 w os he mid k sf hm hk hs hnn hub hsb hA hB
  | 3, _, hA, hB => exact in_n4 w os he mid k sf hm hk hs hnn hub hsb hA hB
  | j + 4, hj, _, _ => exact absurd hj (by omega)
theorem dig_lo (X nn i k : Nat) (h : i < k) : X % 2 ^ (k * nn) / 2 ^ (i * nn) % 2 ^ nn = X / 2 ^ (i * nn) % 2 ^ nn := by
  have e : 2 ^ (k * nn) = 2 ^ (i * nn) * 2 ^ ((k - i) * nn) := by rw [← Nat.pow_add, ← Nat.add_mul]; congr 2; omega
  rw [e, Nat.mod_mul_right_div_self]
  refine Nat.mod_mod_of_dvd _ (Nat.pow_dvd_pow 2 ?_)
  have := Nat.mul_le_mul_right nn (show 1 ≤ k - i by omega)
  omega
theorem dig_hi (X nn i k : Nat) : X / 2 ^ (k * nn) / 2 ^ (i * nn) = X / 2 ^ ((k + i) * nn) := by
  rw [Nat.div_div_eq_div_mul, ← Nat.pow_add, ← Nat.add_mul]
theorem half (d : Nat) : 2 * (d / 2) ≤ d ∧ d ≤ 2 * (d / 2) + 1 := by omega
theorem mid_of (l d : Nat) : (l + (l + d)) / 2 = l + d / 2 := by omega
theorem mids0 {l d c k : Nat} (a : 2 * k ≤ d) (b : d ≤ 2 * k + 1) (h : 2 ≤ d) (h2 : d ≤ c * 2) : l < l + k ∧ l + k < l + d ∧ k ≤ c ∧ d - k ≤ c ∧ l + 1 < l + d ∧ k + (d - k) = d ∧ k ≤ d := by omega
theorem mids {l r c : Nat} (h1 : l < r) (he : ¬ r = l + 1) (h2 : r - l ≤ c * 2) : ∃ k mid, (l + r) / 2 = mid ∧ l < mid ∧ mid < r ∧ mid - l = k ∧ k ≤ c ∧ r - mid ≤ c ∧ l + 1 < r ∧ k + (r - mid) = r - l ∧ (l + k = mid ∧ (r ≤ 20 → k ≤ 20) ∧ (r ≤ 20 → r - l ≤ 20)) := by
  obtain ⟨d, rfl⟩ := Nat.exists_eq_add_of_lt h1
  rw [Nat.add_assoc] at h1 h2 he ⊢
  generalize d + 1 = e at *
  rw [Nat.add_sub_cancel_left] at h2
  have he2 : 2 ≤ e := by
    match e, he, h1 with
    | 0, _, h => exact absurd h (Nat.lt_irrefl l)
    | 1, h, _ => exact absurd rfl h
    | e + 2, _, _ => exact Nat.le_add_left 2 e
  obtain ⟨f1, f2, f3, f4, f5, f6, f7⟩ := mids0 (l := l) (half e).1 (half e).2 he2 h2
  have g : l + e - (l + e / 2) = e - e / 2 := Nat.add_sub_add_left ..
  have g2 : ∀ {x : Nat}, x ≤ e → l + e ≤ 20 → x ≤ 20 := fun hx h => Nat.le_trans hx (Nat.le_trans (Nat.le_add_left e l) h)
  refine ⟨e / 2, l + e / 2, mid_of l e, f1, f2, Nat.add_sub_cancel_left .., f3, g ▸ f4, f5, ?_, rfl, g2 f7, ?_⟩
  · rw [g, Nat.add_sub_cancel_left]; exact f6
  · rw [Nat.add_sub_cancel_left]; exact g2 (Nat.le_refl e)
theorem mids2 {l r k mid i : Nat} (h : l + k = mid) (hi : i < r - l) (hk : k ≤ i) (h2 : mid < r) : i - k < r - mid ∧ mid + (i - k) = l + i ∧ k + (i - k) = i := by
  obtain ⟨e, rfl⟩ := Nat.exists_eq_add_of_le hk
  subst h
  rw [Nat.add_sub_cancel_left, Nat.add_assoc]
  refine ⟨?_, rfl, rfl⟩
  rw [Nat.sub_add_eq]
  exact Nat.lt_sub_of_add_lt (by rw [Nat.add_comm]; exact hi)
theorem mids3 {l r mid i : Nat} (h1 : l < mid) (h2 : mid < r) (hi : i < l ∨ r ≤ i) : (i < mid ∨ r ≤ i) ∧ (i < l ∨ mid ≤ i) := hi.elim (fun h => ⟨.inl (Nat.lt_trans h h1), .inl h⟩) fun h => ⟨.inr h, .inr (Nat.le_trans (Nat.le_of_lt h2) h)⟩
theorem in_all (nn : Nat) (hnn : nn ≤ 2) : ∀ (j X l r : Nat) (g : List Nat), j ≤ 4 → l < r → r - l ≤ 2 ^ j → r ≤ g.length → g.length ≤ 20 → X < 2 ^ ((r - l) * nn) →
    ∃ G : List Nat, G.length = g.length ∧ (∀ i, i < r - l → G[l + i]? = some (X / 2 ^ (i * nn) % 2 ^ nn)) ∧ (∀ i, (i < l ∨ r ≤ i) → G[i]? = g[i]?) ∧ IN w os nn (700 - 20 * j) X l r g G := by
  intro j
  have leaf : ∀ (j X l r : Nat) (g : List Nat), r = l + 1 → r ≤ g.length → g.length ≤ 20 → X < 2 ^ ((r - l) * nn) →
    ∃ G : List Nat, G.length = g.length ∧ (∀ i, i < r - l → G[l + i]? = some (X / 2 ^ (i * nn) % 2 ^ nn)) ∧ (∀ i, (i < l ∨ r ≤ i) → G[i]? = g[i]?) ∧ IN w os nn (700 - 20 * j) X l r g G := by
    intro j X l r g h1 h2 h3 h4
    subst h1
    refine ⟨g.set l X, by simp, ?_, ?_, (in_l w os (by omega) (by omega)).mono w os (by omega)⟩
    · intro i hi
      have : i = 0 := by omega
      subst this
      rw [show l + 1 - l = 1 by omega, Nat.one_mul] at h4
      rw [Nat.add_zero, List.getElem?_set_self (by omega), Nat.zero_mul, Nat.pow_zero, Nat.div_one, Nat.mod_eq_of_lt h4]
    · intro i hi
      rw [List.getElem?_set_ne (by omega)]
  induction j with
  | zero =>
    intro X l r g _ h1 h2 h3 h4 h5
    have : r - l ≤ 1 := by simpa using h2
    exact leaf 0 X l r g (by omega) h3 h4 h5
  | succ j ih =>
    intro X l r g hj h1 h2 h3 h4 h5
    by_cases he : r = l + 1
    · exact leaf (j + 1) X l r g he h3 h4 h5
    · obtain ⟨k, mid, hmid, f1, f2, f3, f4, f5, f6, f7, f8⟩ := mids h1 he (show r - l ≤ 2 ^ j * 2 from h2)
      have hkn : k * nn ≤ 40 := Nat.le_trans (Nat.mul_le_mul (f8.2.1 (Nat.le_trans h3 h4)) hnn) (Nat.le_refl _)
      have hrn : (r - l) * nn ≤ 40 := Nat.le_trans (Nat.mul_le_mul (f8.2.2 (Nat.le_trans h3 h4)) hnn) (Nat.le_refl _)
      have hX : X < 2 ^ 60 := Nat.lt_of_lt_of_le h5 (Nat.pow_le_pow_right (by decide) (Nat.le_trans hrn (by decide)))
      obtain ⟨g1, a1, a2, a3, a4⟩ := ih (X % 2 ^ (k * nn)) l mid g (Nat.le_of_succ_le hj) f1 (f3 ▸ f4) (Nat.le_trans (Nat.le_of_lt f2) h3) h4 (by
        rw [f3]; exact Nat.mod_lt _ (Nat.pow_pos (by decide)))
      obtain ⟨g2, b1, b2, b3, b4⟩ := ih (X / 2 ^ (k * nn)) mid r g1 (Nat.le_of_succ_le hj) f2 f5 (a1 ▸ h3) (a1 ▸ h4) (by
        refine Nat.div_lt_of_lt_mul ?_
        rw [← Nat.pow_add, ← Nat.add_mul, f7]; exact h5)
      refine ⟨g2, b1.trans a1, ?_, ?_, in_n w os hj f6 mid k (k * nn) hmid f8.1 rfl (Nat.lt_of_le_of_lt hnn (by decide)) (Nat.lt_of_le_of_lt (Nat.div_le_self ..) hX) (Nat.lt_of_le_of_lt hkn (by decide)) a4 b4⟩
      · intro i hi
        by_cases hik : i < k
        · rw [b3 (l + i) (.inl (f8.1 ▸ Nat.add_lt_add_left hik l)), a2 i (f3.symm ▸ hik), dig_lo X nn i k hik]
        · obtain ⟨e1, e2, e3⟩ := mids2 f8.1 hi (Nat.le_of_not_lt hik) f2
          have := b2 (i - k) e1
          rw [e2, dig_hi, e3] at this
          exact this
      · intro i hi
        rw [b3 i (mids3 f1 f2 hi).1, a3 i (mids3 f1 f2 hi).2]
theorem bits_eq {a n : Nat} (h1 : 2 ^ n ≤ a) (h2 : a < 2 ^ (n + 1)) : Builtin.Int.intBits (Int.ofNat a) = n + 1 := by
  have h0 : a ≠ 0 := by have := Nat.pow_pos (n := n) (show 0 < 2 by omega); omega
  unfold Builtin.Int.intBits
  rw [if_neg (by simp; omega)]
  show a.log2 + 1 = n + 1
  have e1 := (Nat.log2_lt (n := a) (k := n + 1) h0).mpr h2
  have e2 := (Nat.le_log2 (n := a) (k := n) h0).mpr h1
  omega
theorem dig13 (A : Nat) (h1 : 16777216 ≤ A + 1) (h2 : A + 1 < 33554432) : ∃ G : List Nat, (∀ j, j < 13 → G[j]? = some ((A + 1) / 2 ^ (j * 2) % 4)) ∧ ∀ u v, CS w os 440 (.call (.ref 43) ⟨[.int (Int.ofNat (A + 1)) u, .int 2 v], []⟩) [(38, tableObj #[])] 2 (fun x => rOk (.ref (x.a 0))) (fun x => [tableObj #[.int 59 0, .int 4 0, .ref (x.a 1)]]) (fun x => [lsO (DL G (fun j => x.a (j + 20))) 0, cdG (x.v 0) idQ (x.a 2) [x.v 1, x.v 2, x.v 3, x.v 4, x.v 5, x.v 6, x.v 7, x.v 8, x.v 9, x.v 10, x.v 11, x.v 12, x.v 13, x.v 14, x.v 15, x.v 16, x.v 17]]) := by
  obtain ⟨G, a1, a2, a3, a4⟩ := in_all w os 2 (by omega) 4 (A + 1) 0 13 (List.replicate 13 0) (by omega) (by omega) (by omega) (by simp) (by simp) (by omega)
  refine ⟨G, fun j hj => ?_, fun u v => id_2e w os A u v G (bits_eq (n := 24) h1 h2) fun f cd cn ca ci dl tu a0 q rest tn m tx tl tr tk => (a4 f cd cn ca ci dl tu a0 q rest tn m tx tl tr tk).mono (by omega)⟩
  have := a2 j hj
  rwa [Nat.zero_add] at this
theorem dig9 (A : Nat) (h1 : 256 ≤ A + 1) (h2 : A + 1 < 512) : ∃ G : List Nat, (∀ j, j < 9 → G[j]? = some ((A + 1) / 2 ^ (j * 1) % 2)) ∧ ∀ u v cd0 a0 q rest, CS w os 440 (.call (.ref 43) ⟨[.int (Int.ofNat (A + 1)) u, .int 1 v], []⟩) [(38, tableObj #[.int 59 0, .int 4 0, .ref cd0]), (cd0, cdG a0 idQ q rest)] 1 (fun x => rOk (.ref (x.a 0))) (fun x => [tableObj #[.int 59 0, .int 4 0, .ref cd0], cdG a0 idQ q rest]) (fun x => [lsO (DL G (fun j => x.a (j + 20))) 0]) := by
  obtain ⟨G, a1, a2, a3, a4⟩ := in_all w os 1 (by omega) 4 (A + 1) 0 9 (List.replicate 9 0) (by omega) (by omega) (by omega) (by simp) (by simp) (by omega)
  refine ⟨G, fun j hj => ?_, fun u v cd0 a0 q rest => id_1f w os A u v G cd0 a0 q rest (bits_eq (n := 8) h1 h2) fun f cd cn ca ci dl tu a0 q rest tn m tx tl tr tk => (a4 f cd cn ca ci dl tu a0 q rest tn m tx tl tr tk).mono (by omega)⟩
  have := a2 j hj
  rwa [Nat.zero_add] at this
end
end Mine
end
section
open PySem PySem.Spec PySem.Calls PyProof.Rows PySem.W PySem.W.X
set_option maxRecDepth 100000
set_option linter.unusedVariables false
set_option linter.unusedSimpArgs false
namespace Mine
/-- the figures of a number -/
noncomputable def dsN (N : Nat) : List Nat := (Nat.toDigits 10 N).map Char.toNat
theorem dsN_str (N : Nat) : PySem.Str.ofString (toString (Int.ofNat N)) = ⟨(dsN N).toArray⟩ := by
  have h := KIN.signs_num N
  have e : ∀ s : Str, s = ⟨s.cps.toList.toArray⟩ := fun s => rfl
  rw [e (PySem.Str.ofString (toString (Int.ofNat N)))]
  exact congrArg (fun l : List Nat => (⟨l.toArray⟩ : Str)) h
theorem dsN_dig (N : Nat) : ∀ c ∈ dsN N, isDig c = true := by
  intro c hc
  obtain ⟨ch, hch, e⟩ := List.mem_map.mp hc
  have r := digit_range (Nat.isDigit_of_mem_toDigits (by decide) (by decide) hch)
  rw [e] at r
  unfold isDig
  rw [Bool.and_eq_true]
  exact ⟨Nat.ble_eq_true_of_le r.1, Nat.ble_eq_true_of_le r.2⟩
theorem dsN_ne (N : Nat) : dsN N ≠ [] := by
  intro e
  have h := toDigits_len_ge 10 N
  rw [List.map_eq_nil_iff.mp e] at h
  exact absurd h (by decide)
theorem dsN_len {N k : Nat} (hk : 1 ≤ k) (h : N < 10 ^ k) : (dsN N).length ≤ k := by
  unfold dsN
  rw [List.length_map]
  exact toDigits_len_pow (by decide) hk h
theorem dsN_read {N : Nat} (h : N < 100000000) : PySem.intText? ⟨(dsN N).toArray⟩ = some (Int.ofNat N) := by
  rw [← dsN_str]
  exact KIN.num_reads (Int.natCast_nonneg N) (by simp only [Int.ofNat_eq_natCast]; omega)
theorem spNo : ∀ c < 100, (isDig c || c == 95) = true → Unicode.isSpace c = false := by decide +kernel
theorem spYes : Unicode.isSpace 32 = true := by decide +kernel
noncomputable def okc (c : Nat) : Prop := (isDig c || c == 95) = true
theorem okc_sp {c : Nat} (h : okc c) : Unicode.isSpace c = false := by
  refine spNo c ?_ h
  unfold okc at h
  by_cases hd : isDig c = true
  · have := dig_lt hd; omega
  · simp only [Bool.not_eq_true] at hd
    rw [hd] at h
    simp only [Bool.false_or, beq_iff_eq] at h
    omega
theorem tw_nil {b : List Nat} (h : ∀ c ∈ b, okc c) : b.takeWhile Unicode.isSpace = [] := by
  match b, h with
  | [], _ => rfl
  | c :: b, h => rw [List.takeWhile_cons, okc_sp (h c (List.mem_cons_self ..))]; rfl
section
variable {w : World} {os : OsState} {KK : Nat → Option Obj} {d : Nat}
theorem rstrip0 {b : List Nat} {t : Nat} (h : ∀ c ∈ b, okc c) : CSpec w KK os d (.builtin "str.rstrip" ⟨[sv b t], []⟩) [] 0 (fun x => rOk (sv b (x.a 0))) oNl oNl := by
  have e : PySem.stripSame Unicode.isSpace false true ⟨b.toArray⟩ = true := by
    unfold PySem.stripSame PySem.stripLo PySem.stripHi
    simp only [List.drop_zero, Bool.false_eq_true, if_false, if_true]
    rw [tw_nil (fun c hc => h c (List.mem_reverse.mp hc))]
    simp
  have g := gives_str_rstrip ⟨b.toArray⟩ t
  rw [e] at g
  exact CSpec.meets F.entry_str_rstrip (by decide +kernel) g.meets fun A Q h dr tk hA hQ => hQ ⟨fun _ => t, fun _ => default, fun _ => .none⟩ _ _ _ (After.same hA)
theorem rstrip1 {b : List Nat} {t : Nat} (h : ∀ c ∈ b, okc c) (hl : b.length ≤ 900) : CSpec w KK os d (.builtin "str.rstrip" ⟨[sv (b ++ [32]) t], []⟩) [] 0 (fun x => rOk (sv b (x.a 0))) oNl oNl := by
  have hz : ∀ y : Str, PySem.stripLo Unicode.isSpace false y = 0 := fun _ => rfl
  have h0 : PySem.stripHi Unicode.isSpace true ⟨(b ++ [32]).toArray⟩ 0 = b.length := by
    unfold PySem.stripHi
    simp only [List.drop_zero, if_true]
    rw [List.reverse_append]
    show _ - ((32 :: b.reverse).takeWhile _).length = _
    rw [List.takeWhile_cons, spYes]
    simp only [if_true, tw_nil (fun c hc => h c (List.mem_reverse.mp hc))]
    show (b ++ [32]).toArray.size - 1 = _
    simp
  have e : PySem.stripSame Unicode.isSpace false true ⟨(b ++ [32]).toArray⟩ = false := by
    unfold PySem.stripSame
    rw [hz, h0]
    show (_ && (b.length == (b ++ [32]).toArray.size)) = false
    simp
  have e2 : PySem.stripped Unicode.isSpace false true ⟨(b ++ [32]).toArray⟩ = ⟨b.toArray⟩ := by
    unfold PySem.stripped
    rw [hz, h0]
    unfold Builtin.Str.strSub
    simp
  have g := gives_str_rstrip ⟨(b ++ [32]).toArray⟩ t
  rw [e, e2] at g
  exact CSpec.gstr F.entry_str_rstrip (by decide +kernel) g (by show b.toArray.size ≤ sizeLine; rw [sizeLine_eq]; simp; omega)
theorem replaceU {s : List Nat} {t u v : Nat} (hl : s.length ≤ 900) (hu : u ≠ 0) (hv : v ≠ 0) (huv : u ≠ v) : CSpec w KK os d (.builtin "str.replace" ⟨[sv s t, sv [95] u, sv [] v], []⟩) [] 0 (fun x => rOk (sv (s.filter (· != 95)) (x.a 0))) oNl oNl := by
  have hs := PyProof.Rows.replace_strikes ⟨s.toArray⟩ 95
  have hlen : (⟨s.toArray⟩ : Str).length = s.length := by show s.toArray.size = _; simp
  have hb : (⟨s.toArray⟩ : Str).length + ((⟨s.toArray⟩ : Str).length + 1) * (⟨#[]⟩ : Str).length ≤ 16777216 := by
    rw [hlen, show (⟨#[]⟩ : Str).length = 0 from rfl]; omega
  have htl : Builtin.Str.tooLong ((⟨s.toArray⟩ : Str).length + (Builtin.Str.occurrences ⟨s.toArray⟩ ⟨#[95]⟩ 0 (⟨s.toArray⟩ : Str).length ((⟨s.toArray⟩ : Str).length + 1)).length * (⟨#[]⟩ : Str).length) = false := by
    rw [hlen, show (⟨#[]⟩ : Str).length = 0 from rfl, Nat.mul_zero, Nat.add_zero]
    unfold Builtin.Str.tooLong
    rw [sizeLine_eq]
    exact decide_eq_false (by omega)
  have g := gives_str_replace ⟨s.toArray⟩ ⟨#[95]⟩ ⟨#[]⟩ t u v fun _ => ⟨by simp [hu, hv], by simp [huv], by decide, htl⟩
  have eT : ∀ T : Str, T.cps.toList = s.filter (· != 95) → T = ⟨(s.filter (· != 95)).toArray⟩ := fun T h => by
    rw [show T = ⟨T.cps.toList.toArray⟩ from rfl, h]
  unfold Txt.replace at hs
  cases hc : ((Builtin.Str.occurrences ⟨s.toArray⟩ ⟨#[95]⟩ 0 (⟨s.toArray⟩ : Str).length ((⟨s.toArray⟩ : Str).length + 1)).isEmpty || ((⟨#[95]⟩ : Str).length == 0 && (⟨#[]⟩ : Str).length == 0)) with
  | true =>
    rw [hc] at g hs
    rw [if_pos rfl] at g hs
    have hs' : s.filter (· != 95) = s := hs.symm
    rw [hs']
    exact CSpec.meets F.entry_str_replace (by decide +kernel) g.meets fun A Q h dr tk hA hQ => hQ ⟨fun _ => t, fun _ => default, fun _ => .none⟩ _ _ _ (After.same hA)
  | false =>
    rw [hc] at g hs
    simp only [Bool.false_eq_true, if_false] at g hs
    have hf := fits_replaced (x := ⟨s.toArray⟩) (z := ⟨#[]⟩) ⟨#[95]⟩ hb
    rw [eT _ hs] at g hf
    exact CSpec.gstr F.entry_str_replace (by decide +kernel) g hf
end
theorem filt_dig {ds : List Nat} (h : ∀ c ∈ ds, isDig c = true) : ds.filter (· != 95) = ds := by
  rw [List.filter_eq_self]
  intro c hc
  have := dig_lt (h c hc)
  exact bne_iff_ne.mpr (by omega)
theorem filt_glue {ds : List Nat} (h : ∀ c ∈ ds, isDig c = true) : (glueU ds).filter (· != 95) = ds := by
  match ds, h with
  | [], _ => rfl
  | c :: cs, h =>
    have hc := dig_lt (h c (List.mem_cons_self ..))
    show (c :: cs.flatMap fun x => [95, x]).filter _ = _
    rw [List.filter_cons, if_pos (bne_iff_ne.mpr (by omega))]
    congr 1
    have hcs : ∀ x ∈ cs, isDig x = true := fun x hx => h x (List.mem_cons_of_mem _ hx)
    clear h hc
    induction cs with
    | nil => rfl
    | cons x cs ih =>
      have hx := dig_lt (hcs x (List.mem_cons_self ..))
      rw [List.flatMap_cons, List.filter_append, ih fun y hy => hcs y (List.mem_cons_of_mem _ hy)]
      show List.filter _ [95, x] ++ cs = _
      rw [List.filter_cons, if_neg (by simp), List.filter_cons, if_pos (bne_iff_ne.mpr (by omega))]
      rfl
theorem glue_okc {ds : List Nat} (h : ∀ c ∈ ds, isDig c = true) : ∀ c ∈ glueU ds, okc c := by
  intro c hc
  match ds, h, hc with
  | c' :: cs, h, hc =>
    rcases List.mem_cons.mp hc with rfl | hc
    · unfold okc; rw [h _ (List.mem_cons_self ..)]; rfl
    · obtain ⟨y, hy, hm⟩ := List.mem_flatMap.mp hc
      simp only [List.mem_cons, List.not_mem_nil, or_false] at hm
      rcases hm with rfl | rfl
      · rfl
      · unfold okc; rw [h _ (List.mem_cons_of_mem _ hy)]; rfl
theorem len8 {P : List Nat → Prop} (h1 : ∀ d0, P [d0]) (h2 : ∀ d0 d1, P [d0, d1]) (h3 : ∀ d0 d1 d2, P [d0, d1, d2]) (h4 : ∀ d0 d1 d2 d3, P [d0, d1, d2, d3]) (h5 : ∀ d0 d1 d2 d3 d4, P [d0, d1, d2, d3, d4]) (h6 : ∀ d0 d1 d2 d3 d4 d5, P [d0, d1, d2, d3, d4, d5]) (h7 : ∀ d0 d1 d2 d3 d4 d5 d6, P [d0, d1, d2, d3, d4, d5, d6]) (h8 : ∀ d0 d1 d2 d3 d4 d5 d6 d7, P [d0, d1, d2, d3, d4, d5, d6, d7]) : ∀ ds : List Nat, ds ≠ [] → ds.length ≤ 8 → P ds
  | [], h, _ => absurd rfl h
  | [d0], _, _ => h1 d0
  | [d0, d1], _, _ => h2 d0 d1
  | [d0, d1, d2], _, _ => h3 d0 d1 d2
  | [d0, d1, d2, d3], _, _ => h4 d0 d1 d2 d3
  | [d0, d1, d2, d3, d4], _, _ => h5 d0 d1 d2 d3 d4
  | [d0, d1, d2, d3, d4, d5], _, _ => h6 d0 d1 d2 d3 d4 d5
  | [d0, d1, d2, d3, d4, d5, d6], _, _ => h7 d0 d1 d2 d3 d4 d5 d6
  | [d0, d1, d2, d3, d4, d5, d6, d7], _, _ => h8 d0 d1 d2 d3 d4 d5 d6 d7
  | d0 :: d1 :: d2 :: d3 :: d4 :: d5 :: d6 :: d7 :: d8 :: r, _, hl => absurd hl (Nat.not_le_of_gt (Nat.le_add_left 9 r.length))
section
variable (w : World) (os : OsState)
theorem sti_e (ds : List Nat) (N : Int) (hN : PySem.intText? ⟨ds.toArray⟩ = some N) (hne : ds ≠ []) (hl : ds.length ≤ 8) : ∀ t, CS w os 440 (.call (.ref 29) ⟨[sv ds t], []⟩) [(24, tableObj #[])] 1 (fun x => rOk (.int N (x.a 1))) (fun x => [tableObj #[.int 46 0, .int 4 0, .ref (x.a 0)]]) (fun x => [cdG (x.v 0) siQ (x.a 2) [x.v 1, x.v 2, x.v 3, x.v 4, x.v 5, x.v 6, x.v 7, x.v 8, x.v 9, x.v 10, x.v 11, x.v 12, x.v 13, x.v 14, x.v 15, x.v 16, x.v 17]]) := by
  intro t
  refine len8 (P := fun ds => PySem.intText? ⟨ds.toArray⟩ = some N → CS w os 440 (.call (.ref 29) ⟨[sv ds t], []⟩) [(24, tableObj #[])] 1 (fun x => rOk (.int N (x.a 1))) (fun x => [tableObj #[.int 46 0, .int 4 0, .ref (x.a 0)]]) (fun x => [cdG (x.v 0) siQ (x.a 2) [x.v 1, x.v 2, x.v 3, x.v 4, x.v 5, x.v 6, x.v 7, x.v 8, x.v 9, x.v 10, x.v 11, x.v 12, x.v 13, x.v 14, x.v 15, x.v 16, x.v 17]])) ?_ ?_ ?_ ?_ ?_ ?_ ?_ ?_ ds hne hl hN
  · intro d0 hN
    exact si_1e w os d0 t N hN
  · intro d0 d1 hN
    exact si_2e w os d0 d1 t N hN
  · intro d0 d1 d2 hN
    exact si_3e w os d0 d1 d2 t N hN
  · intro d0 d1 d2 d3 hN
    exact si_4e w os d0 d1 d2 d3 t N hN
  · intro d0 d1 d2 d3 d4 hN
    exact si_5e w os d0 d1 d2 d3 d4 t N hN
  · intro d0 d1 d2 d3 d4 d5 hN
    exact si_6e w os d0 d1 d2 d3 d4 d5 t N hN
  · intro d0 d1 d2 d3 d4 d5 d6 hN
    exact si_7e w os d0 d1 d2 d3 d4 d5 d6 t N hN
  · intro d0 d1 d2 d3 d4 d5 d6 d7 hN
    exact si_8e w os d0 d1 d2 d3 d4 d5 d6 d7 t N hN
theorem sti_f (ds : List Nat) (N : Int) (hN : PySem.intText? ⟨ds.toArray⟩ = some N) (hne : ds ≠ []) (hl : ds.length ≤ 8) (cd : Nat) (a0 : Value) (q : Nat) (rest : List Value) : ∀ t, CS w os 440 (.call (.ref 29) ⟨[sv ds t], []⟩) [(24, tableObj #[.int 46 0, .int 4 0, .ref cd]), (cd, cdG a0 siQ q rest)] 0 (fun x => rOk (.int N (x.a 0))) (fun x => [tableObj #[.int 46 0, .int 4 0, .ref cd], cdG a0 siQ q rest]) oNl := by
  intro t
  refine len8 (P := fun ds => PySem.intText? ⟨ds.toArray⟩ = some N → CS w os 440 (.call (.ref 29) ⟨[sv ds t], []⟩) [(24, tableObj #[.int 46 0, .int 4 0, .ref cd]), (cd, cdG a0 siQ q rest)] 0 (fun x => rOk (.int N (x.a 0))) (fun x => [tableObj #[.int 46 0, .int 4 0, .ref cd], cdG a0 siQ q rest]) oNl) ?_ ?_ ?_ ?_ ?_ ?_ ?_ ?_ ds hne hl hN
  · intro d0 hN
    exact si_1f w os d0 t N hN cd a0 q rest
  · intro d0 d1 hN
    exact si_2f w os d0 d1 t N hN cd a0 q rest
  · intro d0 d1 d2 hN
    exact si_3f w os d0 d1 d2 t N hN cd a0 q rest
  · intro d0 d1 d2 d3 hN
    exact si_4f w os d0 d1 d2 d3 t N hN cd a0 q rest
  · intro d0 d1 d2 d3 d4 hN
    exact si_5f w os d0 d1 d2 d3 d4 t N hN cd a0 q rest
  · intro d0 d1 d2 d3 d4 d5 hN
    exact si_6f w os d0 d1 d2 d3 d4 d5 t N hN cd a0 q rest
  · intro d0 d1 d2 d3 d4 d5 d6 hN
    exact si_7f w os d0 d1 d2 d3 d4 d5 d6 t N hN cd a0 q rest
  · intro d0 d1 d2 d3 d4 d5 d6 d7 hN
    exact si_8f w os d0 d1 d2 d3 d4 d5 d6 d7 t N hN cd a0 q rest
theorem num_e (f : Nat) (ds : List Nat) (N : Int) (hd : ∀ c ∈ ds, isDig c = true) (hN : PySem.intText? ⟨ds.toArray⟩ = some N) (hne : ds ≠ []) (hl : ds.length ≤ 8) : ∀ t, CS w os 430 (.call (.ref 36) ⟨[sv (tform f ds) t], []⟩) [(24, tableObj #[])] 1 (fun x => rOk (.int N (x.a 1))) (fun x => [tableObj #[.int 46 0, .int 4 0, .ref (x.a 0)]]) (fun x => [cdG (x.v 0) siQ (x.a 2) [x.v 1, x.v 2, x.v 3, x.v 4, x.v 5, x.v 6, x.v 7, x.v 8, x.v 9, x.v 10, x.v 11, x.v 12, x.v 13, x.v 14, x.v 15, x.v 16, x.v 17]]) := by
  intro t
  have hdo : ∀ c ∈ ds, okc c := fun c hc => by unfold okc; rw [hd c hc]; rfl
  have hI := sti_e w os ds N hN hne hl
  match f with
  | 0 =>
    have hg := glueU_len (ds := ds)
    exact ifs_e w os (glueU ds ++ [32]) (glueU ds) ds t N hI (fun t => rstrip1 (glue_okc hd) (by omega)) (fun t u v hu hv huv => by
      have h := replaceU (w := w) (os := os) (KK := KKw w) (d := 900) (s := glueU ds) (t := t) (u := u) (v := v) (by omega) hu hv huv
      rw [filt_glue hd] at h; exact h)
  | f + 1 =>
    exact ifs_e w os ds ds ds t N hI (fun t => rstrip0 hdo) (fun t u v hu hv huv => by
      have h := replaceU (w := w) (os := os) (KK := KKw w) (d := 900) (s := ds) (t := t) (u := u) (v := v) (by omega) hu hv huv
      rw [filt_dig hd] at h; exact h)
theorem num_f (f : Nat) (ds : List Nat) (N : Int) (hd : ∀ c ∈ ds, isDig c = true) (hN : PySem.intText? ⟨ds.toArray⟩ = some N) (hne : ds ≠ []) (hl : ds.length ≤ 8) (cd : Nat) (a0 : Value) (q : Nat) (rest : List Value) : ∀ t, CS w os 430 (.call (.ref 36) ⟨[sv (tform f ds) t], []⟩) [(24, tableObj #[.int 46 0, .int 4 0, .ref cd]), (cd, cdG a0 siQ q rest)] 0 (fun x => rOk (.int N (x.a 0))) (fun x => [tableObj #[.int 46 0, .int 4 0, .ref cd], cdG a0 siQ q rest]) oNl := by
  intro t
  have hdo : ∀ c ∈ ds, okc c := fun c hc => by unfold okc; rw [hd c hc]; rfl
  have hI := sti_f w os ds N hN hne hl cd a0 q rest
  match f with
  | 0 =>
    have hg := glueU_len (ds := ds)
    exact ifs_f w os (glueU ds ++ [32]) (glueU ds) ds t N cd a0 q rest hI (fun t => rstrip1 (glue_okc hd) (by omega)) (fun t u v hu hv huv => by
      have h := replaceU (w := w) (os := os) (KK := KKw w) (d := 900) (s := glueU ds) (t := t) (u := u) (v := v) (by omega) hu hv huv
      rw [filt_glue hd] at h; exact h)
  | f + 1 =>
    exact ifs_f w os ds ds ds t N cd a0 q rest hI (fun t => rstrip0 hdo) (fun t u v hu hv huv => by
      have h := replaceU (w := w) (os := os) (KK := KKw w) (d := 900) (s := ds) (t := t) (u := u) (v := v) (by omega) hu hv huv
      rw [filt_dig hd] at h; exact h)
noncomputable def WCA (it acc loc fr : Nat) (ds : List Nat) (t k0 : Nat) (co : List (List Nat)) (nn : Nat) (cs : List (List Nat)) (nx i : Nat) : Prop := ∀ (v0 : Value) (tka : Nat → Nat), CS w os 560 (compC w 118 [0, 0] it acc loc fr []) [(it, siO ds t i), (acc, lsO (stL cs tka) nx), (loc, dq19 w k0 v0)] 0 rNx (fun x => [x.o 0, lsO (stL co (fun j => x.a (j + 3))) nn, dq19 w k0 (x.v 0)]) oNl
theorem wcA_loop (it acc loc fr : Nat) (ds : List Nat) (t k0 : Nat) (hl : ds.length ≤ 50) : ∀ (rest pre : List Nat), ds = pre ++ rest → WCA w os it acc loc fr ds t k0 (ds.map fun c => [c]) ds.length (pre.map fun c => [c]) pre.length pre.length
  | [], pre, e => by
    rw [List.append_nil] at e
    subst e
    exact fun v0 tka => wc_endA w os it acc loc fr ds t ds.length _ tka ds.length (by simp) k0 v0
  | c :: rest, pre, e => by
    have hv : ds[pre.length]? = some c := by rw [e]; simp
    have hp : pre.length ≤ ds.length := by rw [e]; simp
    have ih := wcA_loop it acc loc fr ds t k0 hl rest (pre ++ [c]) (by rw [e]; simp)
    rw [List.map_append, List.length_append] at ih
    exact fun v0 tka => wc_A w os it acc loc fr ds t pre.length _ tka pre.length c (by simp; omega) hv k0 v0 _ _ ih
theorem wcA_all (it acc loc fr : Nat) (ds : List Nat) (t : Nat) (hl : ds.length ≤ 50) (hne : ds ≠ []) : CS w os 560 (compC w 118 [0, 0] it acc loc fr []) [(it, siO ds t 0), (acc, lsO [] 0), (loc, dcE w [])] 0 rNx (fun x => [x.o 0, lsO (stL (ds.map fun c => [c]) (fun j => x.a (j + 3))) ds.length, dq19 w (x.a 0) (x.v 0)]) oNl := by
  match ds, hne, hl with
  | c :: rest, _, hl => exact wc_Af w os it acc loc fr (c :: rest) t 0 [] (fun _ => 0) 0 c (by simp) rfl _ _ fun v0 tka k0 => wcA_loop w os it acc loc fr (c :: rest) t k0 hl rest [c] rfl v0 tka
noncomputable def WCB (it acc loc fr : Nat) (ds : List Nat) (t k0 : Nat) (co : List (List Nat)) (nn : Nat) (cs : List (List Nat)) (nx i : Nat) : Prop := ∀ (v0 : Value) (tka : Nat → Nat), CS w os 560 (compC w 118 [2] it acc loc fr []) [(it, siO ds t i), (acc, lsO (stL cs tka) nx), (loc, dq19 w k0 v0)] 0 rNx (fun x => [x.o 0, lsO (stL co (fun j => x.a (j + 3))) nn, dq19 w k0 (x.v 0)]) oNl
theorem wcB_loop (it acc loc fr : Nat) (ds : List Nat) (t k0 : Nat) (hl : ds.length ≤ 50) : ∀ (rest pre : List Nat), ds = pre ++ rest → WCB w os it acc loc fr ds t k0 (ds.map fun c => [92, c]) ds.length (pre.map fun c => [92, c]) pre.length pre.length
  | [], pre, e => by
    rw [List.append_nil] at e
    subst e
    exact fun v0 tka => wc_endB w os it acc loc fr ds t ds.length _ tka ds.length (by simp) k0 v0
  | c :: rest, pre, e => by
    have hv : ds[pre.length]? = some c := by rw [e]; simp
    have hp : pre.length ≤ ds.length := by rw [e]; simp
    have ih := wcB_loop it acc loc fr ds t k0 hl rest (pre ++ [c]) (by rw [e]; simp)
    rw [List.map_append, List.length_append] at ih
    exact fun v0 tka => wc_B w os it acc loc fr ds t pre.length _ tka pre.length c (by simp; omega) hv k0 v0 _ _ ih
theorem wcB_all (it acc loc fr : Nat) (ds : List Nat) (t : Nat) (hl : ds.length ≤ 50) (hne : ds ≠ []) : CS w os 560 (compC w 118 [2] it acc loc fr []) [(it, siO ds t 0), (acc, lsO [] 0), (loc, dcE w [])] 0 rNx (fun x => [x.o 0, lsO (stL (ds.map fun c => [92, c]) (fun j => x.a (j + 3))) ds.length, dq19 w (x.a 0) (x.v 0)]) oNl := by
  match ds, hne, hl with
  | c :: rest, _, hl => exact wc_Bf w os it acc loc fr (c :: rest) t 0 [] (fun _ => 0) 0 c (by simp) rfl _ _ fun v0 tka k0 => wcB_loop w os it acc loc fr (c :: rest) t k0 hl rest [c] rfl v0 tka
theorem fold_len (m k : Nat) (g : Nat → List Nat) (hg : ∀ c, (g c).length = m) : ∀ (ds : List Nat) (a : Nat), ((ds.map g).map fun s => (⟨s.toArray⟩ : Str)).foldl (fun a s => a + s.length + k) a = a + ds.length * (m + k)
  | [], a => by simp
  | c :: ds, a => by
    rw [List.map_cons, List.map_cons, List.foldl_cons, fold_len m k g hg ds]
    have e : (⟨(g c).toArray⟩ : Str).length = m := by show (g c).toArray.size = m; simp [hg c]
    rw [e, List.length_cons, Nat.add_mul]; omega
theorem tooLong_ok {m k : Nat} {g : Nat → List Nat} {sep : Str} (hg : ∀ c, (g c).length = m) (hk : sep.length = k) {ds : List Nat} (hl : ds.length ≤ 50) (hm : m + k ≤ 10) : Builtin.Str.tooLong (((ds.map g).map fun s => (⟨s.toArray⟩ : Str)).toArray.foldl (· + ·.length + sep.length) 0) = false := by
  rw [hk, List.foldl_toArray, fold_len m k g hg]
  unfold Builtin.Str.tooLong
  rw [sizeLine_eq]
  have := Nat.mul_le_mul hl hm
  exact decide_eq_false (by omega)
theorem fold_app (sep : List Nat) (g : Nat → List Nat) : ∀ (ds acc : List Nat), ((ds.map g).map fun s => (⟨s.toArray⟩ : Str)).foldl (fun acc p => acc ++ (⟨sep.toArray⟩ : Str).cps ++ p.cps) acc.toArray = (acc ++ ds.flatMap fun c => sep ++ g c).toArray
  | [], acc => by simp
  | c :: ds, acc => by
    rw [List.map_cons, List.map_cons, List.foldl_cons]
    have e : acc.toArray ++ (⟨sep.toArray⟩ : Str).cps ++ (⟨(g c).toArray⟩ : Str).cps = (acc ++ sep ++ g c).toArray := by simp
    rw [e, fold_app sep g ds, List.flatMap_cons]
    simp [List.append_assoc]
theorem glued_U {ds : List Nat} (hne : ds ≠ []) : Builtin.Str.glued (⟨#[95]⟩ : Str) ((ds.map fun c => [c]).map fun s => (⟨s.toArray⟩ : Str)) = ⟨(glueU ds).toArray⟩ := by
  match ds, hne with
  | c :: cs, _ =>
    have h := fold_app [95] (fun c => [c]) cs [c]
    exact congrArg Str.mk h
theorem glued_B {ds : List Nat} (hne : ds ≠ []) : Builtin.Str.glued (⟨#[]⟩ : Str) ((ds.map fun c => [92, c]).map fun s => (⟨s.toArray⟩ : Str)) = ⟨(bsl ds).toArray⟩ := by
  match ds, hne with
  | c :: cs, _ =>
    have h := fold_app [] (fun c => [92, c]) cs [92, c]
    exact congrArg Str.mk h
noncomputable def fform (way : Int) : Nat := bif way.fmod 3 == 0 then 0 else bif way.fmod 3 == 1 then 1 else 2
theorem bsl_len {ds : List Nat} : (bsl ds).length = 2 * ds.length := flat2_len ds
theorem written_s (ds : List Nat) (way : Int) (hd : ∀ c ∈ ds, isDig c = true) (hne : ds ≠ []) (hl : ds.length ≤ 50) : ∀ t z, CS w os 430 (.call (.ref 118) ⟨[sv ds t, .int way z], []⟩) [] 0 (fun x => rOk (sv (wform (fform way) ds) (x.a 0))) oNl oNl := by
  intro t z
  have hds : ∀ c ∈ ds, c < 128 := fun c hc => by have := dig_lt (hd c hc); omega
  unfold fform
  cases m0 : (way.fmod 3 == 0) with
  | true =>
    have hg := glueU_len (ds := ds)
    have hA := fun it acc loc fr => wcA_all w os it acc loc fr ds t hl hne
    exact wr_0 w os ds t way z m0 hds _ _ hA (glueU ds) (tooLong_ok (m := 1) (k := 1) (fun _ => rfl) rfl hl (by omega)) (glued_U hne) (by omega)
  | false =>
    cases m1 : (way.fmod 3 == 1) with
    | true => exact wr_1 w os ds t way z m0 m1
    | false =>
      have hB := fun it acc loc fr => wcB_all w os it acc loc fr ds t hl hne
      exact wr_2 w os ds t way z m0 m1 hds _ _ hB (bsl ds) (tooLong_ok (m := 2) (k := 0) (fun _ => rfl) rfl hl (by omega)) (glued_B hne) (by rw [bsl_len]; omega)
theorem repr_s (N : Nat) (h : N < 100000000) : ∀ u, CS w os 900 (.builtin "int.__repr__" ⟨[.int (Int.ofNat N) u], []⟩) [] 0 (fun x => rOk (sv (dsN N) (x.a 0))) oNl oNl := fun u =>
  reprN (dsN_str N) (Nat.le_trans (dsN_len (k := 8) (by omega) (by omega)) (by omega)) (by
    show N.log2 < 1920
    by_cases h0 : N = 0
    · subst h0; decide
    · exact Nat.lt_of_lt_of_le ((Nat.log2_lt (n := N) (k := 27) h0).mpr (by omega)) (by omega))
end
end Mine
end
section
open PySem PySem.Spec PySem.Calls PyProof.Rows PySem.W PySem.W.X
set_option maxRecDepth 100000
set_option linter.unusedVariables false
namespace Mine
noncomputable def flipN (i k : Nat) : Nat := match bitN i k with
  | 0 => i + 2 ^ k
  | _ => i - 2 ^ k
theorem flip_ok : ∀ i < 8, ∀ k < 3, flipN i k < 8 ∧ vwN (flipN i k) k = vwN i k ∧ bitN (flipN i k) k + bitN i k = 1 ∧ near (flipN i k) i = true := by decide
theorem upTo_congr {p q : Nat → Bool} {n : Nat} (h : ∀ i < n, p i = q i) : upTo p n = upTo q n := by
  unfold upTo
  exact List.filter_congr fun i hi => h i (List.mem_range.mp hi)
theorem upTo_lt {p : Nat → Bool} {n : Nat} : ∀ i ∈ upTo p n, i < n := fun i hi => List.mem_range.mp (List.mem_filter.mp hi).1
theorem upTo_mem {p : Nat → Bool} {n i : Nat} (h : i < n) (hp : p i = true) : i ∈ upTo p n := List.mem_filter.mpr ⟨List.mem_range.mpr h, hp⟩
theorem upTo_nil {p : Nat → Bool} {n : Nat} (h : ∀ i < n, p i = false) : upTo p n = [] := by
  unfold upTo
  rw [List.filter_eq_nil_iff]
  intro i hi
  rw [h i (List.mem_range.mp hi)]
  simp
theorem wrg_lost {f : Nat → Nat} {i k : Nat} (hk : k < 3) (h : wrg f i k = 1) : lostB f i = true := by
  unfold lostB
  have : 0 < wrgs f i := by
    unfold wrgs
    have : k = 0 ∨ k = 1 ∨ k = 2 := by omega
    rcases this with rfl | rfl | rfl <;> omega
  rw [Bool.or_eq_true]
  exact .inr (Nat.ble_eq_true_of_le this)
/-- each word is lost, or near to a lost one -/
theorem law_far (f : Nat → Nat) : farL (lostL f) = [] := by
  refine upTo_nil fun i hi => ?_
  unfold farB
  cases hl : lostB f i with
  | true =>
    have : (lostL f).contains i = true := List.contains_iff_mem.mpr (upTo_mem hi hl)
    rw [this]; rfl
  | false =>
    have hr : 0 < rgts f i := by
      unfold lostB at hl
      have := (Bool.or_eq_false_iff.mp hl).1
      rw [beq_eq_false_iff_ne] at this
      omega
    obtain ⟨k, hk, hg⟩ : ∃ k, k < 3 ∧ rgt f i k = 1 := by
      have b : ∀ k, rgt f i k = 0 ∨ rgt f i k = 1 := fun k => by
        unfold rgt
        cases (f (vwN i k) == 1 + bitN i k)
        · exact .inl rfl
        · exact .inr rfl
      unfold rgts at hr
      rcases b 0 with h0 | h0
      · rcases b 1 with h1 | h1
        · rcases b 2 with h2 | h2
          · omega
          · exact ⟨2, by omega, h2⟩
        · exact ⟨1, by omega, h1⟩
      · exact ⟨0, by omega, h0⟩
    obtain ⟨f1, f2, f3, f4⟩ := flip_ok i hi k hk
    have hgv : f (vwN i k) = 1 + bitN i k := by
      unfold rgt at hg
      cases hq : (f (vwN i k) == 1 + bitN i k) with
      | true => exact beq_iff_eq.mp hq
      | false => rw [hq] at hg; cases hg
    have hw : wrg f (flipN i k) k = 1 := by
      unfold wrg
      rw [f2, hgv]
      have : (1 + bitN i k + bitN (flipN i k) k == 2) = true := beq_iff_eq.mpr (by omega)
      rw [this]; rfl
    have hm : flipN i k ∈ lostL f := upTo_mem f1 (wrg_lost hk hw)
    have hn : flipN i k ∈ nearL (lostL f) i := List.mem_filter.mpr ⟨hm, f4⟩
    rw [Bool.and_eq_false_iff]
    refine .inr ?_
    cases hq : nearL (lostL f) i with
    | nil => rw [hq] at hn; cases hn
    | cons => rfl
noncomputable def setOf (b0 b1 b2 b3 b4 b5 b6 b7 : Bool) : List Nat := upTo (fun i => [b0, b1, b2, b3, b4, b5, b6, b7].getD i false) 8
noncomputable def goodS (S : List Nat) : Bool := lostL (madeF S) == upTo (dueB S (farL S)) 8
theorem all_sets : ∀ b0 b1 b2 b3 b4 b5 b6 b7, goodS (setOf b0 b1 b2 b3 b4 b5 b6 b7) = true := by decide +kernel
theorem upTo_set (p : Nat → Bool) : upTo p 8 = setOf (p 0) (p 1) (p 2) (p 3) (p 4) (p 5) (p 6) (p 7) := by
  refine upTo_congr fun i hi => ?_
  match i, hi with
  | 0, _ => rfl
  | 1, _ => rfl
  | 2, _ => rfl
  | 3, _ => rfl
  | 4, _ => rfl
  | 5, _ => rfl
  | 6, _ => rfl
  | 7, _ => rfl
  | i + 8, hi => exact absurd hi (by omega)
/-- a set's made table loses the set and the words far from it -/
theorem law_made (p : Nat → Bool) : lostL (madeF (upTo p 8)) = upTo (dueB (upTo p 8) (farL (upTo p 8))) 8 := by
  rw [upTo_set p]
  exact eq_of_beq (all_sets _ _ _ _ _ _ _ _)
theorem upTo_has {p : Nat → Bool} {n i : Nat} (h : i < n) : (upTo p n).contains i = p i := by
  cases hp : p i with
  | true => exact List.contains_iff_mem.mpr (upTo_mem h hp)
  | false =>
    rw [Bool.eq_false_iff]
    intro e
    have := (List.mem_filter.mp (List.contains_iff_mem.mp e)).2
    rw [hp] at this; cases this
/-- the lost words' own table loses just them -/
theorem law_again (f : Nat → Nat) : lostL (madeF (lostL f)) = lostL f := by
  have h := law_made (lostB f)
  have e : upTo (lostB f) 8 = lostL f := rfl
  rw [e, law_far] at h
  rw [h]
  show _ = upTo (lostB f) 8
  refine upTo_congr fun i hi => ?_
  unfold dueB
  rw [← e, upTo_has hi]
  simp
end Mine
end
section
open PySem PySem.Spec PySem.Calls PyProof.Rows PySem.W PySem.W.X
set_option maxRecDepth 100000
set_option linter.unusedVariables false
set_option linter.unusedSimpArgs false
namespace Mine
theorem RD_mk {pre xs rest : List Nat} : RD ⟨(pre ++ (xs ++ rest)).toArray⟩ pre.length xs := by
  intro i c h
  show (pre ++ (xs ++ rest)).toArray[pre.length + i]? = some c
  rw [List.getElem?_toArray, List.getElem?_append_right (by omega), Nat.add_sub_cancel_left, List.getElem?_append_left (List.getElem?_eq_some_iff.mp h).1]
  exact h
theorem RD_at {T pre xs rest : List Nat} {p : Nat} (hT : T = pre ++ (xs ++ rest)) (hp : p = pre.length) : RD ⟨T.toArray⟩ p xs := by
  subst hT hp; exact RD_mk
theorem wform_len (f : Nat) (ds : List Nat) (h : ds.length ≤ 8) : (wform f ds).length ≤ 100 := by
  match f with
  | 0 =>
    have := glueU_len (ds := ds)
    simp only [wform, List.length_append, List.length_cons, List.length_nil]; omega
  | 1 => simp only [wform]; omega
  | f + 2 => simp only [wform, bsl_len]; omega
theorem eform_0 (ds : List Nat) : eform 0 ds 0 = (wform 0 ds).length := by
  simp only [eform, wform, List.length_append, List.length_cons, List.length_nil]; omega
theorem eform_s (f : Nat) (ds : List Nat) : eform (f + 1) ds 0 = (wform (f + 1) ds ++ [10]).length := by
  match f with
  | 0 => simp only [eform, wform, List.length_append, List.length_cons, List.length_nil]; omega
  | f + 1 => simp only [eform, wform, List.length_append, List.length_cons, List.length_nil, bsl_len]; omega
theorem dig4 (N : Nat) : ∀ j < 12, (16777215 + N + 1) / 2 ^ (j * 2) % 4 = figs N j := by
  intro j hj
  have h : ∀ j < 12, 16777216 = 2 ^ (j * 2) * (4 * 4 ^ (11 - j)) ∧ 4 ^ j = 2 ^ (j * 2) ∧ 0 < 2 ^ (j * 2) := by decide
  obtain ⟨h1, h2, h3⟩ := h j hj
  unfold figs
  rw [h2, show 16777215 + N + 1 = 16777216 + N by omega]
  generalize 2 ^ (j * 2) = c at *
  generalize 4 ^ (11 - j) = e at *
  rw [h1, Nat.mul_add_div h3]
  exact Nat.mul_add_mod ..
theorem dig2 (P : Nat) : ∀ j < 8, (255 + P + 1) / 2 ^ (j * 1) % 2 = binF P j := by
  intro j hj
  have h : ∀ j < 8, 256 = 2 ^ (j * 1) * (2 * 2 ^ (7 - j)) ∧ 2 ^ j = 2 ^ (j * 1) ∧ 0 < 2 ^ (j * 1) := by decide
  obtain ⟨h1, h2, h3⟩ := h j hj
  unfold binF
  rw [h2, show 255 + P + 1 = 256 + P by omega]
  generalize 2 ^ (j * 1) = c at *
  generalize 2 ^ (7 - j) = e at *
  rw [h1, Nat.mul_add_div h3]
  exact Nat.mul_add_mod ..
theorem figs_lt (N j : Nat) : figs N j < 4 := Nat.mod_lt _ (by omega)
theorem fmod_nat (a : Int) (m : Nat) (hm : 0 < m) : a.fmod (m : Int) = Int.ofNat (a.fmod m).toNat ∧ (a.fmod m).toNat < m := by
  have h1 := Int.fmod_nonneg_of_pos a (show (0 : Int) < m by omega)
  have h2 := Int.fmod_lt_of_pos a (show (0 : Int) < m by omega)
  constructor
  · rw [Int.ofNat_eq_natCast, Int.toNat_of_nonneg h1]
  · omega
theorem IntsAre.allI {vs : List Value} {ns : List Int} (h : IntsAre vs ns) : AllI vs := by
  induction h with
  | nil => intro y hy; cases hy
  | cons n t _ ih =>
    intro y hy
    rcases List.mem_cons.mp hy with rfl | hy
    · exact ⟨n, t, rfl⟩
    · exact ih y hy
theorem plus1 (N : Nat) : 16777216 + N = 16777215 + N + 1 := by omega
theorem plus2 (N : Nat) : 256 + N = 255 + N + 1 := by omega
theorem plus3 {N : Nat} (h : N < 16777216) : 16777216 ≤ 16777215 + N + 1 ∧ 16777215 + N + 1 < 33554432 := by omega
theorem plus4 {N : Nat} (h : N < 256) : 256 ≤ 255 + N + 1 ∧ 255 + N + 1 < 512 := by omega
section
variable (w : World) (os : OsState)
noncomputable def TK2 (s : Str) (L1 : Int) (p1 : Nat) (tk2 : List Nat) (p2 : Nat) (L2 : Int) : Prop := ∀ (mi md pb st sd rf cd ct ca al tu cl : Nat) (ν : Nat → Nat) (rd : Nat) (a0 : Value) (rest : List Value) (q ts na tp lt n : Nat), CS w os 470 (.call (.ref 78) ⟨[.ref mi], []⟩) [(mi, machI md), (md, machD w (.int L1 lt) st pb ν), (pb, lsO [] n), (st, lamO w cl sd), (sd, dq0 w rd (.ref rf)), (rf, rfO w ct ca cd tu), (cd, cdO a0 q rest), (ct, cellO (.str s ts)), (ca, cellO (.ref al)), (al, lsO [.int (Int.ofNat p1) tp] na)] 0 (fun x => rOk (sv tk2 (x.a 0))) (fun x => [machI md, machD w (.int L2 (x.a 2)) st pb ν, lsO [] n, lamO w cl sd, dq0 w rd (.ref rf), rfO w ct ca cd tu, cdO a0 q rest, cellO (.str s ts), cellO (.ref al), lsO [.int (Int.ofNat p2) (x.a 1)] na]) oNl
theorem tokens (f1 f2 : Nat) (d1 d2 : List Nat) (h1 : ∀ c ∈ d1, isDig c = true) (h2 : ∀ c ∈ d2, isDig c = true) (n1 : d1 ≠ []) (n2 : d2 ≠ []) (l1 : d1.length ≤ 8) (l2 : d2.length ≤ 8) :
    ∃ p1 L1 p2 L2, TK2 w os ⟨(wform f1 d1 ++ [10] ++ wform f2 d2 ++ [10]).toArray⟩ 1 0 (tform f1 d1) p1 L1 ∧ TK2 w os ⟨(wform f1 d1 ++ [10] ++ wform f2 d2 ++ [10]).toArray⟩ L1 p1 (tform f2 d2) p2 L2 := by
  have w1 := wform_len f1 d1 l1
  have w2 := wform_len f2 d2 l2
  have hs : 2 ≤ (⟨(wform f1 d1 ++ [10] ++ wform f2 d2 ++ [10]).toArray⟩ : Str).length := by
    show 2 ≤ (wform f1 d1 ++ [10] ++ wform f2 d2 ++ [10]).toArray.size
    simp; omega
  have r1 : RD ⟨(wform f1 d1 ++ [10] ++ wform f2 d2 ++ [10]).toArray⟩ 0 (wform f1 d1 ++ [10]) := RD_at (pre := []) (rest := wform f2 d2 ++ [10]) (by simp) rfl
  match f1, w1, hs, r1 with
  | 0, w1, hs, r1 =>
    have r2 : RD ⟨(wform 0 d1 ++ [10] ++ wform f2 d2 ++ [10]).toArray⟩ (eform 0 d1 0) (10 :: (wform f2 d2 ++ [10])) := RD_at (pre := wform 0 d1) (rest := []) (by simp) (eform_0 d1)
    have e1 := eform_0 d1
    exact ⟨eform 0 d1 0, lform 0 1, eform f2 d2 (eform 0 d1 0 + 1), lform f2 (lform 0 1 + 1), fun mi md pb st sd rf cd ct ca al tu cl ν rd a0 rest q ts na tp lt n => tok1 w os mi md pb st sd rf cd ct ca al tu cl ν rd a0 rest q _ ts na tp lt n 1 hs 0 0 d1 n1 h1 (by omega) (by omega) r1,
      fun mi md pb st sd rf cd ct ca al tu cl ν rd a0 rest q ts na tp lt n => tok2 w os mi md pb st sd rf cd ct ca al tu cl ν rd a0 rest q _ ts na tp lt n (lform 0 1) hs f2 (eform 0 d1 0) d2 n2 h2 (by omega) (by omega) r2⟩
  | f + 1, w1, hs, r1 =>
    have r2 : RD ⟨(wform (f + 1) d1 ++ [10] ++ wform f2 d2 ++ [10]).toArray⟩ (eform (f + 1) d1 0) (wform f2 d2 ++ [10]) := RD_at (pre := wform (f + 1) d1 ++ [10]) (rest := []) (by simp) (eform_s f d1)
    have e1 := eform_s f d1
    rw [List.length_append, List.length_singleton] at e1
    exact ⟨eform (f + 1) d1 0, lform (f + 1) 1, eform f2 d2 (eform (f + 1) d1 0), lform f2 (lform (f + 1) 1), fun mi md pb st sd rf cd ct ca al tu cl ν rd a0 rest q ts na tp lt n => tok1 w os mi md pb st sd rf cd ct ca al tu cl ν rd a0 rest q _ ts na tp lt n 1 hs (f + 1) 0 d1 n1 h1 (by omega) (by omega) r1,
      fun mi md pb st sd rf cd ct ca al tu cl ν rd a0 rest q ts na tp lt n => tok1 w os mi md pb st sd rf cd ct ca al tu cl ν rd a0 rest q _ ts na tp lt n (lform (f + 1) 1) hs f2 (eform (f + 1) d1 0) d2 n2 h2 (by omega) (by omega) r2⟩
theorem law_body (fr cp cw cb cc cf k0 : Nat) (vs : List Value) (hall : AllI vs) (hvl : vs.length ≤ 100) : CS w os 330 (lawFn w fr [(⟨Zag⟩, cf), (⟨Zah⟩, cc), (⟨Zai⟩, cb), (⟨Zae⟩, cw), (⟨Zaj⟩, cp)]) [(167, lsO vs 0), (108, tableObj #[]), (38, tableObj #[]), (24, tableObj #[]), (fr, fq9 w k0 (.ref 167)), (cp, cNo), (cw, cNo), (cb, cNo), (cc, cNo), (cf, cNo)] 0 (fun _ => rOk (.bool true)) (fun x => [lsO vs 0, tableObj #[.int (Int.ofNat 198) 0, .int (Int.ofNat 4) 0, .ref (x.a 0), .int (Int.ofNat 202) 0, .int (Int.ofNat 13) 0, .ref (x.a 1)], tableObj #[.int 59 0, .int 4 0, .ref (x.a 2)], tableObj #[.int 46 0, .int 4 0, .ref (x.a 3)], x.o 0, x.o 1, x.o 2, x.o 3, x.o 4, x.o 5]) oNl := by
  have hA0 : AllI (pickL vs 0) := fun y hy => hall y (pick_mem y hy)
  have hA1 : AllI (pickL vs 1) := fun y hy => hall y (pick_mem y hy)
  obtain ⟨hN1, hNl⟩ := fmod_nat (4342338 + 40503 * sumI 0 (pickL vs 0)) 16777216 (by decide)
  obtain ⟨hP1, hPl⟩ := fmod_nat (3 + sumI 0 (pickL vs 1)) 256 (by decide)
  generalize hNe : ((4342338 + 40503 * sumI 0 (pickL vs 0)).fmod ((16777216 : Nat) : Int)).toNat = N at hN1 hNl
  generalize hPe : ((3 + sumI 0 (pickL vs 1)).fmod ((256 : Nat) : Int)).toNat = P at hP1 hPl
  have dN := dsN_dig N
  have dP := dsN_dig P
  have nN := dsN_ne N
  have nP := dsN_ne P
  have hN8 : N < 100000000 := Nat.lt_trans hNl (by decide)
  have hP8 : P < 100000000 := Nat.lt_trans hPl (by decide)
  have lN : (dsN N).length ≤ 8 := dsN_len (by decide) hN8
  have lP : (dsN P).length ≤ 8 := dsN_len (by decide) hP8
  have lN50 : (dsN N).length ≤ 50 := Nat.le_trans lN (by decide)
  have lP50 : (dsN P).length ≤ 50 := Nat.le_trans lP (by decide)
  obtain ⟨p1, L1, p2, L2, hT1, hT2⟩ := tokens w os (fform (sumI 0 vs)) (fform ((sumI 0 vs).fdiv 3)) (dsN N) (dsN P) dN dP nN nP lN lP
  obtain ⟨G1, g1, hD1⟩ := dig13 w os (16777215 + N) (plus3 hNl).1 (plus3 hNl).2
  obtain ⟨G2, g2, hD2⟩ := dig9 w os (255 + P) (plus4 hPl).1 (plus4 hPl).2
  have hG1 : ∀ j < 12, G1[j]? = some (figs N j) := fun j hj => (g1 j (Nat.lt_succ_of_lt hj)).trans (congrArg some (dig4 N j hj))
  have hG2 : ∀ j < 8, G2[j]? = some (binF P j) := fun j hj => (g2 j (Nat.lt_succ_of_lt hj)).trans (congrArg some (dig2 P j hj))
  have hAlt : ∀ s ∈ (upTo (bitB (binF P)) 8), s < 8 := upTo_lt
  have hAl : (upTo (bitB (binF P)) 8).length ≤ 20 := Nat.le_trans (upTo_len _ 8) (by decide)
  have hFlt : ∀ s ∈ farL (upTo (bitB (binF P)) 8), s < 8 := upTo_lt
  have hLlt : ∀ s ∈ lostL (figs N), s < 8 := upTo_lt
  have hLl : (lostL (figs N)).length ≤ 20 := Nat.le_trans (upTo_len (lostB (figs N)) 8) (by decide)
  exact law w os fr cp cw cb cc cf k0 vs (pickL vs 0) (pickL vs 1) (sumI 0 (pickL vs 0)) (sumI 0 (pickL vs 1)) (sumI 0 vs) _ _ _ _ N P (fun sl t u => slice_s w os 167 sl vs 0 t u 0 hvl) (fun l => sum_s w os l _ 0 hA0) (fun sl t u => slice_s w os 167 sl vs 0 t u 1 hvl) (fun l => sum_s w os l _ 0 hA1) (sum_s w os 167 vs 0 hall) rfl rfl hN1 rfl hP1 rfl
      (dsN N) (dsN P) (wform (fform (sumI 0 vs)) (dsN N)) (wform (fform ((sumI 0 vs).fdiv 3)) (dsN P)) (repr_s w os N hN8) (repr_s w os P hP8) (written_s w os (dsN N) _ dN nN lN50) (written_s w os (dsN P) _ dP nP lP50) (Nat.le_trans (wform_len (fform (sumI 0 vs)) (dsN N) lN) (by decide)) (Nat.le_trans (wform_len (fform ((sumI 0 vs).fdiv 3)) (dsN P) lP) (by decide))
      (tform (fform (sumI 0 vs)) (dsN N)) (tform (fform ((sumI 0 vs).fdiv 3)) (dsN P)) p1 p2 L1 L2 hT1 hT2
      (num_e w os (fform (sumI 0 vs)) (dsN N) (Int.ofNat N) dN (dsN_read hN8) nN lN) (fun t cd a0 q rest => num_f w os (fform ((sumI 0 vs).fdiv 3)) (dsN P) (Int.ofNat P) dP (dsN_read hP8) nP lP cd a0 q rest t)
      (16777215 + N) (255 + P) (plus1 N) (plus2 P) G1 G2 hD1 hD2
      (fun τ => wl τ (upTo (bitB (binF P)) 8)) (fun τ => wl τ (upTo (bitB (binF P)) 8)) (fun τ => wl τ (farL (upTo (bitB (binF P)) 8))) (fun τ => wl τ (lostL (figs N))) (fun τ => wl τ (lostL (madeF (lostL (figs N))))) (fun τ => wl τ (lostL (madeF (upTo (bitB (binF P)) 8)))) (fun τ => wl τ (upTo (dueB (upTo (bitB (binF P)) 8) (farL (upTo (bitB (binF P)) 8))) 8)) (fun τ => wl τ (lostL (figs N)))
      (upTo (bitB (binF P)) 8).length (upTo (bitB (binF P)) 8).length (farL (upTo (bitB (binF P)) 8)).length (lostL (figs N)).length (lostL (madeF (lostL (figs N)))).length (lostL (madeF (upTo (bitB (binF P)) 8))).length (upTo (dueB (upTo (bitB (binF P)) 8) (farL (upTo (bitB (binF P)) 8))) 8).length (lostL (figs N)).length 0 (lostN (figs N) 0) (lostN (madeF (lostL (figs N))) (lostN (figs N) 0)) (lostN (madeF (upTo (bitB (binF P)) 8)) (lostN (madeF (lostL (figs N))) (lostN (figs N) 0)))
      (fun it acc loc fr cf cc cb cw cp wla bl τ tk => lm_all w os it acc loc fr cw cb wla bl τ G2 tk (binF P) hG2)
      (fun it acc loc fr cf cc cb cw cp wla τ z => lch_all w os it acc loc fr cw cp wla τ P z)
      (fun wla ml τ => far_s w os wla ml τ (upTo (bitB (binF P)) 8) _ hAlt hAl)
      (fun vt => tabF (figs N) vt) (fun vt => tabF (madeF (lostL (figs N))) vt) (fun vt => tabF (madeF (upTo (bitB (binF P)) 8)) vt)
      (fun vl e kt vt fl tk => drawn_s w os vl fl e kt vt (figs N) G1 tk hG1 (figs_lt N))
      (fun mi md pb st wla td ln ν τ vt tr => lost_s w os mi md pb st wla td ln ν τ (figs N) vt tr 0)
      (fun vl e kt vt ml τ => made_s w os vl ml e kt vt τ (lostL (figs N)) _ hLlt hLl)
      (fun mi md pb st wla td ln ν τ vt tr => lost_s w os mi md pb st wla td ln ν τ (madeF (lostL (figs N))) vt tr (lostN (figs N) 0))
      (fun vl e kt vt ml τ => made_s w os vl ml e kt vt τ (upTo (bitB (binF P)) 8) _ hAlt hAl)
      (fun mi md pb st wla td ln ν τ vt tr => lost_s w os mi md pb st wla td ln ν τ (madeF (upTo (bitB (binF P)) 8)) vt tr (lostN (madeF (lostL (figs N))) (lostN (figs N) 0)))
      (fun it acc loc fr cf cc cb cw cp wla chl fal τ => ld_all w os it acc loc fr wla cc cf chl fal τ (upTo (bitB (binF P)) 8) (farL (upTo (bitB (binF P)) 8)) _ _ hAlt hFlt)
      (fun wla τ z => told_s w os wla τ N z)
      (fun wla ml τ => by
        have h := far_s w os wla ml τ (lostL (figs N)) (lostL (figs N)).length hLlt hLl
        rw [law_far] at h; exact h)
      (fun _ => rfl) (fun τ => by rw [law_again]) (fun τ => by rw [law_made]) (fun τ => wl_str) (fun τ => wl_str)
end
end Mine
end
section
open PySem PySem.Spec PySem.Calls PySem.W PySem.W.X PySem.W.ZRun PyProof.Rows
set_option maxRecDepth 100000
set_option linter.unusedVariables false
namespace Mine
noncomputable def codeTab (w : World) (c : Nat) : Option Value := match KT.get (hd.ktop_362 w.params) c with
  | some o => match o.data with
    | .fields vs => bif (o.cls == .type "code") then vs[11]? else none
    | _ => none
  | none => none
theorem tab24 (w : World) : codeTab w 28 = some (.ref 24) := by kernel_rfl
theorem tab38 (w : World) : codeTab w 42 = some (.ref 38) := by kernel_rfl
theorem tab108 (w : World) : codeTab w 112 = some (.ref 108) := by kernel_rfl
theorem obj24 (w : World) : KT.get (hd.ktop_362 w.params) 24 = some (tableObj #[]) := by kernel_rfl
theorem obj38 (w : World) : KT.get (hd.ktop_362 w.params) 38 = some (tableObj #[]) := by kernel_rfl
theorem obj108 (w : World) : KT.get (hd.ktop_362 w.params) 108 = some (tableObj #[]) := by kernel_rfl
theorem obj167 (w : World) : KT.get (hd.ktop_362 w.params) 167 = none := by kernel_rfl
theorem codeTab_is {w : World} {h : Heap} (ZH : KT.Holds h 1 0 (hd.ktop_362 w.params)) {c b : Nat} (e : codeTab w c = some (.ref b)) : isCodeTable h b := by
  unfold codeTab at e
  split at e
  · rename_i o ho
    split at e
    · rename_i vs hv
      cases hc : (o.cls == .type "code") with
      | true =>
        rw [hc] at e
        have hg := KT.Holds.get ZH ho
        rw [Nat.one_mul, Nat.add_zero] at hg
        exact ⟨c, o, vs, hg, eq_of_beq hc, hv, e⟩
      | false => rw [hc] at e; cases e
    · cases e
  · cases e
theorem good_of {w : World} {h : Heap} (ZH : KT.Holds h 1 0 (hd.ktop_362 w.params)) : Good (KKw w) h := by
  intro a o e
  unfold KKw at e
  split at e
  · cases e
  · have hg := KT.Holds.get ZH e
    rwa [Nat.one_mul, Nat.add_zero] at hg
theorem inj4 : ∀ j < 4, ∀ k < 4, nth [167, 108, 38, 24] j = nth [167, 108, 38, 24] k → j = k := by decide
theorem grow {h : Heap} {b : Nat} {ps : Array Value} (e : h.get? b = some (tableObj ps)) : ∃ vs more, (tableObj #[]).data = .fields vs ∧ h.get? b = some { tableObj #[] with data := .fields (vs ++ more) } := ⟨#[], ps, rfl, by rw [Array.empty_append]; exact e⟩
theorem walk (w : World) (vs : List Value) (ns : List Int) (s : Shared) (Q : PySem.Result → Shared → Prop) (hi : IntsAre vs ns) (hl : ns.length ≤ 63) (ZH : KT.Holds s.heap 1 0 (hd.ktop_362 w.params)) (h167 : s.heap.get? 167 = some ⟨.type "list", none, .seq vs.toArray 0, #[]⟩) (hg : s.gens = #[]) (ht : 0 < s.toks)
    (hQ : ∀ h' dr' tk', OldK s.heap h' → Q (.ok (.ret (.bool true))) ⟨h', #[], dr', tk', s.os⟩) : codeAny (MO w) callerA (.call (.ref 166) ⟨[.ref 167], []⟩) Q s := by
  obtain ⟨h, gens, dr, tk, os⟩ := s
  cases hg
  obtain ⟨tk, rfl⟩ : ∃ t, tk = t + 1 := ⟨tk - 1, by have : 0 < tk := ht; omega⟩
  have hvl : vs.length ≤ 100 := by
    have : vs.length = ns.length := by
      clear h167 hl
      induction hi with
      | nil => rfl
      | cons n t _ ih => simp [ih]
    omega
  have g24 : h.get? 24 = some (tableObj #[]) := by
    have := KT.Holds.get ZH (obj24 w)
    rwa [Nat.one_mul, Nat.add_zero] at this
  have g38 : h.get? 38 = some (tableObj #[]) := by
    have := KT.Holds.get ZH (obj38 w)
    rwa [Nat.one_mul, Nat.add_zero] at this
  have g108 : h.get? 108 = some (tableObj #[]) := by
    have := KT.Holds.get ZH (obj108 w)
    rwa [Nat.one_mul, Nat.add_zero] at this
  refine (law_c w os vs fun fr cp cw cb cc cf k0 => law_body w os fr cp cw cb cc cf k0 vs (Mine.IntsAre.allI hi) hvl) callerA Q h dr tk ⟨by decide, by decide⟩ rfl ⟨good_of ZH, ?_, ?_, ?_⟩ ?_
  · exact fun j k hj hk e => inj4 j hj k hk e
  · intro j p hp
    match j, hp with
    | 0, hp => cases hp; exact h167
    | 1, hp => cases hp; exact g108
    | 2, hp => cases hp; exact g38
    | 3, hp => cases hp; exact g24
    | j + 4, hp => simp at hp
  · intro a o e p hp
    have e2 := e
    unfold KKw at e
    simp only [List.mem_cons, List.not_mem_nil, or_false] at hp
    rcases hp with rfl | rfl | rfl | rfl
    · rintro rfl
      have h1 : memB 167 [24, 38, 108] = false := rfl
      rw [h1] at e
      rw [obj167] at e
      cases e
    · rintro rfl
      have h1 : memB 108 [24, 38, 108] = true := rfl
      rw [h1] at e
      cases e
    · rintro rfl
      have h1 : memB 38 [24, 38, 108] = true := rfl
      rw [h1] at e
      cases e
    · rintro rfl
      have h1 : memB 24 [24, 38, 108] = true := rfl
      rw [h1] at e
      cases e
  · intro x h' dr' tk' hA
    refine hQ h' dr' (tk' + 1) ⟨fun b o e => ?_, fun b o e => ?_⟩
    · by_cases b1 : b = 24
      · subst b1
        rw [g24] at e; cases e
        exact .inr (.inl ⟨codeTab_is ZH (tab24 w), rfl, grow (hA.upd 3 24 _ rfl rfl)⟩)
      by_cases b2 : b = 38
      · subst b2
        rw [g38] at e; cases e
        exact .inr (.inl ⟨codeTab_is ZH (tab38 w), rfl, grow (hA.upd 2 38 _ rfl rfl)⟩)
      by_cases b3 : b = 108
      · subst b3
        rw [g108] at e; cases e
        exact .inr (.inl ⟨codeTab_is ZH (tab108 w), rfl, grow (hA.upd 1 108 _ rfl rfl)⟩)
      by_cases b4 : b = 167
      · subst b4
        rw [h167] at e; cases e
        exact .inl (hA.upd 0 167 _ rfl rfl)
      refine .inl ((hA.frame b (Heap.lt_size e) ?_).trans e)
      intro p hp
      simp only [List.mem_cons, List.not_mem_nil, or_false] at hp
      rcases hp with rfl | rfl | rfl | rfl
      · exact fun e => b4 e.symm
      · exact fun e => b3 e.symm
      · exact fun e => b2 e.symm
      · exact fun e => b1 e.symm
    · by_cases b1 : b = 24
      · subst b1; exact ⟨_, hA.upd 3 24 _ rfl rfl⟩
      by_cases b2 : b = 38
      · subst b2; exact ⟨_, hA.upd 2 38 _ rfl rfl⟩
      by_cases b3 : b = 108
      · subst b3; exact ⟨_, hA.upd 1 108 _ rfl rfl⟩
      by_cases b4 : b = 167
      · subst b4; exact ⟨_, hA.upd 0 167 _ rfl rfl⟩
      refine ⟨o, (hA.frame b (Heap.lt_size e) ?_).trans e⟩
      intro p hp
      simp only [List.mem_cons, List.not_mem_nil, or_false] at hp
      rcases hp with rfl | rfl | rfl | rfl
      · exact fun e => b4 e.symm
      · exact fun e => b3 e.symm
      · exact fun e => b2 e.symm
      · exact fun e => b1 e.symm
end Mine
end
open PySem PySem.Spec PySem.Calls PySem.W PySem.W.X PySem.W.ZRun PyProof.Rows
set_option maxRecDepth 100000 in
set_option maxHeartbeats 0 in
theorem PySem.Challenge.cw_sh0045_01_holds : PySem.Challenge.rw_sh0045_01.Holds := by
  refine Mine.hd ?_
  k_fill
  intro w s₀ s₁ mg mb G y fa o pm cd doc dV kV ho hd hcd hD hmg hg args vals as L hpre hlay hrd hwl hlo
  z_open y L KX ZH ZN ZT
  refine Ground.open G ?_
  intro T B D TE TW
  wrow_args hpre hlay hrd hwl hlo
  obtain ⟨hat, hsz⟩ := script_at L
  have htk := script_toks L ZT
  rw [ZN] at hat hsz
  subst hat
  x_fa T KX hmg
  all_lens
  z_lists L
  rename_i hint hlen hlist hsize
  show wpAny (model PySem.Challenge.pw_sh0045_01 w) callerA (PySem.call (Value.ref 166) [Value.ref 167]) _ _ s₁
  refine wpAny_call (Mine.walk w _ _ s₁ _ hint (by omega) ZH hlist hg (Nat.lt_of_lt_of_le (show 0 < 447 from by decide) htk) fun h' dr' tk' ho => ?_)
  exact ⟨.inl ⟨_, _, [], rfl, fun _ => rfl, ReadsW.bool true, by with_unfolding_all rfl, fun _ => ⟨List.nodup_nil, fun _ hm => (nomatch hm)⟩⟩, ho, rfl, AllBare.empty⟩
