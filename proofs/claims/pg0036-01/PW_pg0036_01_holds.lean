import PyProof.Rows.All
import Wide.All
import OpenK.AllK
import Wide.FinOn
import PySem.Challenge.RW_pg0036_01
open PySem PySem.Calls PySem.W PySem.W.X PyProof.Rows
set_option Elab.async false
set_option maxRecDepth 100000

namespace Mine

/-- the i-th statement of the top -/
def topStmt (i : Nat) : Stmt := (PySem.Challenge.pw_pg0036_01.main.body[i]?).getD (.Pass ⟨0, 0, 0, 0⟩)
def defName : Stmt → Str
  | .FunctionDef n _ _ _ _ _ _ _ _ _ => n
  | _ => ""
def defArgs : Stmt → Arguments
  | .FunctionDef _ a _ _ _ _ _ _ _ _ => a
  | _ => ⟨[], [], none, [], [], none, []⟩
def defBody : Stmt → List Stmt
  | .FunctionDef _ _ b _ _ _ _ _ _ _ => b
  | _ => []
def defScope : Stmt → Scope
  | .FunctionDef _ _ _ _ _ _ sc _ _ _ => sc
  | _ => default
def forTarget : Stmt → PySem.Expr
  | .For t _ _ _ _ => t
  | _ => default
def forIter : Stmt → PySem.Expr
  | .For _ i _ _ _ => i
  | _ => default
def forBody : Stmt → List Stmt
  | .For _ _ b _ _ => b
  | _ => []
def stmtPos : Stmt → Pos
  | .For _ _ _ _ p => p
  | _ => default
def nth (l : List Stmt) (i : Nat) : Stmt := (l[i]?).getD (.Pass ⟨0, 0, 0, 0⟩)

def giBody : List Stmt := defBody (topStmt 2)
def giScope : Scope := defScope (topStmt 2)
def giFor : Stmt := nth giBody 1
def giEnv (L : Addr) : Env := envOf "_grouping_intervals" giScope L 21 (.ref 20)

section
variable {prog : Program} {w : World} {A : Around} {c : Code} {fs : List Frame} {P : End → Shared → Prop} {s : Shared} {α β : Type}

theorem sx_wrap {m : Sem α} {K : α → Sem Fin} {H : Value → Sem Fin} {gd : Bool → Bool} {lv : List Value → List Value}
    (h : wpAny (model prog w) (A.over c fs) m (fun a s' => SegX (model prog w) A c (K a) fs s' P) (fun x s' => SegX (model prog w) A c (H x) fs s' P) s) :
    SegX (model prog w) A c (m.wrap K H gd lv) fs s P := by
  rintro Γ p rfl hΓ
  obtain ⟨e, s', hr, hq⟩ := runs_wrap_of_wp (Φ := fun e s' => e.quiet = true ∧ P e s') K H gd lv m (h (Γ.over fs) p (hΓ.over fs)) (fun a p' s' h' => h' Γ p' rfl hΓ) (fun x p' s' h' => h' Γ p' rfl hΓ)
  exact ⟨e, s', hr, hq⟩

theorem focus_l (m : Sem α) (g : α → Sem β) (H : Value → Sem Unit) :
    (m >>= g).onRaise H = m.wrap (fun a => (g a).onRaise H) (fun e => (H e).bind fun _ => .raise e) id id := by
  rw [Sem.onRaise_eq_wrap, Sem.bind_eq_wrap', Sem.wrap_wrap]
  exact Sem.wrap_congr m _ _ (fun a => (Sem.onRaise_eq_wrap _ _).symm) (fun e => rfl)

theorem focus_f (m : Sem α) (g : α → Sem β) (H : Value → Sem Unit) (k : β → Sem Fin) :
    ((m >>= g).onRaise H) >>= k = m.wrap (fun a => ((g a).onRaise H) >>= k) (fun e => (H e).bind fun _ => .raise e) id id := by
  rw [focus_l, Sem.bind_eq_wrap', Sem.wrap_wrap]
  refine Sem.wrap_congr m _ _ (fun a => (Sem.bind_eq_wrap' _ _).symm) (fun e => ?_)
  rw [← Sem.bind_eq_wrap, Sem.bind_assoc]; rfl

theorem sx_l {m : Sem α} {g : α → Sem Fin} {H : Value → Sem Unit}
    (h : wpAny (model prog w) (A.over c fs) m (fun a s' => SegX (model prog w) A c ((g a).onRaise H) fs s' P) (fun x s' => SegX (model prog w) A c ((H x).bind fun _ => .raise x) fs s' P) s) :
    SegX (model prog w) A c ((m >>= g).onRaise H) fs s P := by
  rw [focus_l]; exact sx_wrap h

theorem sx_f {m : Sem α} {g : α → Sem β} {H : Value → Sem Unit} {k : β → Sem Fin}
    (h : wpAny (model prog w) (A.over c fs) m (fun a s' => SegX (model prog w) A c (((g a).onRaise H) >>= k) fs s' P) (fun x s' => SegX (model prog w) A c ((H x).bind fun _ => .raise x) fs s' P) s) :
    SegX (model prog w) A c (((m >>= g).onRaise H) >>= k) fs s P := by
  rw [focus_f]; exact sx_wrap h

theorem sx_b {m : Sem α} {k : α → Sem Fin}
    (h : wpAny (model prog w) (A.over c fs) m (fun a s' => SegX (model prog w) A c (k a) fs s' P) (fun x s' => SegX (model prog w) A c (.raise x) fs s' P) s) :
    SegX (model prog w) A c (m >>= k) fs s P := by
  rw [Sem.bind_eq_wrap']; exact sx_wrap h
end

/-- what stands behind a call in a tree -/
def behind : Sem Flow → Result → Sem Flow
  | .call _ _ _ _ k => k
  | t => fun _ => t
/-- how an activation of its own hands its result on -/
def ownBack (env : Env) : Result → Sem Flow := behind (runOwn (.block [] env) env)
def loopNote (env : Env) (x : Value) : Sem Unit := do noteFrame x env; theTreesLotGoes x

def forCode (L I : Addr) : Code := .forLoop (forTarget giFor) (.ref I) (forBody giFor) [] (giEnv L)
def flowBack (r : Result) : Sem Flow := match r with | .ok f => .pure f | .error e => .raise e
def afterFor (env : Env) (f : Flow) : Sem Flow := match f with | .next => execs [] env | f => pure f
def funcEnd (f : Flow) : Sem Fin := match f with | .ret v => ret v | _ => ret .none
def kFor (L : Addr) (r : Result) : Sem Fin := ((((ownBack (giEnv L) r) >>= afterFor (giEnv L)).onRaise (leaving (giEnv L))) >>= funcEnd)
def forFrame (L : Addr) (p : Pos) : Frame := .ret (kFor L) none false [] (.func giBody (giEnv L)) p []

theorem den_func (L : Addr) : denote table (.func giBody (giEnv L)) = (point >>= fun _ => ((execs giBody (giEnv L)).onRaise (leaving (giEnv L))) >>= funcEnd) := rfl
theorem den_for (L I : Addr) : denote table (forCode L I) = (forTurn (forTarget giFor) (.ref I) (forBody giFor) [] (giEnv L)).onRaise (loopNote (giEnv L)) := rfl

theorem get?_size (h : Heap) : h.get? h.objs.size = none := by
  cases e : h.get? h.objs.size with
  | none => rfl
  | some o => exact absurd (Heap.lt_size e) (Nat.lt_irrefl _)

/-- all but the named addresses stands -/
def KB (X : List Addr) (h h' : Heap) : Prop := ∀ b o, b ∉ X → h.get? b = some o → h'.get? b = some o
theorem KB.refl (X : List Addr) (h : Heap) : KB X h h := fun _ _ _ e => e
theorem KB.trans {X : List Addr} {h₁ h₂ h₃ : Heap} (a : KB X h₁ h₂) (b : KB X h₂ h₃) : KB X h₁ h₃ := fun x o hx e => b x o hx (a x o hx e)
theorem KB.mono {X Y : List Addr} {h h' : Heap} (a : KB X h h') (hs : ∀ x ∈ X, x ∈ Y) : KB Y h h' := fun b o hb e => a b o (fun hx => hb (hs b hx)) e
theorem KB.of_same {a : Addr} {h h' : Heap} (x : Heap.SameBut a h h') : KB [a] h h' := fun b o hb e => (x.2 b (fun q => hb (by simp [q]))).trans e
theorem KB.push (X : List Addr) (h : Heap) (o : Obj) : KB X h (h.push o) := fun _ _ _ e => Heap.get?_push_of_some _ e

section
variable {prog : Program} {w : World} {A : Around} {P : End → Shared → Prop} {s : Shared}

theorem gi_start {L row : Addr} {m : Str → Option Value} {items : Array Value} (hn : s.heap.Ns L m) (hg : m "grouping" = some (.ref row)) (hl : s.heap.IsList row items) (hLr : row ≠ L)
    (h : ∀ h' tk I p, KB [L] s.heap h' → h'.Ns L (fun x => if x = "last_interval" then some .none else m x) → h'.IsListIter I row 0 → s.heap.get? I = none → I ≠ L →
      SegX (model prog w) A (forCode L I) (denote table (forCode L I)) [forFrame L p] { s with heap := h', toks := tk } P) :
    SegX (model prog w) A (.func giBody (giEnv L)) (denote table (.func giBody (giEnv L))) [] s P := by
  rw [den_func]
  refine sx_b (wpAny_point ?_)
  rw [show execs giBody (giEnv L) = (exec (nth giBody 0) (giEnv L) >>= fun f => match f with | .next => execs [giFor] (giEnv L) | f => pure f) from rfl]
  refine sx_f ?_
  show wpAny _ _ (exec (.Assign [.Name _ _] (.Constant .none _ _) _) _) _ _ _
  refine wpAny_Assign_Name (wpAny_Constant_none (wpAny_storeName_local rfl hn fun h' hn' hs' => ?_))
  have e : execs [giFor] (giEnv L) = (standAt (stmtPos giFor) >>= fun _ => eval (forIter giFor) (giEnv L) >>= fun x0 => foldedSetIterable (forIter giFor) (giEnv L) x0 >>= fun x =>
      standAt (forIter giFor).pos >>= fun _ => holding [x] (pyIter x) >>= fun it => (runOwn (.forLoop (forTarget giFor) it (forBody giFor) [] (giEnv L)) (giEnv L)) >>= afterFor (giEnv L)) := by
    rw [show execs [giFor] (giEnv L) = (exec giFor (giEnv L) >>= afterFor (giEnv L)) from rfl]
    rw [show exec giFor (giEnv L) = exec (.For (forTarget giFor) (forIter giFor) (forBody giFor) [] (stmtPos giFor)) (giEnv L) from rfl, exec_For]
    simp only [bind_assoc]
  show SegX _ _ _ (((execs [giFor] (giEnv L)).onRaise (leaving (giEnv L))) >>= funcEnd) _ _ _
  rw [e]
  refine sx_f (wpAny_standAt (sx_f ?_))
  show wpAny _ _ (eval (.Name "grouping" _) _) _ _ _
  refine wpAny_Name (wpAny_loadName_local rfl rfl hn' (v := .ref row) ((if_neg (by decide)).trans hg) (sx_f ?_))
  refine wpAny_of_eq (a := .ref row) rfl (sx_f (wpAny_standAt (sx_f (wpAny_holding ?_))))
  have hl' : h'.IsList row items := hl.extBut hs'.extBut hLr
  refine wpAny_pyIter_list hl' ?_
  show SegX _ _ _ (.call (forCode L h'.objs.size) none false [] (kFor L)) _ _ _
  refine s_call _ _ _ _ _ _ _ _ _ _ _ _ fun p => ?_
  have hsz : h'.objs.size = s.heap.objs.size := hs'.1
  refine h _ _ _ p ?_ (hn'.push _) ⟨_, Heap.get?_push_size _ rfl, rfl, rfl⟩ ?_ ?_
  · exact ((KB.of_same hs').trans (KB.push _ _ _))
  · rw [hsz]; exact get?_size _
  · exact Nat.ne_of_gt hn'.lt
end

/-- the text's defs: the statement's number, the function's address, its code's -/
def fnTab : List (Nat × Addr × Addr) := [(2, 21, 20), (4, 28, 27), (5, 35, 34), (6, 42, 41), (7, 49, 48), (8, 56, 55), (9, 63, 62), (11, 70, 69), (12, 77, 76), (13, 84, 83)]
def lowA : List Addr := [0, 2, 3, 20, 21, 27, 28, 34, 35, 41, 42, 48, 49, 55, 56, 62, 63, 69, 70, 76, 77, 83, 84]
structure Fn (mg : Str → Option Value) (h : Heap) (i : Nat) (f c : Addr) : Prop where
  name : mg (defName (topStmt i)) = some (.ref f)
  obj : ∃ o pm doc, h.get? f = some o ∧ o.data = .func (docDef (defName (topStmt i)) (defArgs (topStmt i)) (defBody (topStmt i)) (defScope (topStmt i)) pm (.ref c) doc)
  code : h.CodeRec (.ref c) (defName (topStmt i))
def builtinNames : List Str := ["ValueError", "range", "list", "len", "max", "next", "isinstance", "bool", "enumerate", "str"]

/-- what the law's text finds at the top -/
structure Base (mg mb : Str → Option Value) (h : Heap) : Prop where
  g : h.Ns mainGlobals mg
  b : h.Ns builtinsNs mb
  builtins : ∀ x : Str, x ≠ "__name__" → mb x = bootBuiltins x
  nolimit : h.NoLimit
  charMax : ∃ t, mg "CHAR_MAX" = some (.int 127 t)
  free : ∀ x : Str, x ∈ builtinNames → mg x = none
  fns : ∀ p ∈ fnTab, Fn mg h p.1 p.2.1 p.2.2
  alive : ∀ b ∈ lowA, ∃ o, h.get? b = some o

theorem Base.at {mg mb : Str → Option Value} {h h' : Heap} (B : Base mg mb h) (k : ∀ b ∈ lowA, ∀ o, h.get? b = some o → h'.get? b = some o) : Base mg mb h' where
  g := B.g.at' fun o e => k _ (by decide) o e
  b := B.b.at' fun o e => k _ (by decide) o e
  builtins := B.builtins
  nolimit := let ⟨mc, a, b⟩ := B.nolimit; ⟨mc, a.at' fun o e => k _ (by decide) o e, b⟩
  charMax := B.charMax
  free := B.free
  fns := fun p hp => by
    have h1 : p.2.1 ∈ lowA := (by decide : ∀ p ∈ fnTab, p.2.1 ∈ lowA) p hp
    have h2 : p.2.2 ∈ lowA := (by decide : ∀ p ∈ fnTab, p.2.2 ∈ lowA) p hp
    obtain ⟨n, ⟨o, pm, doc, ho, hd⟩, hc⟩ := B.fns p hp
    exact ⟨n, ⟨o, pm, doc, k _ h1 o ho, hd⟩, hc.at fun o e => k _ h2 o e⟩
  alive := fun b hb => let ⟨o, ho⟩ := B.alive b hb; ⟨o, k b hb o ho⟩
theorem Base.keeps {mg mb : Str → Option Value} {h h' : Heap} (B : Base mg mb h) (k : ∀ b o, h.get? b = some o → h'.get? b = some o) : Base mg mb h' := B.at fun b _ o e => k b o e

section
variable {M : Model} {A : Around} {E : Value → Shared → Prop} {s : Shared} {env : Env} {mg mb : Str → Option Value} {Q : Value → Shared → Prop}
theorem ldG {x : Str} {pos : Pos} {v : Value} (hg : s.heap.Ns mainGlobals mg) (hv : mg x = some v) (h : Q v s)
    (hk : env.scope.kind = .function := by rfl) (hx : env.kindOf x = some .globalImplicit := by rfl) (he : env.globals = mainGlobals := by rfl)
    (hd : (x == ("__debug__" : Str)) = false := by decide) : wpAny M A (eval (.Name x pos) env) Q E s :=
  Name_function_global hk hx (loadGlobal_global (he ▸ hg) hv h) hd
theorem ldB {x : Str} {pos : Pos} {v : Value} (B : Base mg mb s.heap) (hv : bootBuiltins x = some v) (h : Q v s)
    (hf : x ∈ builtinNames := by decide) (hn : x ≠ "__name__" := by decide)
    (hk : env.scope.kind = .function := by rfl) (hx : env.kindOf x = some .globalImplicit := by rfl) (he : env.globals = mainGlobals := by rfl) (hb : env.builtins = builtinsNs := by rfl)
    (hd : (x == ("__debug__" : Str)) = false := by decide) : wpAny M A (eval (.Name x pos) env) Q E s :=
  Name_function_global hk hx (loadGlobal_builtin (he ▸ B.g) (B.free x hf) (hb ▸ B.b) ((B.builtins x hn).trans hv) h) hd
theorem ldL {x : Str} {pos : Pos} {m : Str → Option Value} {v : Value} (hn : s.heap.Ns env.locals m) (hv : m x = some v) (h : Q v s)
    (hk : env.scope.kind = .function := by rfl) (hl : env.kindOf x = some .local := by rfl) (hd : (x == ("__debug__" : Str)) = false := by decide) :
    wpAny M A (eval (.Name x pos) env) Q E s := wpAny_Name (wpAny_loadName_local hk hl hn hv h) hd
end

def forRest (L I : Addr) (f : Flow) : Sem Fin := match f with
  | .next | .cont => again (forCode L I)
  | .brk => pure (.done .next)
  | .ret v => pure (.done (.ret v))

section
variable {prog : Program} {w : World} {A : Around} {P : End → Shared → Prop} {s : Shared} {mg mb : Str → Option Value}

theorem over_handled {A : Around} {c : Code} {L : Addr} {p : Pos} (hh : A.handled = none) : (A.over c [forFrame L p]).handled = none := by
  show (marksOver [forFrame L p] (A.handled, A.handled)).1 = none
  rw [hh]; rfl

/-- the turn: an item of the row -/
theorem gi_item {L I row : Addr} {p : Pos} {i : Nat} {m : Str → Option Value} {items : Array Value} {x : Value} (hn : s.heap.Ns L m) (hi : s.heap.IsListIter I row i) (hl : s.heap.IsList row items) (hx : items[i]? = some x) (hIL : I ≠ L)
    (h : ∀ h' tk, KB [L, I] s.heap h' → h'.Ns L (fun y => if y = "interval" then some x else m y) → h'.IsListIter I row (i + 1) →
      SegX (model prog w) A (forCode L I) ((execs (forBody giFor) (giEnv L) >>= forRest L I).onRaise (loopNote (giEnv L))) [forFrame L p] { s with heap := h', toks := tk } P) :
    SegX (model prog w) A (forCode L I) (denote table (forCode L I)) [forFrame L p] s P := by
  rw [den_for]
  unfold forTurn
  refine sx_l (wpAny_standAt (sx_l (wpAny_onRaise (wpAny_pyNext_list_item hi hl hx fun h₁ hi₁ hs₁ => ?_))))
  show SegX _ _ _ ((letOwnedTupleGo _ _ _ >>= fun _ => assign (forTarget giFor) _ x >>= fun _ => _).onRaise _) _ _ _
  refine sx_l (wpAny_of_eq (a := ()) rfl (sx_l ?_))
  have hn₁ : h₁.Ns L m := hn.sameBut hs₁ (Ne.symm hIL)
  show wpAny _ _ (assign (.Name "interval" _) _ x) _ _ _
  refine wpAny_assign_Name (wpAny_storeName_local rfl hn₁ fun h' hn' hs' => ?_)
  refine h h' _ ?_ hn' (hi₁.extBut hs'.extBut hIL)
  exact ((KB.of_same hs₁).mono (by simp)).trans ((KB.of_same hs').mono (by simp [giEnv, envOf]))

theorem gi_stop_leaf {L I : Addr} {p : Pos} {r : Result} (hr : r = .ok (.ret .none) ∨ r = .ok .next) (h : P (.ret (.ok (.ret .none))) s) (c : Code) : SegX (model prog w) A c (leafOf r) [forFrame L p] s P := by
  refine s_pop _ _ _ _ _ _ s r _ rfl _ _ _ _ _ _ _ ?_
  rcases hr with rfl | rfl
  · exact s_end _ _ _ _ _ s (.ok (.ret .none)) _ rfl h
  · exact s_end _ _ _ _ _ s (.ok (.ret .none)) _ rfl h

/-- the row's end -/
theorem gi_none {L I row : Addr} {p : Pos} {i : Nat} {items : Array Value} (hh : A.handled = none) (hi : s.heap.IsListIter I row i) (hl : s.heap.IsList row items) (hx : items[i]? = none)
    (h : ∀ h', KB [I] s.heap h' → P (.ret (.ok (.ret .none))) { s with heap := h' }) :
    SegX (model prog w) A (forCode L I) (denote table (forCode L I)) [forFrame L p] s P := by
  rw [den_for]
  unfold forTurn
  refine sx_l (wpAny_standAt (sx_l (wpAny_onRaise (wpAny_pyNext_list_end (over_handled hh) hi hl hx fun h₁ hs₁ => ?_))))
  show SegX _ _ _ (.pure (.again (.block [] (giEnv L)))) _ _ _
  refine s_again _ _ _ _ _ _ _ _ rfl ?_
  exact gi_stop_leaf (I := I) (.inr rfl) (h _ fun b o hb e => hs₁ b o (by simpa using hb) e) _

theorem test_max {A : Around} {E : Value → Shared → Prop} {s : Shared} {L : Addr} {m : Str → Option Value} {e : Int} {t : Tok} {Q : Flow → Shared → Prop} (B : Base mg mb s.heap) (hn : s.heap.Ns L m) (hv : m "interval" = some (.int e t))
    (h1 : e = 127 → Q (.ret .none) s) (h2 : e ≠ 127 → Q .next s) : wpAny (model prog w) A (exec (nth (forBody giFor) 0) (giEnv L)) Q E s := by
  obtain ⟨tc, hc⟩ := B.charMax
  show wpAny _ _ (exec (.If (.Compare (.Name "interval" _) [.Eq] [.Name "CHAR_MAX" _] _) [.Return none _] [] _) _) _ _ _
  refine wpAny_If (wpAny_isTrue_Compare1 (ldL (env := giEnv L) hn hv (ldG B.g hc (PyProof.Rows.eq_int (wpAny_truthy_bool ?_)))))
  by_cases he : e = 127
  · rw [if_pos (by simp [he])]
    exact wpAny_execs_cons (wpAny_Return_none (h1 he))
  · rw [if_neg (by simp [he])]
    exact wpAny_execs_nil (h2 he)

theorem gi_127 {L I : Addr} {p : Pos} {m : Str → Option Value} {t : Tok} (B : Base mg mb s.heap) (hn : s.heap.Ns L m) (hv : m "interval" = some (.int 127 t)) (h : P (.ret (.ok (.ret .none))) s) :
    SegX (model prog w) A (forCode L I) ((execs (forBody giFor) (giEnv L) >>= forRest L I).onRaise (loopNote (giEnv L))) [forFrame L p] s P := by
  refine sx_l ?_
  rw [show forBody giFor = nth (forBody giFor) 0 :: (forBody giFor).tail from rfl]
  refine wpAny_execs_cons (test_max B hn hv (fun _ => ?_) (fun q => absurd rfl q))
  exact gi_stop_leaf (I := I) (.inl rfl) h _

/-- any other size -/
theorem test_zero {A : Around} {E : Value → Shared → Prop} {s : Shared} {L : Addr} {m : Str → Option Value} {e : Int} {t : Tok} {Q : Flow → Shared → Prop} (hn : s.heap.Ns L m) (hv : m "interval" = some (.int e t))
    (h2 : e ≠ 0) (h : Q .next { s with toks := s.toks + 1 }) : wpAny (model prog w) A (exec (nth (forBody giFor) 1) (giEnv L)) Q E s := by
  show wpAny _ _ (exec (.If (.Compare (.Name "interval" _) [.Eq] [.Constant (.int 0) _ _] _) _ [] _) _) _ _ _
  refine wpAny_If (wpAny_isTrue_Compare1 (ldL (env := giEnv L) hn hv (wpAny_Constant_int (PyProof.Rows.eq_int (wpAny_truthy_bool ?_)))))
  rw [if_neg (by simp [h2])]
  exact wpAny_execs_nil h

def yieldBack (r : Resume) : Sem Value := match r with | .send x => pure x | .throw e => raiseThrown e
def exprOf : Stmt → PySem.Expr
  | .Expr v _ => v
  | _ => default
def exprPos : Stmt → Pos
  | .Expr _ p => p
  | _ => default
def y2 : Stmt := nth (forBody giFor) 2
def thenRest (env : Env) (rest : List Stmt) (f : Flow) : Sem Flow := match f with | .next => execs rest env | f => pure f
def kItem (L I : Addr) (r : Resume) : Sem Fin :=
  (yieldBack r >>= fun v => dropValue (exprOf y2) (exprPos y2) v >>= fun f => thenRest (giEnv L) [nth (forBody giFor) 3] f >>= forRest L I).onRaise (loopNote (giEnv L))

def yVal : PySem.Expr → PySem.Expr
  | .Yield (some e) _ => e
  | _ => default
def yPos : PySem.Expr → Pos
  | .Yield _ p => p
  | _ => default
theorem exec_y2 (L : Addr) : exec y2 (giEnv L) = (standAt (exprPos y2) >>= fun _ => eval (yVal (exprOf y2)) (giEnv L) >>= fun v => standAt (yPos (exprOf y2)) >>= fun _ =>
    suspend v >>= fun r => yieldBack r >>= fun v => dropValue (exprOf y2) (exprPos y2) v) := by
  rw [show exec y2 (giEnv L) = exec (.Expr (exprOf y2) (exprPos y2)) (giEnv L) from rfl, exec_Expr _ _ _ rfl rfl]
  rw [show eval (exprOf y2) (giEnv L) = (eval (yVal (exprOf y2)) (giEnv L) >>= fun v => standAt (yPos (exprOf y2)) >>= fun _ => suspend v >>= yieldBack) from rfl]
  simp only [bind_assoc]

theorem gi_yield {L I : Addr} {p : Pos} {m : Str → Option Value} {e : Int} {t : Tok} (B : Base mg mb s.heap) (hn : s.heap.Ns L m) (hv : m "interval" = some (.int e t)) (h1 : e ≠ 127) (h2 : e ≠ 0)
    (h : ∀ p', P (.susp (.int e t) false [] (kItem L I) (forCode L I) p' [forFrame L p]) { s with toks := s.toks + 1 }) :
    SegX (model prog w) A (forCode L I) ((execs (forBody giFor) (giEnv L) >>= forRest L I).onRaise (loopNote (giEnv L))) [forFrame L p] s P := by
  have e0 : execs (forBody giFor) (giEnv L) >>= forRest L I = (exec (nth (forBody giFor) 0) (giEnv L) >>= fun f => thenRest (giEnv L) (forBody giFor).tail f >>= forRest L I) := by
    rw [show execs (forBody giFor) (giEnv L) = (exec (nth (forBody giFor) 0) (giEnv L) >>= thenRest (giEnv L) (forBody giFor).tail) from rfl, bind_assoc]
  rw [e0]
  refine sx_l (test_max B hn hv (fun q => absurd q h1) fun _ => ?_)
  have e1 : thenRest (giEnv L) (forBody giFor).tail .next >>= forRest L I = (exec (nth (forBody giFor) 1) (giEnv L) >>= fun f => thenRest (giEnv L) (forBody giFor).tail.tail f >>= forRest L I) := by
    rw [show thenRest (giEnv L) (forBody giFor).tail .next = (exec (nth (forBody giFor) 1) (giEnv L) >>= thenRest (giEnv L) (forBody giFor).tail.tail) from rfl, bind_assoc]
  rw [e1]
  refine sx_l (test_zero hn hv h2 ?_)
  have e2 : thenRest (giEnv L) (forBody giFor).tail.tail .next >>= forRest L I = (standAt (exprPos y2) >>= fun _ => eval (yVal (exprOf y2)) (giEnv L) >>= fun v => standAt (yPos (exprOf y2)) >>= fun _ =>
      suspend v >>= fun r => yieldBack r >>= fun v => dropValue (exprOf y2) (exprPos y2) v >>= fun f => thenRest (giEnv L) [nth (forBody giFor) 3] f >>= forRest L I) := by
    rw [show thenRest (giEnv L) (forBody giFor).tail.tail .next = (exec y2 (giEnv L) >>= thenRest (giEnv L) [nth (forBody giFor) 3]) from rfl, exec_y2]
    simp only [bind_assoc]
  rw [e2]
  refine sx_l (wpAny_standAt (sx_l ?_))
  show wpAny _ _ (eval (.Name "interval" _) _) _ _ _
  refine ldL (env := giEnv L) hn hv (sx_l (wpAny_standAt ?_))
  show SegX _ _ _ (.yield (.int e t) false [] (kItem L I)) _ _ _
  exact s_yield _ _ _ _ _ _ _ _ _ _ rfl rfl h

/-- woken behind a size -/
theorem gi_wake {L I : Addr} {p : Pos} {m : Str → Option Value} {x : Value} (hn : s.heap.Ns L m) (hv : m "interval" = some x)
    (h : ∀ h' tk, KB [L] s.heap h' → h'.Ns L (fun y => if y = "last_interval" then some x else m y) →
      SegX (model prog w) A (forCode L I) (denote table (forCode L I)) [forFrame L p] { s with heap := h', toks := tk } P) :
    SegX (model prog w) A (forCode L I) (kItem L I (.send .none)) [forFrame L p] s P := by
  have e0 : kItem L I (.send .none) = (exec (nth (forBody giFor) 3) (giEnv L) >>= fun f => thenRest (giEnv L) [] f >>= forRest L I).onRaise (loopNote (giEnv L)) := by
    have : thenRest (giEnv L) [nth (forBody giFor) 3] .next >>= forRest L I = (exec (nth (forBody giFor) 3) (giEnv L) >>= fun f => thenRest (giEnv L) [] f >>= forRest L I) := by
      rw [show thenRest (giEnv L) [nth (forBody giFor) 3] .next = (exec (nth (forBody giFor) 3) (giEnv L) >>= thenRest (giEnv L) []) from rfl, bind_assoc]
    rw [← this]; rfl
  rw [e0]
  refine sx_l ?_
  show wpAny _ _ (exec (.Assign [.Name "last_interval" _] (.Name "interval" _) _) _) _ _ _
  refine wpAny_Assign_Name (ldL (env := giEnv L) hn hv (wpAny_storeName_local rfl hn fun h' hn' hs' => ?_))
  show SegX _ _ _ (.pure (.again (forCode L I))) _ _ _
  exact s_again _ _ _ _ _ _ _ _ rfl (h _ _ (KB.of_same hs') hn')
end

def ifBody : Stmt → List Stmt
  | .If _ b _ _ => b
  | _ => []
def ifTest : Stmt → PySem.Expr
  | .If t _ _ _ => t
  | _ => default
def whileBody : Stmt → List Stmt
  | .While _ b _ _ => b
  | _ => []
def whileTest : Stmt → PySem.Expr
  | .While t _ _ _ => t
  | _ => default
def sPos : Stmt → Pos
  | .If _ _ _ p => p
  | .While _ _ _ p => p
  | _ => default
def zIf : Stmt := nth (forBody giFor) 1
def zNone : Stmt := nth (ifBody zIf) 0
def zWhile : Stmt := nth (ifBody zIf) 1
def yw : Stmt := nth (whileBody zWhile) 0
def whileCode (L : Addr) : Code := .whileLoop (whileTest zWhile) (whileBody zWhile) [] (giEnv L)
def whileRest (L : Addr) (f : Flow) : Sem Fin := match f with
  | .next | .cont => again (whileCode L)
  | .brk => pure (.done .next)
  | .ret v => pure (.done (.ret v))
def kWhile (L I : Addr) (r : Result) : Sem Fin :=
  (ownBack (giEnv L) r >>= fun f => thenRest (giEnv L) [] f >>= fun f => thenRest (giEnv L) (forBody giFor).tail.tail f >>= forRest L I).onRaise (loopNote (giEnv L))
def whileFrame (L I : Addr) (p : Pos) : Frame := .ret (kWhile L I) none false [] (forCode L I) p []
def kRep (L : Addr) (r : Resume) : Sem Fin :=
  (yieldBack r >>= fun v => dropValue (exprOf yw) (exprPos yw) v >>= fun f => thenRest (giEnv L) [] f >>= whileRest L).onRaise (loopNote (giEnv L))
theorem den_while (L : Addr) : denote table (whileCode L) = (whileTurn (whileTest zWhile) (whileBody zWhile) [] (giEnv L)).onRaise (loopNote (giEnv L)) := rfl
theorem exec_yw (L : Addr) : exec yw (giEnv L) = (standAt (exprPos yw) >>= fun _ => eval (yVal (exprOf yw)) (giEnv L) >>= fun v => standAt (yPos (exprOf yw)) >>= fun _ =>
    suspend v >>= fun r => yieldBack r >>= fun v => dropValue (exprOf yw) (exprPos yw) v) := by
  rw [show exec yw (giEnv L) = exec (.Expr (exprOf yw) (exprPos yw)) (giEnv L) from rfl, exec_Expr _ _ _ rfl rfl]
  rw [show eval (exprOf yw) (giEnv L) = (eval (yVal (exprOf yw)) (giEnv L) >>= fun v => standAt (yPos (exprOf yw)) >>= fun _ => suspend v >>= yieldBack) from rfl]
  simp only [bind_assoc]

section
variable {prog : Program} {w : World} {A : Around} {P : End → Shared → Prop} {s : Shared} {mg mb : Str → Option Value}

/-- a turn of the endless loop -/
theorem gi_rep {L I : Addr} {p p₁ : Pos} {m : Str → Option Value} {x : Value} (hn : s.heap.Ns L m) (hv : m "last_interval" = some x)
    (h : ∀ p', P (.susp x false [] (kRep L) (whileCode L) p' [whileFrame L I p₁, forFrame L p]) s) :
    SegX (model prog w) A (whileCode L) (denote table (whileCode L)) [whileFrame L I p₁, forFrame L p] s P := by
  rw [den_while]
  unfold whileTurn
  refine sx_l ?_
  show wpAny _ _ (isTrue (.Constant (.bool true) _ _) _ (eval (.Constant (.bool true) _ _) _)) _ _ _
  refine wpAny_isTrue_value (wpAny_Constant_bool (wpAny_truthy_bool ?_)) 
  have e2 : (execs (whileBody zWhile) (giEnv L) >>= whileRest L) = (standAt (exprPos yw) >>= fun _ => eval (yVal (exprOf yw)) (giEnv L) >>= fun v => standAt (yPos (exprOf yw)) >>= fun _ =>
      suspend v >>= fun r => yieldBack r >>= fun v => dropValue (exprOf yw) (exprPos yw) v >>= fun f => thenRest (giEnv L) [] f >>= whileRest L) := by
    rw [show execs (whileBody zWhile) (giEnv L) = (exec yw (giEnv L) >>= thenRest (giEnv L) []) from rfl, exec_yw]
    simp only [bind_assoc]
  show SegX _ _ _ ((execs (whileBody zWhile) (giEnv L) >>= whileRest L).onRaise _) _ _ _
  rw [e2]
  refine sx_l (wpAny_standAt (sx_l ?_))
  show wpAny _ _ (eval (.Name "last_interval" _) _) _ _ _
  refine ldL (env := giEnv L) hn hv (sx_l (wpAny_standAt ?_))
  show SegX _ _ _ (.yield x false [] (kRep L)) _ _ _
  exact s_yield _ _ _ _ _ _ _ _ _ _ rfl rfl h

/-- woken in the endless loop -/
theorem gi_wakeRep {L I : Addr} {p p₁ : Pos} {m : Str → Option Value} {x : Value} (hn : s.heap.Ns L m) (hv : m "last_interval" = some x)
    (h : ∀ p', P (.susp x false [] (kRep L) (whileCode L) p' [whileFrame L I p₁, forFrame L p]) s) :
    SegX (model prog w) A (whileCode L) (kRep L (.send .none)) [whileFrame L I p₁, forFrame L p] s P := by
  show SegX _ _ _ (.pure (.again (whileCode L))) _ _ _
  exact s_again _ _ _ _ _ _ _ _ rfl (gi_rep hn hv h)

/-- a nought behind a size -/
theorem gi_zero {L I : Addr} {p : Pos} {m : Str → Option Value} {t : Tok} {e : Int} {u : Tok} (B : Base mg mb s.heap) (hn : s.heap.Ns L m) (hv : m "interval" = some (.int 0 t)) (hl : m "last_interval" = some (.int e u))
    (h : ∀ p' p₁ tk, P (.susp (.int e u) false [] (kRep L) (whileCode L) p' [whileFrame L I p₁, forFrame L p]) { s with toks := tk }) :
    SegX (model prog w) A (forCode L I) ((execs (forBody giFor) (giEnv L) >>= forRest L I).onRaise (loopNote (giEnv L))) [forFrame L p] s P := by
  have e0 : execs (forBody giFor) (giEnv L) >>= forRest L I = (exec (nth (forBody giFor) 0) (giEnv L) >>= fun f => thenRest (giEnv L) (forBody giFor).tail f >>= forRest L I) := by
    rw [show execs (forBody giFor) (giEnv L) = (exec (nth (forBody giFor) 0) (giEnv L) >>= thenRest (giEnv L) (forBody giFor).tail) from rfl, bind_assoc]
  rw [e0]
  refine sx_l (test_max B hn hv (fun q => absurd q (by decide)) fun _ => ?_)
  have e1 : thenRest (giEnv L) (forBody giFor).tail .next >>= forRest L I = (standAt (sPos zIf) >>= fun _ => isTrue (ifTest zIf) (giEnv L) (eval (ifTest zIf) (giEnv L)) >>= fun b =>
      (if b then execs (ifBody zIf) (giEnv L) else execs [] (giEnv L)) >>= fun f => thenRest (giEnv L) (forBody giFor).tail.tail f >>= forRest L I) := by
    rw [show thenRest (giEnv L) (forBody giFor).tail .next = (exec (.If (ifTest zIf) (ifBody zIf) [] (sPos zIf)) (giEnv L) >>= thenRest (giEnv L) (forBody giFor).tail.tail) from rfl, exec_If]
    simp only [bind_assoc]
  rw [e1]
  refine sx_l (wpAny_standAt (sx_l ?_))
  show wpAny _ _ (isTrue (.Compare (.Name "interval" _) [.Eq] [.Constant (.int 0) _ _] _) _ _) _ _ _
  refine wpAny_isTrue_Compare1 (ldL (env := giEnv L) hn hv (wpAny_Constant_int (PyProof.Rows.eq_int (wpAny_truthy_bool ?_))))
  rw [if_pos (by decide)]
  have e2 : (execs (ifBody zIf) (giEnv L) >>= fun f => thenRest (giEnv L) (forBody giFor).tail.tail f >>= forRest L I) = (exec zNone (giEnv L) >>= fun f => thenRest (giEnv L) [zWhile] f >>= fun f => thenRest (giEnv L) (forBody giFor).tail.tail f >>= forRest L I) := by
    rw [show execs (ifBody zIf) (giEnv L) = (exec zNone (giEnv L) >>= thenRest (giEnv L) [zWhile]) from rfl, bind_assoc]
  rw [e2]
  refine sx_l ?_
  show wpAny _ _ (exec (.If (.Compare (.Name "last_interval" _) [.Is] [.Constant .none _ _] _) _ [] _) _) _ _ _
  refine wpAny_If (wpAny_isTrue_Compare1 (ldL (env := giEnv L) hn hl (wpAny_Constant_none (wpAny_is_other rfl (by simp) (wpAny_truthy_bool ?_)))))
  rw [if_neg (by decide)]
  refine wpAny_execs_nil ?_
  have e3 : (thenRest (giEnv L) [zWhile] .next >>= fun f => thenRest (giEnv L) (forBody giFor).tail.tail f >>= forRest L I) = (standAt (sPos zWhile) >>= fun _ => runOwn (whileCode L) (giEnv L) >>= fun f => thenRest (giEnv L) [] f >>= fun f => thenRest (giEnv L) (forBody giFor).tail.tail f >>= forRest L I) := by
    rw [show thenRest (giEnv L) [zWhile] .next = (exec (.While (whileTest zWhile) (whileBody zWhile) [] (sPos zWhile)) (giEnv L) >>= thenRest (giEnv L) []) from rfl, exec_While]
    simp only [bind_assoc]; rfl
  rw [e3]
  refine sx_l (wpAny_standAt ?_)
  show SegX _ _ _ (.call (whileCode L) none false [] (kWhile L I)) _ _ _
  refine s_call _ _ _ _ _ _ _ _ _ _ _ _ fun p₁ => ?_
  exact gi_rep (p₁ := p₁) hn hl fun p' => h p' p₁ _
end

section
variable {M : Model} {A : Around} {E : Value → Shared → Prop} {s : Shared}

theorem note_first {base : Heap} {env : Env} {outer : List Env} {L e : Addr} {oe : Obj} {vs : Array Value} {a0 : Value} {Q : Unit → Shared → Prop}
    (hfr : A.frames = some (env :: outer)) (hl : s.heap.FunFrames base (env :: outer)) (hf : env.frame = some L)
    (he : s.heap.get? e = some oe) (hkb : base.StaysIn s.heap) (hen : base.get? e = none) (hd : oe.data = .fields vs) (h1 : vs[1]? = some .none) (h0 : vs[0]? = some a0)
    (h : ∀ h', Heap.NotedW base (env :: outer) e oe.cls a0 (rawInt L) s.heap h' → Q () { s with heap := h' }) : wpAny M A (noteFrame (.ref e) env) Q E s := by
  unfold noteFrame
  simp only [hf]
  refine wpAny_bind (wpAny_field he hd h1 ?_)
  rw [if_neg (by decide)]
  exact wpAny_entryW hfr hl hf he hkb hen hd (Array.getElem?_eq_some_iff.mp h1).1 h0 h

/-- the record of where an exception flies, turned -/
theorem fly_turn {h base : Heap} {l : List Env} {e : Addr} {cls a0 fl : Value} (v : Value) (X : h.TracedAtW base e cls a0 fl) (hb : base.StaysIn h) (hl : h.FunFrames base l) :
    ∃ T oe we oT wT, (h.get? e = some oe ∧ oe.data = .fields we ∧ we[1]? = some (.ref T)) ∧ (h.get? T = some oT ∧ oT.data = .fields wT ∧ 3 < wT.size) ∧
      ∀ h', h' = h.update T (Obj.mapFields (·.setIfInBounds 3 v)) → base.StaysIn h' ∧ h'.FunFrames base l ∧ h'.TracedAtW base e cls a0 v ∧ ∀ b o, h.get? b = some o → (∀ w, o.data ≠ .fields w) → h'.get? b = some o := by
  obtain ⟨oe, we, T, oT, wT, he, hc, hd, h1, hT0, hTe, hT, hdT, h3⟩ := X
  have lt3 := (Array.getElem?_eq_some_iff.mp h3).1
  refine ⟨T, oe, we, oT, wT, ⟨he, hd, h1⟩, ⟨hT, hdT, lt3⟩, ?_⟩
  rintro h' rfl
  have k : KB [T] h (h.update T (Obj.mapFields (·.setIfInBounds 3 v))) := KB.of_same (Heap.SameBut.update ..)
  have off : ∀ {b : Addr}, b ≠ T → b ∉ [T] := fun hb q => hb (List.mem_singleton.mp q)
  have plain : ∀ b o, h.get? b = some o → (∀ w, o.data ≠ .fields w) → b ≠ T := by
    rintro b o eb hn rfl
    cases hT.symm.trans eb
    exact hn _ hdT
  have kp : ∀ b o, h.get? b = some o → (∀ w, o.data ≠ .fields w) → (h.update T (Obj.mapFields (·.setIfInBounds 3 v))).get? b = some o := fun b o eb hn => k b o (off (plain b o eb hn)) eb
  refine ⟨fun b o eb => k b o (off ?_) (hb b o eb), hl.of_keeps fun b o eb hn => ⟨o, kp b o eb hn, rfl⟩, ?_, kp⟩
  · rintro rfl
    cases hT0.symm.trans eb
  · have hdT' := Obj.data_mapFields hdT (·.setIfInBounds 3 v)
    exact ⟨oe, we, T, _, _, k e oe (off (Ne.symm hTe)) he, hc, hd, h1, hT0, hTe, Heap.get?_update_self _ hT (Obj.isFreed_of_fields hdT'), hdT', by simp [lt3]⟩

/-- an exception comes back into the frame that had an activation of its own -/
theorem came_back {base : Heap} {l : List Env} {env : Env} {L e : Addr} {cls a0 fl : Value} (hf : env.frame = some L)
    (hkb : base.StaysIn s.heap) (hl : s.heap.FunFrames base l) (ht : s.heap.TracedAtW base e cls a0 fl)
    (h : ∀ h', base.StaysIn h' → h'.FunFrames base l → h'.TracedAtW base e cls a0 (rawInt L) → (∀ b o, s.heap.get? b = some o → (∀ vs, o.data ≠ .fields vs) → h'.get? b = some o) → E (.ref e) { s with heap := h' }) :
    cameBackBy M A env E (.ref e) s := by
  obtain ⟨T, oe, we, oT, wT, ⟨he, hd, h1⟩, ⟨hT, hdT, lt3⟩, turn⟩ := fly_turn (rawInt L) ht hkb hl
  obtain ⟨a, b, c, d⟩ := turn _ rfl
  have look : ∀ {R : Value → Shared → Prop}, R (.ref T) s → wpAny M A (field (.ref e) 1) R E s := fun q => wpAny_field he hd h1 q
  unfold cameBackBy setFlight
  refine wpAny_bind (look ?_)
  rw [if_neg (by simp), hf]
  refine wpAny_bind (look ?_)
  rw [if_pos (by simp)]
  exact wpAny_setField hT hdT lt3 (h _ a b c d)

theorem own_raise {env : Env} {x : Value} {Q : Flow → Shared → Prop} (h : cameBackBy M A env E x s) : wpAny M A (ownBack env (.error x)) Q E s := by
  show wpAny M A (Sem.bind _ fun _ => Sem.raise x) Q E s
  exact wpAny_bind (wpAny_mono h (fun _ _ q => wpAny_throw q) fun _ _ q => q)

/-- an exception held by the frame leaves it -/
theorem leaves_held {base : Heap} {env : Env} {outer : List Env} {L e : Addr} {cls a0 : Value} {Q : Unit → Shared → Prop} (hf : env.frame = some L)
    (hh : Heap.HeldW base (env :: outer) e cls a0 L s.heap) (hQ : ∀ h', Heap.FlyingW base outer e cls a0 h' → s.heap.UpToSlots h' → Q () { s with heap := h' }) : wpAny M A (leaving env (.ref e)) Q E s := by
  unfold leaving
  refine wpAny_bind (wpAny_noteFrame_againW hf hh.2.2.2 ?_)
  refine wpAny_landsW hh fun h' hfl u => ?_
  obtain ⟨k1, k2, ⟨_, _, k3⟩, k4⟩ := hfl
  exact hQ h' ⟨k1, k2, k3, k4⟩ u
end

section
variable {prog : Program} {w : World} {A : Around} {P : End → Shared → Prop} {s : Shared} {mg mb : Str → Option Value}

theorem evalArgs_of {M : Model} {A : Around} {E : Value → Shared → Prop} {s : Shared} {env : Env} {f : Value} {e : PySem.Expr} {rest : List PySem.Expr} {pos : Pos} {Q : Args → Shared → Prop}
    (h : wpAny M A (spliced (backTo pos (starEach (e :: rest) env))) (fun vs s' => Q ⟨vs, []⟩ s') E s) (he : starEach (e :: rest) env = (false, eval e env) :: starEach rest env := by rfl) :
    wpAny M A (evalArgs f true (backTo pos (starEach (e :: rest) env)) []) Q E s := by
  rw [he] at h ⊢
  exact evalArgs_plain h

theorem upTo_of {h h' : Heap} (k : ∀ b o, h.get? b = some o → (∀ vs, o.data ≠ .fields vs) → h'.get? b = some o) : h.UpToSlots h' := fun b o e hn => ⟨o.slots, k b o e hn⟩

/-- an exception raised in the loop of the walk leaves the walk -/
theorem gi_raised {base : Heap} {outer : List Env} {L I e t : Addr} {p : Pos} {args : List Value} {h₀ : Heap} (hfr : A.frames = some outer) (hkb : base.StaysIn h₀) (hl : h₀.FunFrames base (giEnv L :: outer))
    (hx : Heap.MadeExc h₀ s.heap e "ValueError" args)
    (h : ∀ h' t, Heap.FlyingW base outer e (.type "ValueError") (.ref t) h' → h'.TupAt t args → h₀.UpToSlots h' → P (.ret (.error (.ref e))) { s with heap := h' }) :
    SegX (model prog w) A (forCode L I) ((loopNote (giEnv L) (.ref e)).bind fun _ => .raise (.ref e)) [forFrame L p] s P := by
  obtain ⟨t, he, htn, ht⟩ := hx.there
  have fresh : ∀ b, h₀.get? b = none → base.get? b = none := fun b hb => by
    cases hq : base.get? b with
    | none => rfl
    | some o' => have := hkb b o' hq; rw [hb] at this; cases this
  have hfr1 : (A.over (forCode L I) [forFrame L p]).frames = some (giEnv L :: outer) := by
    unfold Around.over
    dsimp only
    rw [hfr]; rfl
  have hfr0 : (A.over (.func giBody (giEnv L)) []).frames = some (giEnv L :: outer) := by
    unfold Around.over
    dsimp only
    rw [hfr]; rfl
  refine sx_b (m := loopNote (giEnv L) (.ref e)) ?_
  unfold loopNote
  refine wpAny_bind (note_first (a0 := .ref t) hfr1 (hl.of_keeps fun b o hb _ => ⟨o, hx.keeps b o hb, rfl⟩) (L := L) rfl he (fun b o hb => hx.keeps b o (hkb b o hb)) (fresh e hx.new) rfl rfl rfl fun h₁ hN => wpAny_theTreesLotGoes ?_)
  obtain ⟨k1, k2, k3, k4⟩ := hN
  refine s_pop _ _ _ _ _ _ _ (.error (.ref e)) _ rfl _ _ _ _ _ _ _ ?_
  show SegX _ _ _ (((ownBack (giEnv L) (.error (.ref e)) >>= afterFor (giEnv L)).onRaise (leaving (giEnv L))) >>= funcEnd) _ _ _
  refine sx_f (own_raise (came_back (L := L) rfl k1 k2 k3 fun h₂ j1 j2 j3 j4 => ?_))
  have held : Heap.HeldW base (giEnv L :: outer) e (.type "ValueError") (.ref t) L h₂ := ⟨j1, fresh e hx.new, j2, j3⟩
  refine sx_b (m := leaving (giEnv L) (.ref e)) (leaves_held (L := L) rfl held fun h₃ fl u => ?_)
  have up : h₀.UpToSlots h₃ := ((Heap.UpToSlots.of_keeps hx.keeps).trans k4).trans ((upTo_of j4).trans u)
  have up' : s.heap.UpToSlots h₃ := (show s.heap.UpToSlots h₁ from k4).trans ((upTo_of j4).trans u)
  exact s_end _ _ _ _ _ _ (.error (.ref e)) _ rfl (h h₃ t fl (Heap.TupAt.of_slots ⟨_, _, ht, rfl, rfl⟩ up') up)

theorem gi_raise {base : Heap} {outer : List Env} {L I : Addr} {p : Pos} {m : Str → Option Value} {t : Tok} (hh : A.handled = none) (B : Base mg mb s.heap) (hn : s.heap.Ns L m) (hv : m "interval" = some (.int 0 t)) (hl : m "last_interval" = some .none)
    (hfr : A.frames = some outer) (hkb : base.StaysIn s.heap) (hff : s.heap.FunFrames base (giEnv L :: outer))
    (h : ∀ h' tk e t u, Heap.FlyingW base outer e (.type "ValueError") (.ref t) h' → h'.TupAt t [.str "invalid grouping" u] → s.heap.UpToSlots h' → P (.ret (.error (.ref e))) { s with heap := h', toks := tk }) :
    SegX (model prog w) A (forCode L I) ((execs (forBody giFor) (giEnv L) >>= forRest L I).onRaise (loopNote (giEnv L))) [forFrame L p] s P := by
  refine sx_l ?_
  rw [show forBody giFor = nth (forBody giFor) 0 :: nth (forBody giFor) 1 :: (forBody giFor).tail.tail from rfl]
  refine wpAny_execs_cons (test_max B hn hv (fun q => absurd q (by decide)) fun _ => ?_)
  refine wpAny_execs_cons ?_
  show wpAny _ _ (exec (.If (.Compare (.Name "interval" _) [.Eq] [.Constant (.int 0) _ _] _) (zNone :: [zWhile]) [] _) _) _ _ _
  refine wpAny_If (wpAny_isTrue_Compare1 (ldL (env := giEnv L) hn hv (wpAny_Constant_int (PyProof.Rows.eq_int (wpAny_truthy_bool ?_)))))
  rw [if_pos (by decide)]
  refine wpAny_execs_cons ?_
  show wpAny _ _ (exec (.If (.Compare (.Name "last_interval" _) [.Is] [.Constant .none _ _] _) [.Raise (some (.Call (.Name "ValueError" _) [.Constant (.str "invalid grouping") _ _] [] _)) none _] [] _) _) _ _ _
  refine wpAny_If (wpAny_isTrue_Compare1 (ldL (env := giEnv L) hn hl (wpAny_Constant_none (wpAny_is_self rfl (wpAny_truthy_bool ?_)))))
  rw [if_pos (by decide)]
  refine wpAny_execs_cons (wpAny_Raise_call F.excCall_ValueError F.excRaise_ValueError (over_handled hh) rfl (ldB (v := .type "ValueError") (env := giEnv L) (by exact B) (by decide +kernel) ⟨rfl, ?_⟩))
  refine evalArgs_of (args_cons (Constant_str (args_nil ?_)))
  refine ⟨rfl, by show 1 ≤ sizeLine; decide, fun h' e hx => ?_⟩
  exact gi_raised (t := 0) hfr hkb hff hx fun h₃ t fl tu up => h h₃ _ e t _ fl tu up
end

/-- where a walk is: ahead of a place, with the size told last; in its endless loop; over -/
inductive GSt where
  | at (p : Nat) (l : Option Int)
  | rep (v : Int)
  | over
inductive GRes where
  | yield (v : Int)
  | stop
  | raise
/-- a step of the walk -/
def gstep (xs : List Int) : GSt → GRes × GSt
  | .at p l => match xs[p]? with
    | none => (.stop, .over)
    | some e => if e = 127 then (.stop, .over) else if e = 0 then (match l with | none => (.raise, .over) | some v => (.yield v, .rep v)) else (.yield e, .at (p + 1) (some e))
  | .rep v => (.yield v, .rep v)
  | .over => (.stop, .over)

/-- the heap and the walk's own state bear it -/
def GenAt (T : Int → Tok → Prop) (h : Heap) (gs : GenState) (L row : Addr) (is : List Addr) : GSt → Prop
  | .at p none => p = 0 ∧ is = [] ∧ gs = .fresh (.func giBody (giEnv L)) ∧ ∃ m, h.Ns L m ∧ m "grouping" = some (.ref row)
  | .at p (some e) => ∃ I m p' p₁ t, is = [I] ∧ gs = .suspended (kItem L I) [] (forCode L I) p' [forFrame L p₁] false ∧ h.Ns L m ∧ m "interval" = some (.int e t) ∧ h.IsListIter I row p ∧ I ≠ L ∧ T e t
  | .rep v => ∃ I m p' p₁ p₂ t, is = [] ∧ gs = .suspended (kRep L) [] (whileCode L) p' [whileFrame L I p₁, forFrame L p₂] false ∧ h.Ns L m ∧ m "last_interval" = some (.int v t) ∧ T v t
  | .over => gs = .finished

theorem GenAt.keep {T : Int → Tok → Prop} {h h' : Heap} {gs : GenState} {L row : Addr} {is : List Addr} : ∀ {st : GSt}, GenAt T h gs L row is st → (∀ b ∈ L :: is, ∀ o, h.get? b = some o → h'.get? b = some o) → GenAt T h' gs L row is st
  | .at _ none, ⟨a, b, c, m, hn, hg⟩, k => ⟨a, b, c, m, hn.at' fun o e => k L (.head _) o e, hg⟩
  | .at _ (some _), ⟨I, m, p', p₁, t, a, b, hn, hv, ⟨o, ho, r⟩, hI⟩, k => ⟨I, m, p', p₁, t, a, b, hn.at' fun o e => k L (.head _) o e, hv, ⟨o, k I (by rw [a]; exact .tail _ (.head _)) o ho, r⟩, hI⟩
  | .rep _, ⟨I, m, p', p₁, p₂, t, a, b, hn, hv⟩, k => ⟨I, m, p', p₁, p₂, t, a, b, hn.at' fun o e => k L (.head _) o e, hv⟩
  | .over, e, _ => e

theorem FunFrames_step {h h' base : Heap} {L I : Addr} {m : Str → Option Value} (k : KB [L, I] h h') (hn : h'.Ns L m) (hI : h.get? I = none) : ∀ {l : List Env}, h.FunFrames base l → h'.FunFrames base l
  | [], _ => trivial
  | _ :: _, ⟨hk, ⟨b, o, hf, hb, ho, hd⟩, hr⟩ => by
    refine ⟨hk, ?_, FunFrames_step k hn hI hr⟩
    by_cases e : b = L
    · subst e
      obtain ⟨o', es, ep, ho', hd', _⟩ := hn
      exact ⟨b, o', hf, hb, ho', fun vs q => by rw [hd'] at q; cases q⟩
    · refine ⟨b, o, hf, hb, k b o ?_ ho, hd⟩
      simp only [List.mem_cons, List.not_mem_nil, or_false, not_or]
      exact ⟨e, fun q => by rw [q, hI] at ho; cases ho⟩

/-- how a waking ends -/
inductive Out (T : Int → Tok → Prop) (base : Heap) (outer : List Env) (s₀ : Shared) (L row : Addr) (is : List Addr) (xs : List Int) (st : GSt) : End → Shared → Prop
  | yield {e : End} {v : Int} {t : Tok} {st' : GSt} {is' : List Addr} {h' : Heap} {tk : Nat} : gstep xs st = (.yield v, st') → e.result = .yielded (.int v t) → T v t → GenAt T h' e.genState L row is' st' → KB (L :: is) s₀.heap h' → e.genState.bare = true →
      (∀ b ∈ is', b ∈ is ∨ s₀.heap.get? b = none) → Out T base outer s₀ L row is xs st e { s₀ with heap := h', toks := tk }
  | stop {h' : Heap} {tk : Nat} : gstep xs st = (.stop, .over) → KB (L :: is) s₀.heap h' → Out T base outer s₀ L row is xs st (.ret (.ok (.ret .none))) { s₀ with heap := h', toks := tk }
  | raise {h' : Heap} {tk : Nat} {e t : Addr} {u : Tok} : gstep xs st = (.raise, .over) → Heap.FlyingW base outer e (.type "ValueError") (.ref t) h' → h'.TupAt t [.str "invalid grouping" u] →
      (∀ b o, b ≠ L → s₀.heap.get? b = some o → (∀ vs, o.data ≠ .fields vs) → ∃ sl, h'.get? b = some { o with slots := sl }) → Out T base outer s₀ L row is xs st (.ret (.error (.ref e))) { s₀ with heap := h', toks := tk }

section
variable {prog : Program} {w : World} {A : Around} {s : Shared} {mg mb : Str → Option Value}

theorem Base.kb {X : List Addr} {h h' : Heap} (B : Base mg mb h) (k : KB X h h') (hX : ∀ b ∈ X, b ∉ lowA) : Base mg mb h' :=
  B.at fun b hb o e => k b o (fun q => hX b q hb) e

/-- from the loop's head -/
theorem gen_turn {T : Int → Tok → Prop} {base : Heap} {outer : List Env} {L I row : Addr} {p : Pos} {i : Nat} {m : Str → Option Value} {vs : List Value} {xs : List Int} {l : Option Int} {P : End → Shared → Prop} (hh : A.handled = none) (hfr : A.frames = some outer)
    (B : Base mg mb s.heap) (hlo : ∀ b ∈ [L, I], b ∉ lowA) (hrow : s.heap.IsList row vs.toArray) (hI : IntsAre vs xs) (hT : ∀ n t, Value.int n t ∈ vs → T n t) (hn : s.heap.Ns L m) (hi : s.heap.IsListIter I row i) (hIL : I ≠ L) (hrL : row ≠ L) (hrI : row ≠ I)
    (hl : (match l with | none => m "last_interval" = some .none | some e => ∃ t, m "last_interval" = some (.int e t) ∧ T e t))
    (hkb : base.StaysIn s.heap) (hff : s.heap.FunFrames base (giEnv L :: outer)) (hLb : base.get? L = none) (hIb : base.get? I = none)
    (hY : ∀ v st' h' tk e t is', gstep xs (.at i l) = (.yield v, st') → e.result = .yielded (.int v t) → T v t → GenAt T h' e.genState L row is' st' → (∀ b ∈ is', b = I) → KB [L, I] s.heap h' → e.genState.bare = true → P e { s with heap := h', toks := tk })
    (hS : ∀ h' tk, gstep xs (.at i l) = (.stop, .over) → KB [L, I] s.heap h' → P (.ret (.ok (.ret .none))) { s with heap := h', toks := tk })
    (hR : ∀ h' tk e t u, gstep xs (.at i l) = (.raise, .over) → Heap.FlyingW base outer e (.type "ValueError") (.ref t) h' → h'.TupAt t [.str "invalid grouping" u] →
      (∀ b o, b ≠ L → s.heap.get? b = some o → (∀ vs, o.data ≠ .fields vs) → ∃ sl, h'.get? b = some { o with slots := sl }) → P (.ret (.error (.ref e))) { s with heap := h', toks := tk }) :
    SegX (model prog w) A (forCode L I) (denote table (forCode L I)) [forFrame L p] s P := by
  cases hx : xs[i]? with
  | none =>
    have hx' : vs.toArray[i]? = none := by
      have h1 : xs.length ≤ i := List.getElem?_eq_none_iff.mp hx
      simp [hI.length]; omega
    refine gi_none hh hi hrow hx' fun h' k => hS h' _ (by simp [gstep, hx]) (k.mono (by simp))
  | some e =>
    obtain ⟨t, ht⟩ := hI.get i e hx
    have hTe : T e t := hT e t (List.mem_of_getElem? ht)
    refine gi_item hn hi hrow (x := .int e t) (by simpa using ht) hIL fun h' tk k hn' hi' => ?_
    have B' : Base mg mb h' := B.kb k hlo
    by_cases h1 : e = 127
    · subst h1
      exact gi_127 (s := { s with heap := h', toks := tk }) B' hn' (if_pos rfl) (hS h' tk (by simp [gstep, hx]) k)
    by_cases h2 : e = 0
    · subst h2
      cases l with
      | none =>
        have hkb' : base.StaysIn h' := fun b o hb => k b o (by
          simp only [List.mem_cons, List.not_mem_nil, or_false, not_or]
          exact ⟨fun q => (by rw [q, hLb] at hb; cases hb), fun q => (by rw [q, hIb] at hb; cases hb)⟩) (hkb b o hb)
        have hff' : h'.FunFrames base (giEnv L :: outer) := by
          have gen : ∀ {l : List Env}, s.heap.FunFrames base l → h'.FunFrames base l := by
            intro l
            induction l with
            | nil => exact fun _ => trivial
            | cons env rest ih =>
              rintro ⟨hk, ⟨b, o, hf, hb, ho, hd⟩, hr⟩
              refine ⟨hk, ?_, ih hr⟩
              by_cases e : b = L
              · subst e
                obtain ⟨o', es, ep, ho', hd', _⟩ := hn'
                exact ⟨b, o', hf, hb, ho', fun vs q => by rw [hd'] at q; cases q⟩
              · refine ⟨b, o, hf, hb, k b o ?_ ho, hd⟩
                simp only [List.mem_cons, List.not_mem_nil, or_false, not_or]
                refine ⟨e, fun q => ?_⟩
                obtain ⟨oi, hoi, _, hdi⟩ := hi
                rw [q, hoi] at ho
                cases ho
                exact hd _ hdi
          exact gen hff
        refine gi_raise (base := base) (outer := outer) (s := { s with heap := h', toks := tk }) hh B' hn' (if_pos rfl) ((if_neg (by decide)).trans hl) hfr hkb' hff' fun h'' tk' e t u fl tu up => ?_
        refine hR h'' tk' e t u (by simp [gstep, hx]) fl tu fun b o hb ho hd => up b o (k b o ?_ ho) hd
        simp only [List.mem_cons, List.not_mem_nil, or_false, not_or]
        refine ⟨hb, fun q => ?_⟩
        obtain ⟨oi, hoi, _, hdi⟩ := hi
        rw [q, hoi] at ho
        cases ho
        exact hd _ hdi
      | some v =>
        obtain ⟨u, hu, hTu⟩ := hl
        exact gi_zero (s := { s with heap := h', toks := tk }) B' hn' (if_pos rfl) ((if_neg (by decide)).trans hu) fun p' p₁ tk' => hY v (.rep v) h' _ _ u [] (by simp [gstep, hx]) rfl hTu ⟨I, _, p', p₁, p, u, rfl, rfl, hn', (if_neg (by decide)).trans hu, hTu⟩ (by simp) k rfl
    · exact gi_yield (s := { s with heap := h', toks := tk }) B' hn' (if_pos rfl) h1 h2 fun p' => hY e (.at (i + 1) (some e)) h' _ _ t [I] (by simp [gstep, hx, h1, h2]) rfl hTe ⟨I, _, p', p, t, rfl, rfl, hn', if_pos rfl, hi', hIL, hTe⟩ (by simp) k rfl
end

/-- the walk's own addresses lie off -/
structure Off (base : Heap) (h : Heap) (L row : Addr) (is : List Addr) : Prop where
  low : ∀ b ∈ L :: is, b ∉ lowA ∧ b ≠ row
  free : ∀ b ∈ L :: is, base.get? b = none
  stays : base.StaysIn h

section
variable {prog : Program} {w : World} {A : Around} {s : Shared} {mg mb : Str → Option Value}

theorem gen_seg {T : Int → Tok → Prop} {base : Heap} {outer : List Env} {L row : Addr} {is : List Addr} {gs : GenState} {st : GSt} {vs : List Value} {xs : List Int} (hh : A.handled = none) (hfr : A.frames = some outer) (B : Base mg mb s.heap)
    (hrow : s.heap.IsList row vs.toArray) (hI : IntsAre vs xs) (hT : ∀ n t, Value.int n t ∈ vs → T n t) (hG : GenAt T s.heap gs L row is st) (hst : st ≠ .over) (hO : Off base s.heap L row is) (hff : s.heap.FunFrames base (giEnv L :: outer)) :
    ∃ c₀ t₀ fs₀, ((gs = .fresh c₀ ∧ t₀ = denote table c₀ ∧ fs₀ = []) ∨ ∃ k₀ l₀ p₀ cl, gs = .suspended k₀ l₀ c₀ p₀ fs₀ cl ∧ t₀ = k₀ (.send .none)) ∧ SegX (model prog w) A c₀ t₀ fs₀ s (Out T base outer s L row is xs st) := by
  have hrowne : ∀ b ∈ L :: is, row ≠ b := fun b hb => Ne.symm (hO.low b hb).2
  cases st with
  | over => exact absurd rfl hst
  | rep v =>
    obtain ⟨I, m, p', p₁, p₂, t, rfl, rfl, hn, hv, hTv⟩ := hG
    refine ⟨_, _, _, .inr ⟨_, _, _, _, rfl, rfl⟩, ?_⟩
    refine gi_wakeRep hn hv fun q => ?_
    exact .yield (h' := s.heap) (tk := s.toks) (is' := []) rfl rfl hTv ⟨I, m, q, p₁, p₂, t, rfl, rfl, hn, hv, hTv⟩ (KB.refl _ _) rfl fun b hb => .inl hb
  | «at» p l =>
    cases l with
    | some e =>
      obtain ⟨I, m, p', p₁, t, rfl, rfl, hn, hv, hi, hIL, hTe⟩ := hG
      refine ⟨_, _, _, .inr ⟨_, _, _, _, rfl, rfl⟩, ?_⟩
      refine gi_wake hn hv fun h' tk k hn' => ?_
      have k2 : KB [L, I] s.heap h' := k.mono (by simp)
      have B' : Base mg mb h' := B.kb k (fun b q => by rw [List.mem_singleton.mp q]; exact (hO.low L (.head _)).1)
      have hrow' : h'.IsList row vs.toArray := by
        obtain ⟨o, ho, r⟩ := hrow
        exact ⟨o, k row o (fun q => hrowne L (.head _) (List.mem_singleton.mp q)) ho, r⟩
      have hi' : h'.IsListIter I row p := by
        obtain ⟨o, ho, r⟩ := hi
        exact ⟨o, k I o (fun q => hIL (List.mem_singleton.mp q)) ho, r⟩
      have hff' : h'.FunFrames base (giEnv L :: outer) := by
        have gen : ∀ {l : List Env}, s.heap.FunFrames base l → h'.FunFrames base l := by
          intro l
          induction l with
          | nil => exact fun _ => trivial
          | cons env rest ih =>
            rintro ⟨hk, ⟨b, o, hf, hb, ho, hd⟩, hr⟩
            refine ⟨hk, ?_, ih hr⟩
            by_cases e : b = L
            · subst e
              obtain ⟨o', es, ep, ho', hd', _⟩ := hn'
              exact ⟨b, o', hf, hb, ho', fun vs q => by rw [hd'] at q; cases q⟩
            · exact ⟨b, o, hf, hb, k b o (fun q => e (List.mem_singleton.mp q)) ho, hd⟩
        exact gen hff
      have hkb' : base.StaysIn h' := fun b o hb => k b o (fun q => by rw [List.mem_singleton.mp q, hO.free L (.head _)] at hb; cases hb) (hO.stays b o hb)
      refine gen_turn (base := base) (outer := outer) (l := some e) (s := { s with heap := h', toks := tk }) hh hfr B' (fun b hb => (hO.low b hb).1) hrow' hI hT hn' hi' hIL (hrowne L (.head _)) (hrowne I (.tail _ (.head _)))
        ⟨t, if_pos rfl, hTe⟩ hkb' hff' (hO.free L (.head _)) (hO.free I (.tail _ (.head _))) (fun v st' h'' tk' e' t' is' hs hr hTv hG' hi2 k' hb => ?_) (fun h'' tk' hs k' => ?_) (fun h'' tk' e' t' u hs fl tu up => ?_)
      · exact .yield (is' := is') hs hr hTv hG' (k2.trans k') hb fun b hb => .inl (by rw [hi2 b hb]; exact .head _)
      · exact .stop hs (k2.trans k')
      · exact .raise hs fl tu fun b o hb ho hd => up b o hb (k b o (fun q => hb (List.mem_singleton.mp q)) ho) hd
    | none =>
      obtain ⟨rfl, rfl, rfl, m, hn, hg⟩ := hG
      refine ⟨_, _, _, .inl ⟨rfl, rfl, rfl⟩, ?_⟩
      refine gi_start hn hg hrow (hrowne L (.head _)) fun h' tk I q k hn' hi' hIn hIL => ?_
      have alive : ∀ {x : Addr} {o : Obj}, s.heap.get? x = some o → x ≠ I := fun hx e => by rw [e, hIn] at hx; cases hx
      have B' : Base mg mb h' := B.kb k (fun b q => by rw [List.mem_singleton.mp q]; exact (hO.low L (.head _)).1)
      have two : ∀ {x : Addr}, L ≠ x → x ≠ I → x ∉ [L, I] := fun h1 h2 q => by
        simp only [List.mem_cons, List.not_mem_nil, or_false] at q
        exact q.elim (fun e => h1 e.symm) h2
      have hrI : row ≠ I := let ⟨_, ho, _⟩ := hrow; alive ho
      have hrow' : h'.IsList row vs.toArray := by
        obtain ⟨o, ho, r⟩ := hrow
        exact ⟨o, k row o (fun q => hrowne L (.head _) (List.mem_singleton.mp q)) ho, r⟩
      have hff' : h'.FunFrames base (giEnv L :: outer) := FunFrames_step (I := I) (k.mono (by simp)) hn' hIn hff
      have hkb' : base.StaysIn h' := fun b o hb => k b o (fun q => by rw [List.mem_singleton.mp q, hO.free L (.head _)] at hb; cases hb) (hO.stays b o hb)
      have hIb : base.get? I = none := by
        cases e : base.get? I with
        | none => rfl
        | some o => have := hO.stays _ _ e; rw [hIn] at this; cases this
      have kk : ∀ {h'' : Heap}, KB [L, I] h' h'' → KB [L] s.heap h'' := fun k' b o hb ho => k' b o (two (fun e => hb (by simp [e])) (alive ho)) (k b o hb ho)
      have hlo : ∀ b ∈ [L, I], b ∉ lowA := fun b hb => by
        simp only [List.mem_cons, List.not_mem_nil, or_false] at hb
        rcases hb with e | e
        · rw [e]; exact (hO.low L (.head _)).1
        · rw [e]; intro q; obtain ⟨o, ho⟩ := B.alive I q; rw [hIn] at ho; cases ho
      refine gen_turn (base := base) (outer := outer) (l := none) (s := { s with heap := h', toks := tk }) hh hfr B' (fun b hb => hlo b hb) hrow' hI hT hn' hi' hIL (hrowne L (.head _)) hrI
        (if_pos rfl) hkb' hff' (hO.free L (.head _)) hIb (fun v st' h'' tk' e' t' is' hs hr hTv hG' hi2 k' hb => ?_) (fun h'' tk' hs k' => ?_) (fun h'' tk' e' t' u hs fl tu up => ?_)
      · exact .yield (is' := is') hs hr hTv hG' (kk k') hb fun b hb => .inr (by rw [hi2 b hb]; exact hIn)
      · exact .stop hs (kk k')
      · exact .raise hs fl tu fun b o hb ho hd => up b o hb (k b o (fun q => hb (List.mem_singleton.mp q)) ho) hd

theorem gen_resume {α : Type} {T : Int → Tok → Prop} {base : Heap} {outer : List Env} {L row : Addr} {is : List Addr} {g : Nat} {gs : GenState} {st : GSt} {vs : List Value} {xs : List Int} {l : List Value} {k : GenResult → Sem α} {Q : α → Shared → Prop} {E : Value → Shared → Prop}
    (hh : A.handled = none) (hfr : A.frames = some outer) (B : Base mg mb s.heap)
    (hrow : s.heap.IsList row vs.toArray) (hI : IntsAre vs xs) (hT : ∀ n t, Value.int n t ∈ vs → T n t) (hgs : s.gens[g]? = some gs) (hG : GenAt T s.heap gs L row is st) (hst : st ≠ .over) (hO : Off base s.heap L row is) (hff : s.heap.FunFrames base (giEnv L :: outer))
    (h : ∀ e s₁, Out T base outer (s.setGen g .running) L row is xs st e s₁ → wpAny (model prog w) A (k e.result) Q E (s₁.setGen g e.genState)) :
    wpAny (model prog w) A (.resume g (.send .none) l k) Q E s := by
  obtain ⟨c₀, t₀, fs₀, hc, x⟩ := gen_seg (prog := prog) (w := w) (A := A) (s := s.setGen g .running) (outer := outer) (base := base) hh hfr B hrow hI hT hG hst hO hff
  intro Γ p hΓ
  refine wake_any α prog w hgs (c₀ := c₀) (t₀ := t₀) (fs₀ := fs₀) (hc.imp (fun ⟨a, b, c⟩ => ⟨a, rfl, b, c⟩) id) (fun Γ => Γ.In A) (fun _ h => h) ?_ Γ p hΓ
  exact x.mono fun e s₁ ho Γ p hC => h e s₁ ho Γ p hC
end

theorem sub_value_stop : isSubtype (.type "ValueError") (.type "StopIteration") = pure false := by rw [isSubtype_type]; kernel_rfl

/-- a walk, where it stands -/
structure Wk (T : Int → Tok → Prop) (s : Shared) (a : Addr) (g : Nat) (L row : Addr) (is : List Addr) (xs : List Int) (st : GSt) : Prop where
  obj : s.heap.IsGen a g
  gs : ∃ gs, s.gens[g]? = some gs ∧ GenAt T s.heap gs L row is st
  low : ∀ b ∈ L :: is, b ∉ lowA ∧ b ≠ row
  row : ∃ vs : List Value, s.heap.IsList row vs.toArray ∧ IntsAre vs xs ∧ ∀ n t, Value.int n t ∈ vs → T n t

/-- what is known of the stack where a walk is woken -/
structure Cx (A : Around) (base : Heap) (outer : List Env) (h : Heap) (a L : Addr) (is : List Addr) : Prop where
  handled : A.handled = none
  frames : A.frames = some outer
  depth : A.depth < recursionLimit
  free : ∀ b ∈ L :: is, base.get? b = none
  stays : base.StaysIn h
  funs : h.FunFrames base outer
  gen : base.get? a = h.get? a
  offL : ∀ env ∈ outer, env.frame ≠ some L

/-- all but L up to slots -/
def Slots (L : Addr) (h h' : Heap) : Prop := ∀ b o, b ≠ L → h.get? b = some o → (∀ vs, o.data ≠ .fields vs) → ∃ sl, h'.get? b = some { o with slots := sl }

theorem GenAt.ns {T : Int → Tok → Prop} {h : Heap} {gs : GenState} {L row : Addr} {is : List Addr} : ∀ {st : GSt}, GenAt T h gs L row is st → st ≠ .over → ∃ m, h.Ns L m
  | .at _ none, ⟨_, _, _, m, hn, _⟩, _ => ⟨m, hn⟩
  | .at _ (some _), ⟨_, m, _, _, _, _, _, hn, _⟩, _ => ⟨m, hn⟩
  | .rep _, ⟨_, m, _, _, _, _, _, _, hn, _⟩, _ => ⟨m, hn⟩
  | .over, _, h => absurd rfl h

theorem GenAt.status {T : Int → Tok → Prop} {h : Heap} {gs : GenState} {L row : Addr} {is : List Addr} : ∀ {st : GSt}, GenAt T h gs L row is st → st ≠ .over → gs.status = .fresh ∨ gs.status = .suspended
  | .at _ none, ⟨_, _, e, _⟩, _ => .inl (by rw [e]; rfl)
  | .at _ (some _), ⟨_, _, _, _, _, _, e, _⟩, _ => .inr (by rw [e]; rfl)
  | .rep _, ⟨_, _, _, _, _, _, _, e, _⟩, _ => .inr (by rw [e]; rfl)
  | .over, _, h => absurd rfl h

theorem stop_first : firstArgMember (.type "StopIteration") [] = pure Value.none := by
  unfold firstArgMember
  rfl
/-- a new StopIteration -/
theorem new_stop {M : Model} {A : Around} {s : Shared} {E Q : Value → Shared → Prop}
    (h : ∀ h' x, (∀ b o, s.heap.get? b = some o → h'.get? b = some o) → ({ s with heap := h' } : Shared).TypeIs (.ref x) "StopIteration" → Q (.ref x) { s with heap := h' }) : wpAny M A (newExc (.type "StopIteration") []) Q E s := by
  have two : ∀ (o₁ o₂ : Obj) (b : Addr) (o : Obj), s.heap.get? b = some o → ((s.heap.push o₁).push o₂).get? b = some o := fun _ _ _ _ q => Heap.get?_push_of_some _ (Heap.get?_push_of_some _ q)
  exact wpAny_bind (wpAny_newObj_type (wpAny_bind (wpAny_of_eq stop_first (wpAny_newObj_type (h _ _ (two _ _) ⟨_, Heap.get?_push_size _ rfl, rfl⟩) (by size_fits)))) (by size_fits))

section
variable {prog : Program} {w : World} {A : Around} {s : Shared} {mg mb : Str → Option Value} {E : Value → Shared → Prop}

theorem call_next {T : Int → Tok → Prop} {base : Heap} {outer : List Env} {a L row : Addr} {g : Nat} {is : List Addr} {st : GSt} {xs : List Int} {Q : Value → Shared → Prop} (C : Cx A base outer s.heap a L is) (B : Base mg mb s.heap) (W : Wk T s a g L row is xs st) (hst : st ≠ .over)
    (hY : ∀ v st' gs' is' h' tk t, gstep xs st = (.yield v, st') → T v t → GenAt T h' gs' L row is' st' → KB (L :: is) s.heap h' → gs'.bare = true → (∀ b ∈ is', b ∈ is ∨ s.heap.get? b = none) → Q (.int v t) { s with heap := h', toks := tk, gens := s.gens.setIfInBounds g gs' })
    (hS : ∀ h' tk x, gstep xs st = (.stop, .over) → KB (L :: is) s.heap h' → ({ s with heap := h', toks := tk, gens := s.gens.setIfInBounds g .finished } : Shared).TypeIs (.ref x) "StopIteration" → E (.ref x) { s with heap := h', toks := tk, gens := s.gens.setIfInBounds g .finished })
    (hR : ∀ h' tk e t u, gstep xs st = (.raise, .over) → Heap.FlyingW base outer e (.type "ValueError") (.ref t) h' → h'.TupAt t [.str "invalid grouping" u] → Slots L s.heap h' → E (.ref e) { s with heap := h', toks := tk, gens := s.gens.setIfInBounds g .finished }) :
    wpAny (model prog w) A (call (.builtin "generator.__next__") [.ref a]) Q E s := by
  obtain ⟨gs, hgs, hG⟩ := W.gs
  obtain ⟨vs, hrow, hI, hT⟩ := W.row
  obtain ⟨m, hn⟩ := hG.ns hst
  refine wpAny_call_entry slot_gen_next W.obj.typeIs entry_gen_next ?_ (args_gen_next _)
  show wpAny _ _ (Builtin.Generator.genWake (.ref a) (.send .none)) _ _ s
  unfold Builtin.Generator.genWake
  refine wpAny_bind (wpAny_holding (wpAny_genNumber W.obj (wpAny_bind (wpAny_genState hgs ?_))))
  have main : ∀ (k : GenResult → Sem Fin), (∀ e s₁, Out T base outer (s.setGen g .running) L row is xs st e s₁ → wpAny (model prog w) A.in1 (k e.result) (fun fin s' => ∃ v, fin = .done (.ret v) ∧ Q v s') E (s₁.setGen g e.genState)) →
      wpAny (model prog w) A.in1 (.resume g (.send .none) [] k) (fun fin s' => ∃ v, fin = .done (.ret v) ∧ Q v s') E s := fun k hk =>
    gen_resume (outer := outer) (base := base) C.handled C.frames B hrow hI hT hgs hG hst ⟨W.low, C.free, C.stays⟩ (Heap.FunFrames.cons (L := L) (by show ScopeKind.function ≠ ScopeKind.module; decide) rfl hn (C.free L (.head _)) C.funs) hk
  have setset : ∀ x y : GenState, (s.gens.setIfInBounds g x).setIfInBounds g y = s.gens.setIfInBounds g y := fun x y => by simp
  rcases hG.status hst with q | q <;> rw [q]
  all_goals
    refine wpAny_bind (wpAny_roomToWake B.nolimit C.depth ?_)
    refine main _ fun e s₁ ho => ?_
    cases ho with
    | yield hs hr hTv hG' k hb his =>
      rw [hr]
      refine wpAny_pure ⟨_, rfl, ?_⟩
      simp only [Shared.setGen, setset]
      exact hY _ _ _ _ _ _ _ hs hTv hG' k hb his
    | stop hs k =>
      refine (show wpAny _ _ (newExc (.type "StopIteration") [] >>= _) _ _ _ from wpAny_bind (new_stop fun h₂ x k₂ hx => wpAny_bind (wpAny_raiseNew_none (A := A.in1) C.handled ?_)))
      simp only [Shared.setGen, setset] at hx ⊢
      exact hS h₂ _ x hs (k.trans fun b o _ q => k₂ b o q) hx
    | raise hs fl tu up =>
      obtain ⟨o, nm, qn, ho, hc, hd, hsl⟩ := W.obj
      have hoa := fl.1 a o (C.gen.trans ho)
      show wpAny _ _ (Builtin.Generator.genLeft (.ref a) _) _ _ _
      unfold Builtin.Generator.genLeft Builtin.Generator.madeByALambda
      refine wpAny_bind (wpAny_bind (wpAny_load hoa ?_))
      refine wpAny_pure ?_
      rw [hd]
      obtain ⟨oe, he, hce⟩ := fl.there
      refine wpAny_bind (wpAny_isInstance (T := "ValueError") (b := false) ⟨oe, he, hce⟩ sub_value_stop ?_)
      rw [if_neg (by simp)]
      unfold Builtin.Generator.genEscaped
      refine wpAny_bind (wpAny_isInstance (T := "ValueError") (b := false) ⟨oe, he, hce⟩ sub_value_stop ?_)
      rw [if_pos (by rfl)]
      refine wpAny_bind (wpAny_throw ?_)
      simp only [Shared.setGen, setset]
      exact hR _ _ _ _ _ hs fl tu up
end

section
variable {prog : Program} {w : World} {A : Around} {s : Shared} {mg mb : Str → Option Value} {E : Value → Shared → Prop}

theorem py_next {T : Int → Tok → Prop} {base : Heap} {outer : List Env} {a L row : Addr} {g : Nat} {is : List Addr} {st : GSt} {xs : List Int} {Q : Option Value → Shared → Prop} (C : Cx A base outer s.heap a L is) (B : Base mg mb s.heap) (W : Wk T s a g L row is xs st) (hst : st ≠ .over)
    (hY : ∀ v st' gs' is' h' tk t, gstep xs st = (.yield v, st') → T v t → GenAt T h' gs' L row is' st' → KB (L :: is) s.heap h' → gs'.bare = true → (∀ b ∈ is', b ∈ is ∨ s.heap.get? b = none) → Q (some (.int v t)) { s with heap := h', toks := tk, gens := s.gens.setIfInBounds g gs' })
    (hS : ∀ h' tk, gstep xs st = (.stop, .over) → KB (L :: is) s.heap h' → Q none { s with heap := h', toks := tk, gens := s.gens.setIfInBounds g .finished })
    (hR : ∀ h' tk e t u, gstep xs st = (.raise, .over) → Heap.FlyingW base outer e (.type "ValueError") (.ref t) h' → h'.TupAt t [.str "invalid grouping" u] → Slots L s.heap h' → E (.ref e) { s with heap := h', toks := tk, gens := s.gens.setIfInBounds g .finished }) :
    wpAny (model prog w) A (pyNext (.ref a)) Q E s := by
  unfold pyNext
  refine wpAny_bind (wpAny_attempt (wpAny_callSpecial?_slot (name := Str.ofString "__next__") W.obj.typeIs slot_gen_next (call_next C B W hst (fun v st' gs' is' h' tk t hs hTv hG k hb his => ?_) (fun h' tk x hs k hT => ?_) (fun h' tk e t u hs fl tu up => ?_))))
  · exact wpAny_pure (hY v st' gs' is' h' tk t hs hTv hG k hb his)
  · exact wpAny_bind (wpAny_isInstance (T := "StopIteration") (b := true) hT isSubtype_stop (wpAny_pure (hS h' tk hs k)))
  · obtain ⟨oe, he, hce⟩ := fl.there
    exact wpAny_bind (wpAny_isInstance (T := "ValueError") (b := false) ⟨oe, he, hce⟩ sub_value_stop (wpAny_throw (hR h' tk e t u hs fl tu up)))

theorem next_over {a : Addr} {g : Nat} {Q : Option Value → Shared → Prop} (hh : A.handled = none) (hg : s.heap.IsGen a g) (hgs : s.gens[g]? = some .finished)
    (hQ : ∀ h', KB [] s.heap h' → Q none { s with heap := h' }) : wpAny (model prog w) A (pyNext (.ref a)) Q E s := by
  unfold pyNext
  refine wpAny_bind (wpAny_attempt (wpAny_callSpecial?_slot (name := Str.ofString "__next__") hg.typeIs slot_gen_next (wpAny_call_entry slot_gen_next hg.typeIs entry_gen_next ?_ (args_gen_next _))))
  show wpAny _ _ (Builtin.Generator.genWake (.ref a) (.send .none)) _ _ s
  unfold Builtin.Generator.genWake
  refine wpAny_bind (wpAny_holding (wpAny_genNumber hg (wpAny_bind (wpAny_genState hgs ?_))))
  show wpAny _ _ (Sem.resume g (.send .none) [] _) _ _ s
  intro Γ p hΓ
  rw [Sem.wp_resume]
  refine ⟨.finished, s, by unfold Wakes; rw [hgs]; exact ⟨rfl, rfl⟩, ?_⟩
  have key : wpAny (model prog w) A.in1 (do raiseNew (← newExc (.type "StopIteration") []) : Sem PySem.Fin) (fun fin s' => ∃ v, fin = .done (.ret v) ∧ wpAny (model prog w) A (pure (some v)) Q E s') (fun e s' => wpAny (model prog w) A (do if ← isInstance e (.type "StopIteration") then pure none else throw e) Q E s') s := by
    refine wpAny_bind (new_stop fun h' x k hx => wpAny_raiseNew_none (A := A.in1) hh ?_)
    exact wpAny_bind (wpAny_isInstance (T := "StopIteration") (b := true) hx isSubtype_stop (wpAny_pure (hQ h' fun b o _ q => k b o q)))
  exact key Γ p hΓ
end

/-- what a walk's steps change -/
structure Ch (g : Nat) (L : Addr) (is : List Addr) (s s' : Shared) (is' : List Addr) : Prop where
  eq : ∃ gs : GenState, gs.bare = true ∧ s' = { s with heap := s'.heap, toks := s'.toks, gens := s.gens.setIfInBounds g gs }
  keep : KB (L :: is) s.heap s'.heap
  new : ∀ b ∈ is', b ≠ L ∧ (b ∈ is ∨ s.heap.get? b = none)

theorem Ch.trans {g : Nat} {L : Addr} {is is₁ is₂ : List Addr} {s s₁ s₂ : Shared} (x : Ch g L is s s₁ is₁) (y : Ch g L is₁ s₁ s₂ is₂) : Ch g L is s s₂ is₂ := by
  obtain ⟨⟨gs, _, e₁⟩, k₁, n₁⟩ := x
  obtain ⟨⟨gs', hb, e₂⟩, k₂, n₂⟩ := y
  refine ⟨⟨gs', hb, ?_⟩, fun b o hb ho => k₂ b o ?_ (k₁ b o hb ho), fun b hb => ⟨(n₂ b hb).1, ?_⟩⟩
  · rw [e₂, e₁]; simp
  · intro q
    rcases List.mem_cons.mp q with q | q
    · exact hb (by rw [q]; exact .head _)
    · rcases (n₁ b q).2 with q | q
      · exact hb (.tail _ q)
      · rw [q] at ho; cases ho
  · rcases (n₂ b hb).2 with q | q
    · exact (n₁ b q).2
    · by_cases hb' : b ∈ is
      · exact .inl hb'
      · right
        cases ho : s.heap.get? b with
        | none => rfl
        | some o =>
          have := k₁ b o (fun q => (List.mem_cons.mp q).elim (n₂ b hb).1 hb') ho
          rw [this] at q; cases q

theorem Ch.refl {g : Nat} {L : Addr} {is : List Addr} {s : Shared} {gs : GenState} (hg : s.gens[g]? = some gs) (hb : gs.bare = true) (hL : ∀ b ∈ is, b ≠ L) : Ch g L is s s is := by
  refine ⟨⟨gs, hb, ?_⟩, KB.refl _ _, fun b q => ⟨hL b q, .inl q⟩⟩
  have : s.gens.setIfInBounds g gs = s.gens := by
    apply Array.ext'
    obtain ⟨hlt, e⟩ := Array.getElem?_eq_some_iff.mp hg
    simp only [Array.toList_setIfInBounds]
    rw [← e]; exact List.set_getElem_self ..
  rw [this]

theorem GenAt.neL {T : Int → Tok → Prop} {h : Heap} {gs : GenState} {L row : Addr} {is : List Addr} : ∀ {st : GSt}, GenAt T h gs L row is st → st ≠ .over → ∀ b ∈ is, b ≠ L
  | .at _ none, ⟨_, e, _⟩, _, b, hb => by rw [e] at hb; cases hb
  | .at _ (some _), ⟨I, _, _, _, _, e, _, _, _, _, hI, _⟩, _, b, hb => by rw [e, List.mem_singleton] at hb; rw [hb]; exact hI
  | .rep _, ⟨_, _, _, _, _, _, e, _⟩, _, b, hb => by rw [e] at hb; cases hb
  | .over, _, h, _, _ => absurd rfl h
theorem GenAt.fields {T : Int → Tok → Prop} {h : Heap} {gs : GenState} {L row : Addr} {is : List Addr} : ∀ {st : GSt}, GenAt T h gs L row is st → st ≠ .over → ∀ b ∈ is, ∃ o vs, h.get? b = some o ∧ o.data = .fields vs ∧ o.cls = .type "list_iterator"
  | .at _ none, ⟨_, e, _⟩, _, b, hb => by rw [e] at hb; cases hb
  | .at _ (some _), ⟨I, _, _, _, _, e, _, _, _, ⟨o, ho, hc, hd⟩, _⟩, _, b, hb => by rw [e, List.mem_singleton] at hb; rw [hb]; exact ⟨o, _, ho, hd, hc⟩
  | .rep _, ⟨_, _, _, _, _, _, e, _⟩, _, b, hb => by rw [e] at hb; cases hb
  | .over, _, h, _, _ => absurd rfl h

/-- a walk, ready to be woken -/
structure Rd (T : Int → Tok → Prop) (mg mb : Str → Option Value) (A : Around) (base : Heap) (outer : List Env) (s : Shared) (a : Addr) (g : Nat) (L row : Addr) (is : List Addr) (xs : List Int) (st : GSt) : Prop where
  cx : Cx A base outer s.heap a L is
  b : Base mg mb s.heap
  w : Wk T s a g L row is xs st
  live : st ≠ .over
  bare : ∃ gs, s.gens[g]? = some gs ∧ gs.bare = true

theorem gstep_yield_live {xs : List Int} : ∀ {st : GSt} {v : Int} {st' : GSt}, gstep xs st = (.yield v, st') → st' ≠ .over
  | .at p l, v, st', h => by
    simp only [gstep] at h
    split at h
    · cases h
    · split at h
      · cases h
      · split at h
        · split at h
          · cases h
          · cases h; exact nofun
        · cases h; exact nofun
  | .rep _, _, _, h => by cases h; exact nofun
  | .over, _, _, h => by cases h

section
variable {prog : Program} {w : World} {A : Around} {s : Shared} {mg mb : Str → Option Value} {E : Value → Shared → Prop}

theorem Rd.moved {T : Int → Tok → Prop} {base : Heap} {outer : List Env} {a L row : Addr} {g : Nat} {is is' : List Addr} {st st' : GSt} {xs : List Int} {gs' : GenState} {h' : Heap} {tk : Nat} (R : Rd T mg mb A base outer s a g L row is xs st)
    (hG : GenAt T h' gs' L row is' st') (hst' : st' ≠ .over) (k : KB (L :: is) s.heap h') (hb : gs'.bare = true) (his : ∀ b ∈ is', b ∈ is ∨ s.heap.get? b = none) :
    Rd T mg mb A base outer { s with heap := h', toks := tk, gens := s.gens.setIfInBounds g gs' } a g L row is' xs st' := by
  obtain ⟨gs, hgs, hG₀⟩ := R.w.gs
  have hfld := hG₀.fields R.live
  obtain ⟨m, hn⟩ := hG₀.ns R.live
  obtain ⟨m', hn'⟩ := hG.ns hst'
  have hlow : ∀ {x : Addr}, (∀ b ∈ L :: is, b ≠ x) → x ∉ L :: is := fun hx q => hx _ q rfl
  have ha : a ∉ L :: is := by
    obtain ⟨o, nm, qn, ho, hc, hd, _⟩ := R.w.obj
    intro q
    rcases List.mem_cons.mp q with e | q
    · obtain ⟨oL, es, ep, hoL, hdL, _⟩ := hn
      rw [e, hoL] at ho; cases ho; rw [hdL] at hd; cases hd
    · obtain ⟨oi, vs, hoi, _, hci⟩ := hfld a q
      rw [ho] at hoi; cases hoi; rw [hc] at hci; exact absurd hci (by decide)
  have hrow : row ∉ L :: is := hlow fun b hb => (R.w.low b hb).2
  have hlow' : ∀ b ∈ L :: is', b ∉ lowA ∧ b ≠ row := fun b hb => by
    rcases List.mem_cons.mp hb with e | hb
    · rw [e]; exact R.w.low L (.head _)
    · rcases his b hb with q | q
      · exact R.w.low b (.tail _ q)
      · have dead : ∀ {x : Addr} {o : Obj}, s.heap.get? x = some o → b ≠ x := fun hx e => by rw [← e, q] at hx; cases hx
        obtain ⟨_, ⟨_, hr, _⟩, _⟩ := R.w.row
        exact ⟨fun hl => let ⟨_, ho⟩ := R.b.alive b hl; dead ho rfl, dead hr⟩
  refine ⟨⟨R.cx.handled, R.cx.frames, R.cx.depth, fun b hb => ?_, fun b o hb => ?_, ?_, ?_, R.cx.offL⟩, R.b.kb k (fun b hb => (R.w.low b hb).1), ⟨?_, ⟨gs', ?_, hG⟩, hlow', ?_⟩, hst', ⟨gs', ?_, hb⟩⟩
  · rcases List.mem_cons.mp hb with e | hb
    · rw [e]; exact R.cx.free L (.head _)
    · rcases his b hb with q | q
      · exact R.cx.free b (.tail _ q)
      · cases e : base.get? b with
        | none => rfl
        | some o => have := R.cx.stays b o e; rw [q] at this; cases this
  · exact k b o (fun q => by rw [R.cx.free b q] at hb; cases hb) (R.cx.stays b o hb)
  · have gen : ∀ {l : List Env}, s.heap.FunFrames base l → h'.FunFrames base l := by
      intro l
      induction l with
      | nil => exact fun _ => trivial
      | cons env rest ih =>
        rintro ⟨hk, ⟨b, o, hf, hb, ho, hd⟩, hr⟩
        refine ⟨hk, ?_, ih hr⟩
        by_cases e : b = L
        · subst e
          obtain ⟨o', es, ep, ho', hd', _⟩ := hn'
          exact ⟨b, o', hf, hb, ho', fun vs q => by rw [hd'] at q; cases q⟩
        · refine ⟨b, o, hf, hb, k b o (fun q => ?_) ho, hd⟩
          rcases List.mem_cons.mp q with q | q
          · exact e q
          · obtain ⟨oi, vs, hoi, hdi, _⟩ := hfld b q
            rw [ho] at hoi; cases hoi; exact hd vs hdi
    exact gen R.cx.funs
  · obtain ⟨o, nm, qn, ho, _⟩ := R.w.obj
    show base.get? a = h'.get? a
    rw [R.cx.gen, k a o ha ho, ho]
  · obtain ⟨o, nm, qn, ho, r⟩ := R.w.obj
    exact ⟨o, nm, qn, k a o ha ho, r⟩
  · have := setGen_self (s := s) (x := gs') hgs
    exact this
  · obtain ⟨vs, ⟨o, ho, r⟩, hI⟩ := R.w.row
    exact ⟨vs, ⟨o, k row o hrow ho, r⟩, hI⟩
  · have := setGen_self (s := s) (x := gs') hgs
    exact this

theorem Rd.next {T : Int → Tok → Prop} {base : Heap} {outer : List Env} {a L row : Addr} {g : Nat} {is : List Addr} {st : GSt} {xs : List Int} {Q : Option Value → Shared → Prop} (R : Rd T mg mb A base outer s a g L row is xs st)
    (hY : ∀ v st' is' s' t, gstep xs st = (.yield v, st') → T v t → Rd T mg mb A base outer s' a g L row is' xs st' → Ch g L is s s' is' → Q (some (.int v t)) s')
    (hS : ∀ s', gstep xs st = (.stop, .over) → s'.gens[g]? = some .finished → Ch g L is s s' [] → Q none s')
    (hR : ∀ h' tk e t u, gstep xs st = (.raise, .over) → Heap.FlyingW base outer e (.type "ValueError") (.ref t) h' → h'.TupAt t [.str "invalid grouping" u] → Slots L s.heap h' → E (.ref e) { s with heap := h', toks := tk, gens := s.gens.setIfInBounds g .finished }) :
    wpAny (model prog w) A (pyNext (.ref a)) Q E s := by
  refine py_next R.cx R.b R.w R.live (fun v st' gs' is' h' tk t hs hTv hG k hb his => ?_) (fun h' tk hs k => ?_) hR
  · have hl := gstep_yield_live hs
    exact hY v st' is' _ t hs hTv (R.moved hG hl k hb his) ⟨⟨gs', hb, rfl⟩, k, fun b q => ⟨hG.neL hl b q, his b q⟩⟩
  · obtain ⟨gs, hgs, _⟩ := R.bare
    exact hS _ hs (setGen_self (s := s) (x := .finished) hgs) ⟨⟨.finished, rfl, rfl⟩, k, fun _ q => nomatch q⟩
end

/-- the walk tells these sizes, one by one -/
inductive Ys (xs : List Int) : GSt → List Int → GSt → Prop
  | nil {st : GSt} : Ys xs st [] st
  | cons {st st₁ st' : GSt} {v : Int} {vs : List Int} : gstep xs st = (.yield v, st₁) → Ys xs st₁ vs st' → Ys xs st (v :: vs) st'

theorem Cx.in1 {A : Around} {base : Heap} {outer : List Env} {h : Heap} {a L : Addr} {is : List Addr} (C : Cx A base outer h a L is) : Cx A.in1 base outer h a L is :=
  ⟨C.handled, C.frames, C.depth, C.free, C.stays, C.funs, C.gen, C.offL⟩
theorem Rd.in1 {T : Int → Tok → Prop} {mg mb : Str → Option Value} {A : Around} {base : Heap} {outer : List Env} {s : Shared} {a : Addr} {g : Nat} {L row : Addr} {is : List Addr} {xs : List Int} {st : GSt} (R : Rd T mg mb A base outer s a g L row is xs st) : Rd T mg mb A.in1 base outer s a g L row is xs st :=
  ⟨R.cx.in1, R.b, R.w, R.live, R.bare⟩
theorem Rd.out1 {T : Int → Tok → Prop} {mg mb : Str → Option Value} {A : Around} {base : Heap} {outer : List Env} {s : Shared} {a : Addr} {g : Nat} {L row : Addr} {is : List Addr} {xs : List Int} {st : GSt} (R : Rd T mg mb A.in1 base outer s a g L row is xs st) : Rd T mg mb A base outer s a g L row is xs st :=
  ⟨⟨R.cx.handled, R.cx.frames, R.cx.depth, R.cx.free, R.cx.stays, R.cx.funs, R.cx.gen, R.cx.offL⟩, R.b, R.w, R.live, R.bare⟩
theorem Rd.neL {T : Int → Tok → Prop} {mg mb : Str → Option Value} {A : Around} {base : Heap} {outer : List Env} {s : Shared} {a : Addr} {g : Nat} {L row : Addr} {is : List Addr} {xs : List Int} {st : GSt} (R : Rd T mg mb A base outer s a g L row is xs st) : ∀ b ∈ is, b ≠ L :=
  let ⟨_, _, hG⟩ := R.w.gs; hG.neL R.live
theorem Rd.ch {T : Int → Tok → Prop} {mg mb : Str → Option Value} {A : Around} {base : Heap} {outer : List Env} {s : Shared} {a : Addr} {g : Nat} {L row : Addr} {is : List Addr} {xs : List Int} {st : GSt} (R : Rd T mg mb A base outer s a g L row is xs st) : Ch g L is s s is :=
  let ⟨_, h, b⟩ := R.bare; Ch.refl h b R.neL

theorem entry_contains : entryFor table "proto.contains_iter" = some Builtin.«proto.contains_iter» := entryFor_of_tree (by kernel_rfl)
theorem plain_contains : plainId "proto.contains_iter" = true := by decide +kernel
theorem gen_no_contains : typeLookup (.type "generator") "__contains__" = pure none := by rw [typeLookup_type, builtinLookup_eq_fast]; kernel_rfl

section
variable {prog : Program} {w : World} {A : Around} {s : Shared} {mg mb : Str → Option Value} {E : Value → Shared → Prop}

theorem code_builtin {id : String} {args : Args} {b : Builtin} {R : Result → Shared → Prop} (hp : plainId id = true) (hb : entryFor table id = some b)
    (h : wpAny (model prog w) A.in1 (b args) (fun fin s' => match fin with | .done f => R (.ok f) s' | .again c' => c'.quiet = true ∧ codeAny (model prog w) A c' R s') (fun e s' => R (.error e) s') s) :
    codeAny (model prog w) A (.builtin id args) R s := by
  refine codeAny_of_tree ?_
  rw [Around.under_plainId hp]
  show wpAny _ _ (match entryFor table id with | some b => b args | none => unsupported ((withoutEnding? id "#data").getD id)) _ _ s
  rw [hb]; exact h

/-- the loop of «in» -/
theorem contains_loop {T : Int → Tok → Prop} {base : Heap} {outer : List Env} {a L row : Addr} {g : Nat} {xs : List Int} {x : Int} {t : Tok} {R : Result → Shared → Prop} :
    ∀ (ys : List Int) {s : Shared} {is : List Addr} {st st' : GSt}, Rd T mg mb A base outer s a g L row is xs st → Ys xs st ys st' →
      (∀ y ∈ ys.dropLast, y ≠ x) →
      ((∃ y, ys.getLast? = some y ∧ y = x ∧ ∀ is' s', Rd T mg mb A base outer s' a g L row is' xs st' → Ch g L is s s' is' → R (.ok (.ret (.bool true))) s') ∨
       ((∀ y ∈ ys, y ≠ x) ∧ gstep xs st' = (.stop, .over) ∧ ∀ s', s'.gens[g]? = some .finished → Ch g L is s s' [] → R (.ok (.ret (.bool false))) s')) →
      codeAny (model prog w) A (.builtin "proto.contains_iter" ⟨[.ref a, .int x t], []⟩) R s := by
  intro ys
  induction ys with
  | nil =>
    intro s is st st' hR hY _ hc
    cases hY
    rcases hc with ⟨y, hy, _⟩ | ⟨_, hs, hQ⟩
    · cases hy
    refine code_builtin plain_contains entry_contains ?_
    show wpAny _ _ (pyNext (.ref a) >>= _) _ _ _
    refine wpAny_bind (hR.in1.next (fun v st' is' s' t hy => ?_) (fun s' _ hf hch => ?_) (fun h' tk e t u hr => ?_))
    · rw [hs] at hy; cases hy
    · exact wpAny_bind (wpAny_rule (wpAny_pure (hQ s' hf hch)))
    · rw [hs] at hr; cases hr
  | cons v vs ih =>
    intro s is st st' hR hY hd hc
    cases hY with
    | cons hst hY =>
    rename_i st₁
    refine code_builtin plain_contains entry_contains ?_
    show wpAny _ _ (pyNext (.ref a) >>= _) _ _ _
    refine wpAny_bind (hR.in1.next (fun v' st'' is' s' t' hy _ hR' hch => ?_) (fun s' hs' => ?_) (fun h' tk e t u hr => ?_))
    · rw [hst] at hy; cases hy
      refine wpAny_bind (wpAny_eqBool_int ?_)
      by_cases hvx : v = x
      · rw [if_pos (by simp [hvx])]
        refine wpAny_bind (wpAny_rule (wpAny_pure ?_))
        have hvs : vs = [] := by
          cases vs with
          | nil => rfl
          | cons z zs => exact absurd hvx (hd v (by simp [List.dropLast]))
        subst hvs
        cases hY
        rcases hc with ⟨y, _, _, hQ⟩ | ⟨hne, _⟩
        · exact hQ is' s' hR'.out1 hch
        · exact absurd hvx (hne v (.head _))
      · rw [if_neg (by simp [hvx])]
        refine wpAny_pure ⟨plainId_quiet plain_contains _, ?_⟩
        refine ih hR'.out1 hY ?_ ?_
        · cases vs with
          | nil => intro y hy; cases hy
          | cons z zs => intro y hy; exact hd y (by simp only [List.dropLast_cons₂]; exact .tail _ hy)
        · rcases hc with ⟨y, hl, hyx, hQ⟩ | ⟨hne, hs, hQ⟩
          · left
            cases vs with
            | nil => simp only [List.getLast?_singleton, Option.some.injEq] at hl; exact absurd (hl.trans hyx) hvx
            | cons z zs => exact ⟨y, by simpa only [List.getLast?_cons_cons] using hl, hyx, fun is₂ s₂ h₂ c₂ => hQ is₂ s₂ h₂ (hch.trans c₂)⟩
          · exact .inr ⟨fun y hy => hne y (.tail _ hy), hs, fun s₂ h₂ c₂ => hQ s₂ h₂ (hch.trans c₂)⟩
    · rw [hst] at hs'; cases hs'
    · rw [hst] at hr; cases hr

theorem contains_raise {T : Int → Tok → Prop} {base : Heap} {outer : List Env} {a L row : Addr} {g : Nat} {xs : List Int} {x : Int} {t : Tok} {R : Result → Shared → Prop} {is : List Addr} {st : GSt} (hR : Rd T mg mb A base outer s a g L row is xs st) (hs : gstep xs st = (.raise, .over))
    (hE : ∀ h' tk e t u, Heap.FlyingW base outer e (.type "ValueError") (.ref t) h' → h'.TupAt t [.str "invalid grouping" u] → Slots L s.heap h' → R (.error (.ref e)) { s with heap := h', toks := tk, gens := s.gens.setIfInBounds g .finished }) :
    codeAny (model prog w) A (.builtin "proto.contains_iter" ⟨[.ref a, .int x t], []⟩) R s := by
  refine code_builtin plain_contains entry_contains ?_
  show wpAny _ _ (pyNext (.ref a) >>= _) _ _ _
  refine wpAny_bind (hR.in1.next (fun v st' is' s' t hy => ?_) (fun s' h => ?_) (fun h' tk e t u _ fl tu up => hE h' tk e t u fl tu up))
  · rw [hs] at hy; cases hy
  · rw [hs] at h; cases h

/-- «thing in walk» -/
theorem in_gen {a : Addr} {g : Nat} {x : Value} {Q : Value → Shared → Prop} (hg : s.heap.IsGen a g)
    (h : codeAny (model prog w) A (.builtin "proto.contains_iter" ⟨[.ref a, x], []⟩) (fun r s' => match r with | .ok (.ret v) => ∃ b, v = .bool b ∧ Q (.bool b) s' | .ok _ => False | .error e => E e s') s) :
    wpAny (model prog w) A (compareOp .In x (.ref a)) Q E s := by
  show wpAny _ _ (contains (.ref a) x >>= fun b => pure (Value.bool b)) _ _ _
  refine wpAny_bind ?_
  unfold contains
  refine wpAny_holding ?_
  rw [show stdlibNamesSay? (.ref a) x = none from by cases x <;> rfl]
  refine wpAny_bind (wpAny_specialOf hg.typeIs gen_no_contains ?_)
  show wpAny _ A (if (none == some Value.none) = true then _ else _) _ _ s
  rw [if_neg (by decide)]
  refine wpAny_bind (wpAny_callSpecialUnlessNone?_none hg.typeIs gen_no_contains ?_)
  refine wpAny_bind (wpAny_rule (wpAny_bind (wpAny_tryCatch (wpAny_pyIter_gen hg ?_))))
  refine wpAny_bind (wpAny_runValue (codeAny_mono h fun r s' hr => ?_))
  cases r with
  | error e => exact hr
  | ok f =>
    cases f with
    | ret v => obtain ⟨b, rfl, hq⟩ := hr; exact wpAny_pure (wpAny_pure hq)
    | _ => exact hr
end

def fEnv (i : Nat) (L f c : Addr) : Env := envOf (defName (topStmt i)) (defScope (topStmt i)) L f (.ref c)

section
variable {prog : Program} {w : World} {A : Around} {s : Shared} {mg mb : Str → Option Value} {E : Value → Shared → Prop} {T : Int → Tok → Prop}

theorem callFn {i : Nat} {f c : Addr} {args : List Value} {binds : List (Str × Value)} {Q : Value → Shared → Prop} (hF : Fn mg s.heap i f c) (hroom : A.depth < recursionLimit) (hlim : s.heap.NoLimit)
    (hbind : ∀ pm doc, bindArgs (docDef (defName (topStmt i)) (defArgs (topStmt i)) (defBody (topStmt i)) (defScope (topStmt i)) pm (.ref c) doc) ⟨args, []⟩ = pure binds)
    (hloc : ∀ x ∈ binds, (defScope (topStmt i)).names.lookup x.1 = some .local)
    (h : ∀ h₁, Fr s.heap s.heap.objs.size h₁ (fun x => binds.reverse.lookup x) →
      wpAny (model prog w) (A.deeper (fEnv i s.heap.objs.size f c)) (execs (defBody (topStmt i)) (fEnv i s.heap.objs.size f c))
        (fun fl s' => Q (match fl with | .ret v => v | _ => .none) s')
        (fun e s' => wpAny (model prog w) (A.deeper (fEnv i s.heap.objs.size f c)) (leaving (fEnv i s.heap.objs.size f c) e) (fun _ s'' => E e s'') (fun e' s'' => E e' s'') s')
        { s with heap := h₁, toks := s.toks + binds.length })
    (hco : (defScope (topStmt i)).isCoroutine = false := by rfl) (hgen : (defScope (topStmt i)).isGenerator = false := by rfl) (hk : (defScope (topStmt i)).kind = .function := by rfl)
    (hcell : ∀ x ∈ (defScope (topStmt i)).names, x.2 ≠ .cell := by decide) : wpAny (model prog w) A (call (.ref f) args) Q E s := by
  obtain ⟨o, pm, doc, ho, hd⟩ := hF.obj
  exact wpAny_call (call_plain (R := fun r s' => match r with | .ok (.ret v) => Q v s' | .ok _ => False | .error e => E e s') hroom ho hd hlim hF.code (hbind pm doc) hloc h hco hgen hk hcell)

theorem Rd.enter {base : Heap} {outer : List Env} {a L row : Addr} {g : Nat} {is : List Addr} {st : GSt} {xs : List Int} {env : Env} {h₁ : Heap} {m : Str → Option Value} {tk : Nat} (R : Rd T mg mb A base outer s a g L row is xs st)
    (F : Fr s.heap s.heap.objs.size h₁ m) (hf : env.frame = some s.heap.objs.size) (hk : env.scope.kind ≠ .module) (hd : A.depth + 1 < recursionLimit) :
    Rd T mg mb (A.deeper env) base (env :: outer) { s with heap := h₁, toks := tk } a g L row is xs st := by
  have keep := F.keep
  obtain ⟨gs, hgs, hG⟩ := R.w.gs
  have offL : ∀ e ∈ env :: outer, e.frame ≠ some L := fun e he => by
    rcases List.mem_cons.mp he with q | q
    · rw [q, hf]
      obtain ⟨_, o, _, _, ho, _⟩ := hG.ns R.live
      intro z
      exact absurd (Heap.lt_size ho) (by rw [← Option.some.inj z]; exact Nat.lt_irrefl _)
    · exact R.cx.offL e q
  obtain ⟨o, nm, qn, ho, r⟩ := R.w.obj
  refine ⟨⟨R.cx.handled, Around.frames_deeper R.cx.frames, hd, R.cx.free, fun b o hb => keep b o (R.cx.stays b o hb), ?_, ?_, offL⟩, R.b.keeps keep, ⟨⟨o, nm, qn, keep _ _ ho, r⟩, ⟨gs, hgs, hG.keep fun b _ o e => keep b o e⟩, R.w.low, ?_⟩, R.live, R.bare⟩
  · refine Heap.FunFrames.cons hk hf F.ns ?_ (R.cx.funs.of_keeps fun b o hb _ => ⟨o, keep b o hb, rfl⟩)
    cases e : base.get? s.heap.objs.size with
    | none => rfl
    | some o => exact absurd (Heap.lt_size (R.cx.stays _ _ e)) (Nat.lt_irrefl _)
  · show base.get? a = h₁.get? a
    rw [R.cx.gen, ho, keep _ _ ho]
  · obtain ⟨vs, ⟨o, ho, r⟩, hI⟩ := R.w.row
    exact ⟨vs, ⟨o, keep _ _ ho, r⟩, hI⟩

theorem Rd.leave {base : Heap} {outer : List Env} {a L row : Addr} {g : Nat} {is : List Addr} {st : GSt} {xs : List Int} {env : Env} (R : Rd T mg mb (A.deeper env) base (env :: outer) s a g L row is xs st) (hfr : A.frames = some outer) :
    Rd T mg mb A base outer s a g L row is xs st :=
  ⟨⟨R.cx.handled, hfr, Nat.lt_of_succ_lt R.cx.depth, R.cx.free, R.cx.stays, R.cx.funs.2.2, R.cx.gen, fun e he => R.cx.offL e (.tail _ he)⟩, R.b, R.w, R.live, R.bare⟩

/-- a def that holds a walk: its frame, and what has changed since its caller's state -/
structure Fw (T : Int → Tok → Prop) (mg mb : Str → Option Value) (A : Around) (base : Heap) (outer : List Env) (s₀ s : Shared) (a : Addr) (g : Nat) (L row : Addr) (is₀ is : List Addr) (xs : List Int) (st : GSt) (F : Addr) (m : Str → Option Value) : Prop where
  rd : Rd T mg mb A base outer s a g L row is xs st
  ch : Ch g L is₀ s₀ s is
  ns : s.heap.Ns F m
  dead : s₀.heap.get? F = none
  off : F ∉ L :: is
  bare : base.get? F = none
  low : F ∉ lowA ∧ F ≠ a ∧ F ≠ row

theorem Fw.start {base : Heap} {outer : List Env} {a L row : Addr} {g : Nat} {is : List Addr} {st : GSt} {xs : List Int} {env : Env} {h₁ : Heap} {m : Str → Option Value} {tk : Nat} (R : Rd T mg mb A base outer s a g L row is xs st)
    (F : Fr s.heap s.heap.objs.size h₁ m) (hf : env.frame = some s.heap.objs.size) (hk : env.scope.kind ≠ .module) (hd : A.depth + 1 < recursionLimit) :
    Fw T mg mb (A.deeper env) base (env :: outer) s { s with heap := h₁, toks := tk } a g L row is is xs st s.heap.objs.size m := by
  have ne : ∀ {x : Addr} {o : Obj}, s.heap.get? x = some o → s.heap.objs.size ≠ x := fun hx => Nat.ne_of_gt (Heap.lt_size hx)
  obtain ⟨gs, hgs, hb⟩ := R.bare
  refine ⟨R.enter F hf hk hd, ⟨⟨gs, hb, ?_⟩, fun b o _ e => F.keep b o e, fun b q => ⟨R.neL b q, .inl q⟩⟩, F.ns, get?_size _, fun q => ?_, ?_, ?_, ?_, ?_⟩
  · obtain ⟨⟨gs', _, e⟩, _, _⟩ := Ch.refl (L := L) (is := is) hgs hb R.neL
    have : s.gens.setIfInBounds g gs = s.gens := by
      apply Array.ext'
      obtain ⟨hlt, e⟩ := Array.getElem?_eq_some_iff.mp hgs
      simp only [Array.toList_setIfInBounds]
      rw [← e]; exact List.set_getElem_self ..
    rw [this]
  · obtain ⟨gs, _, hG⟩ := R.w.gs
    rcases List.mem_cons.mp q with e | q
    · obtain ⟨m, o, _, _, ho, _⟩ := hG.ns R.live
      exact ne ho e
    · obtain ⟨o, _, ho, _⟩ := hG.fields R.live _ q
      exact ne ho rfl
  · cases e : base.get? s.heap.objs.size with
    | none => rfl
    | some o => exact absurd (Heap.lt_size (R.cx.stays _ _ e)) (Nat.lt_irrefl _)
  · intro q; obtain ⟨o, ho⟩ := R.b.alive _ q; exact ne ho rfl
  · obtain ⟨o, _, _, ho, _⟩ := R.w.obj; exact ne ho
  · obtain ⟨_, ⟨o, ho, _⟩, _⟩ := R.w.row; exact ne ho

theorem Fw.set {base : Heap} {outer : List Env} {s₀ : Shared} {a L row F : Addr} {g : Nat} {is₀ is : List Addr} {st : GSt} {xs : List Int} {h' : Heap} {m m' : Str → Option Value} {tk : Nat} (W : Fw T mg mb A base outer s₀ s a g L row is₀ is xs st F m)
    (hn : h'.Ns F m') (k : KB [F] s.heap h') : Fw T mg mb A base outer s₀ { s with heap := h', toks := tk } a g L row is₀ is xs st F m' := by
  have kp : ∀ {b : Addr} {o : Obj}, b ≠ F → s.heap.get? b = some o → h'.get? b = some o := fun hb e => k _ _ (fun q => hb (List.mem_singleton.mp q)) e
  obtain ⟨gs, hgs, hG⟩ := W.rd.w.gs
  obtain ⟨o, nm, qn, ho, r⟩ := W.rd.w.obj
  have R := W.rd
  refine ⟨⟨⟨R.cx.handled, R.cx.frames, R.cx.depth, R.cx.free, fun b o hb => kp (fun q => by rw [q, W.bare] at hb; cases hb) (R.cx.stays b o hb), ?_, ?_, R.cx.offL⟩, R.b.kb k (fun b q => by rw [List.mem_singleton.mp q]; exact W.low.1), ⟨⟨o, nm, qn, kp (Ne.symm W.low.2.1) ho, r⟩, ⟨gs, hgs, hG.keep fun b q o e => kp (fun z => W.off (z ▸ q)) e⟩, R.w.low, ?_⟩, R.live, R.bare⟩, ⟨?_, ?_, W.ch.new⟩, hn, W.dead, W.off, W.bare, W.low⟩
  · have gen : ∀ {l : List Env}, s.heap.FunFrames base l → h'.FunFrames base l := by
      intro l
      induction l with
      | nil => exact fun _ => trivial
      | cons env rest ih =>
        rintro ⟨hk, ⟨b, o, hf, hb, ho, hd⟩, hr⟩
        refine ⟨hk, ?_, ih hr⟩
        by_cases e : b = F
        · subst e
          obtain ⟨o', es, ep, ho', hd', _⟩ := hn
          exact ⟨b, o', hf, hb, ho', fun vs q => by rw [hd'] at q; cases q⟩
        · exact ⟨b, o, hf, hb, kp e ho, hd⟩
    exact gen R.cx.funs
  · show base.get? a = h'.get? a
    rw [R.cx.gen, ho, kp (Ne.symm W.low.2.1) ho]
  · obtain ⟨vs, ⟨o, ho, r⟩, hI⟩ := R.w.row
    exact ⟨vs, ⟨o, kp (Ne.symm W.low.2.2) ho, r⟩, hI⟩
  · obtain ⟨gs', hb, e⟩ := W.ch.eq
    exact ⟨gs', hb, by rw [e]⟩
  · intro b o hb e
    exact kp (fun q => by rw [q, W.dead] at e; cases e) (W.ch.keep b o hb e)

theorem Fw.grow {base : Heap} {outer : List Env} {s₀ : Shared} {a L row F : Addr} {g : Nat} {is₀ is : List Addr} {st : GSt} {xs : List Int} {h' : Heap} {m : Str → Option Value} {tk : Nat} (W : Fw T mg mb A base outer s₀ s a g L row is₀ is xs st F m)
    (k : ∀ b o, s.heap.get? b = some o → h'.get? b = some o) : Fw T mg mb A base outer s₀ { s with heap := h', toks := tk } a g L row is₀ is xs st F m :=
  W.set (W.ns.keeps k) fun b o _ e => k b o e
theorem Fw.toks {base : Heap} {outer : List Env} {s₀ : Shared} {a L row F : Addr} {g : Nat} {is₀ is : List Addr} {st : GSt} {xs : List Int} {m : Str → Option Value} {tk : Nat} (W : Fw T mg mb A base outer s₀ s a g L row is₀ is xs st F m) :
    Fw T mg mb A base outer s₀ { s with toks := tk } a g L row is₀ is xs st F m := W.grow fun _ _ e => e

/-- a step of the walk within the def -/
theorem Fw.next {base : Heap} {outer : List Env} {s₀ : Shared} {a L row F : Addr} {g : Nat} {is₀ is : List Addr} {st : GSt} {xs : List Int} {m : Str → Option Value} {Q : Option Value → Shared → Prop} (W : Fw T mg mb A base outer s₀ s a g L row is₀ is xs st F m)
    (hY : ∀ v st' is' s' t, gstep xs st = (.yield v, st') → T v t → Fw T mg mb A base outer s₀ s' a g L row is₀ is' xs st' F m → Q (some (.int v t)) s')
    (hS : ∀ s', gstep xs st = (.stop, .over) → s'.gens[g]? = some .finished → Ch g L is₀ s₀ s' [] → s'.heap.Ns F m → KB (L :: is) s.heap s'.heap → Q none s')
    (hR : ∀ h' tk e t u, gstep xs st = (.raise, .over) → Heap.FlyingW base outer e (.type "ValueError") (.ref t) h' → h'.TupAt t [.str "invalid grouping" u] → Slots L s.heap h' → E (.ref e) { s with heap := h', toks := tk, gens := s.gens.setIfInBounds g .finished }) :
    wpAny (model prog w) A (pyNext (.ref a)) Q E s := by
  refine W.rd.next (fun v st' is' s' t hs hT R ch => ?_) (fun s' hs hf ch => ?_) hR
  · refine hY v st' is' s' t hs hT ⟨R, W.ch.trans ch, ?_, W.dead, fun q => ?_, W.bare, W.low⟩
    · exact W.ns.at' fun o e => ch.keep F o W.off e
    · rcases List.mem_cons.mp q with q | q
      · exact W.off (by rw [q]; exact .head _)
      · rcases (ch.new F q).2 with z | z
        · exact W.off (.tail _ z)
        · obtain ⟨o, _, _, ho, _⟩ := W.ns
          rw [z] at ho; cases ho
  · exact hS s' hs hf (W.ch.trans ch) (W.ns.at' fun o e => ch.keep F o W.off e) ch.keep
end

/-- a ValueError is under way, the walk is over -/
structure Rz (base : Heap) (outer : List Env) (L : Addr) (g : Nat) (msg : Str) (s s' : Shared) (e : Addr) : Prop where
  fly : ∃ t u, Heap.FlyingW base outer e (.type "ValueError") (.ref t) s'.heap ∧ s'.heap.TupAt t [.str msg u]
  slots : Slots L s.heap s'.heap
  eq : s' = { s with heap := s'.heap, toks := s'.toks, gens := s.gens.setIfInBounds g .finished }

theorem Slots.before {L : Addr} {h₀ h h' : Heap} (x : Slots L h h') (k : ∀ b o, b ≠ L → h₀.get? b = some o → (∀ vs, o.data ≠ .fields vs) → h.get? b = some o) : Slots L h₀ h' := fun b o hb e hd => x b o hb (k b o hb e hd) hd
theorem Slots.after {L : Addr} {h h' h'' : Heap} (x : Slots L h h') (u : h'.UpToSlots h'') : Slots L h h'' := fun b o hb e hd =>
  let ⟨_, e₁⟩ := x b o hb e hd; let ⟨sl, e₂⟩ := u b _ e₁ hd; ⟨sl, e₂⟩

section
variable {prog : Program} {w : World} {A : Around} {s : Shared} {mg mb : Str → Option Value} {E : Value → Shared → Prop} {T : Int → Tok → Prop}

/-- an exception under way leaves a def -/
theorem Rz.leave {base : Heap} {outer : List Env} {L F e : Addr} {g : Nat} {msg : Str} {env : Env} {s' : Shared} (hfr : A.frames = some outer) (hf : env.frame = some F) (x : Rz base (env :: outer) L g msg s s' e)
    (h : ∀ s'', Rz base outer L g msg s s'' e → E (.ref e) s'') {E' : Value → Shared → Prop} : wpAny (model prog w) (A.deeper env) (leaving env (.ref e)) (fun _ s'' => E (.ref e) s'') E' s' := by
  obtain ⟨⟨t, u, fl, tu⟩, sl, eq⟩ := x
  refine wpAny_leaves_onW (Around.frames_deeper hfr) hf fl fun h' fl' up => h _ ⟨⟨t, u, fl', Heap.TupAt.of_slots tu up⟩, sl.after up, ?_⟩
  rw [eq]

theorem fn_contains {base : Heap} {outer : List Env} {a L row : Addr} {g : Nat} {is : List Addr} {st st' : GSt} {xs : List Int} {x : Int} {t : Tok} {Q : Value → Shared → Prop} (R : Rd T mg mb A base outer s a g L row is xs st) (hd : A.depth + 1 < recursionLimit) (ys : List Int)
    (hc : (Ys xs st ys st' ∧ (∀ y ∈ ys.dropLast, y ≠ x) ∧
        ((∃ y, ys.getLast? = some y ∧ y = x ∧ ∀ is' s', Rd T mg mb A base outer s' a g L row is' xs st' → Ch g L is s s' is' → Q (.bool true) s') ∨
         ((∀ y ∈ ys, y ≠ x) ∧ gstep xs st' = (.stop, .over) ∧ ∀ s', s'.gens[g]? = some .finished → Ch g L is s s' [] → Q (.bool false) s'))) ∨
      (gstep xs st = (.raise, .over) ∧ ∀ s' e, Rz base outer L g "invalid grouping" s s' e → E (.ref e) s')) :
    wpAny (model prog w) A (call (.ref 28) [.ref a, .int x t]) Q E s := by
  refine callFn (i := 4) (R.b.fns (4, 28, 27) (by decide)) R.cx.depth R.b.nolimit (binds := [("a", .ref a), ("b", .int x t)]) (fun _ _ => rfl) (locs rfl) fun h₁ F => ?_
  have W := Fw.start (env := fEnv 4 s.heap.objs.size 28 27) (tk := s.toks + 2) R F rfl (by show ScopeKind.function ≠ ScopeKind.module; decide) hd
  show wpAny _ _ (execs [.Return (some (.Compare (.Name "b" _) [.In] [.Name "a" _] _)) _] _) _ _ _
  refine wpAny_execs_cons (wpAny_Return_some (wpAny_Compare1 (ldL (env := fEnv 4 s.heap.objs.size 28 27) F.ns (v := .int x t) rfl (ldL (env := fEnv 4 s.heap.objs.size 28 27) F.ns (v := .ref a) rfl (in_gen W.rd.w.obj ?_)))))
  rcases hc with ⟨hY, hdl, hc⟩ | ⟨hs, hE⟩
  · refine contains_loop ys W.rd hY hdl ?_
    rcases hc with ⟨y, hy, hyx, hQ⟩ | ⟨hne, hs, hQ⟩
    · exact .inl ⟨y, hy, hyx, fun is' s' R' ch => ⟨true, rfl, hQ is' s' (R'.leave R.cx.frames) (W.ch.trans ch)⟩⟩
    · exact .inr ⟨hne, hs, fun s' hf ch => ⟨false, rfl, hQ s' hf (W.ch.trans ch)⟩⟩
  · refine contains_raise W.rd hs fun h' tk e t u fl tu up => ?_
    refine Rz.leave (s := s) (L := L) (g := g) (msg := "invalid grouping") R.cx.frames rfl ⟨⟨t, u, fl, tu⟩, up.before fun b o _ e _ => F.keep b o e, rfl⟩ fun s'' z => hE s'' e z
end

/-- small ints, each with a mark of its own -/
structure TOk (T : Int → Tok → Prop) : Prop where
  nz : ∀ {p t}, T p t → t ≠ 0
  small : ∀ {p t}, T p t → smallInt p = true
  inj : ∀ {p q t}, T p t → T q t → p = q

section
variable {prog : Program} {w : World} {A : Around} {s : Shared} {mg mb : Str → Option Value} {E : Value → Shared → Prop} {T : Int → Tok → Prop}

theorem is_int {p q : Int} {t u : Tok} {Q : Value → Shared → Prop} (K : TOk T) (hp : T p t) (hq : T q u) (h : Q (.bool (p == q)) s) : wpAny (model prog w) A (compareOp .Is (.int p t) (.int q u)) Q E s := by
  show wpAny _ _ (isSame (.int p t) (.int q u) >>= fun b => pure (Value.bool b)) _ _ _
  have nz : (t == 0 || u == 0) = false := by
    have h1 := K.nz hp; have h2 := K.nz hq
    simp only [Bool.or_eq_false_iff, beq_eq_false_iff_ne, ne_eq]; exact ⟨h1, h2⟩
  have e : isSame (.int p t) (.int q u) = (if p == q && smallInt p then isSame.cachedInt t u else isSame.created (p == q) t u) := rfl
  rw [e]
  by_cases hpq : p = q
  · subst hpq
    rw [if_pos (by rw [K.small hp]; simp)]
    unfold isSame.cachedInt
    rw [if_neg (by rw [nz]; exact Bool.false_ne_true)]
    refine wpAny_bind (wpAny_bind (wpAny_rule (wpAny_pure (wpAny_pure ?_))))
    simpa using h
  · have hb : (p == q) = false := beq_eq_false_iff_ne.mpr hpq
    rw [if_neg (by rw [hb]; simp), hb] 
    rw [hb] at h
    unfold isSame.created
    have htu : (t == u) = false := beq_eq_false_iff_ne.mpr fun e => hpq (K.inj hp (e ▸ hq))
    rw [if_neg (by rw [nz]; exact Bool.false_ne_true), if_neg (by rw [htu]; exact Bool.false_ne_true), if_pos (by rfl)]
    exact wpAny_bind (wpAny_pure (wpAny_pure h))

theorem Rd.keepNF {base : Heap} {outer : List Env} {a L row : Addr} {g : Nat} {is : List Addr} {st : GSt} {xs : List Int} {h : Heap} (R : Rd T mg mb A base outer s a g L row is xs st) (k : KB (L :: is) s.heap h) :
    ∀ b o, b ≠ L → s.heap.get? b = some o → (∀ vs, o.data ≠ .fields vs) → h.get? b = some o := fun b o hb e hd => k b o (fun q => by
  rcases List.mem_cons.mp q with q | q
  · exact hb q
  · obtain ⟨_, _, hG⟩ := R.w.gs
    obtain ⟨o', vs, ho', hd', _⟩ := hG.fields R.live b q
    rw [e] at ho'; cases ho'; exact hd vs hd') e

theorem loop_raise {base : Heap} {outer : List Env} {L F e : Addr} {g : Nat} {msg : Str} {env : Env} {s' : Shared} {E₀ E₁ : Value → Shared → Prop} (hfr : A.frames = some (env :: outer)) (hf : env.frame = some F) (x : Rz base (env :: outer) L g msg s s' e)
    (h : ∀ s'', Rz base outer L g msg s s'' e → E₀ (.ref e) s'') :
    notedBy (model prog w) A env (cameBackBy (model prog w) A env (fun e s' => wpAny (model prog w) A (leaving env e) (fun _ s'' => E₀ e s'') E₁ s')) (.ref e) s' := by
  obtain ⟨⟨t, u, fl, tu⟩, sl, eq⟩ := x
  refine wpAny_looks_onW hfr hf fl fun h₁ held up => ?_
  obtain ⟨k1, k2, k3, k4⟩ := held
  refine came_back (L := F) hf k1 k3 k4 fun h₂ j1 j2 j3 j4 => ?_
  have held₂ : Heap.HeldW base (env :: outer) e (.type "ValueError") (.ref t) F h₂ := ⟨j1, k2, j2, j3⟩
  refine leaves_held (L := F) hf held₂ fun h₃ fl₃ up₃ => h _ ⟨⟨t, u, fl₃, ?_⟩, ?_, ?_⟩
  · exact Heap.TupAt.of_slots tu (up.trans ((upTo_of j4).trans up₃))
  · exact sl.after (up.trans ((upTo_of j4).trans up₃))
  · rw [eq]

theorem fn_countOf {base : Heap} {outer : List Env} {a L row : Addr} {g : Nat} {is : List Addr} {st st' : GSt} {xs : List Int} {x : Int} {t : Tok} {Q : Value → Shared → Prop} (K : TOk T) (hx : T x t) (R : Rd T mg mb A base outer s a g L row is xs st) (hd : A.depth + 1 < recursionLimit) (ys : List Int)
    (hc : (Ys xs st ys st' ∧ gstep xs st' = (.stop, .over) ∧ ∀ s' t', s'.gens[g]? = some .finished → Ch g L is s s' [] → Q (.int (ys.count x) t') s') ∨
      (gstep xs st = (.raise, .over) ∧ ∀ s' e, Rz base outer L g "invalid grouping" s s' e → E (.ref e) s')) :
    wpAny (model prog w) A (call (.ref 35) [.ref a, .int x t]) Q E s := by
  refine callFn (i := 5) (R.b.fns (5, 35, 34) (by decide)) R.cx.depth R.b.nolimit (binds := [("a", .ref a), ("b", .int x t)]) (fun _ _ => rfl) (locs rfl) fun h₁ F => ?_
  have W := Fw.start (env := fEnv 5 s.heap.objs.size 35 34) (tk := s.toks + 2) R F rfl (by show ScopeKind.function ≠ ScopeKind.module; decide) hd
  show wpAny _ _ (execs [.Assign [.Name "count" _] (.Constant (.int 0) _ _) _, .For (.Name "i" _) (.Name "a" _) [.If (.BoolOp .Or [.Compare (.Name "i" _) [.Is] [.Name "b" _] _, .Compare (.Name "i" _) [.Eq] [.Name "b" _] _] _) [.AugAssign (.Name "count" _) .Add (.Constant (.int 1) _ _) _] [] _] [] _, .Return (some (.Name "count" _)) _] _) _ _ _
  refine wpAny_execs_cons (wpAny_Assign_Name (wpAny_Constant_int (wpAny_storeName_local rfl (W.toks.ns) fun h₂ hn₂ hs₂ => ?_)))
  have W₂ := (W.toks (tk := s.toks + 2 + 1)).set (tk := s.toks + 2 + 1 + 1) hn₂ (KB.of_same hs₂)
  refine wpAny_execs_cons (wpAny_For (ldL (env := fEnv 5 s.heap.objs.size 35 34) W₂.ns (v := .ref a) rfl (wpAny_pyIter_gen W₂.rd.w.obj ?_)))
  rcases hc with ⟨hY, hs, hQ⟩ | ⟨hs, hE⟩
  · refine codeAny_forLoop (fun n s₁ => ∃ is₁ st₁ zs m c tc, n = zs.length ∧ Fw T mg mb (A.deeper (fEnv 5 s.heap.objs.size 35 34)) base (fEnv 5 s.heap.objs.size 35 34 :: outer) s s₁ a g L row is is₁ xs st₁ s.heap.objs.size m ∧ Ys xs st₁ zs st' ∧
      m "b" = some (.int x t) ∧ m "count" = some (.int c tc) ∧ c + zs.count x = ys.count x) (fun n s₁ hI => ?_) ys.length ⟨is, st, ys, _, 0, _, rfl, W₂, hY, rfl, if_pos rfl, by omega⟩
    obtain ⟨is₁, st₁, zs, m, c, tc, rfl, W₁, hY₁, hb, hcnt, hsum⟩ := hI
    refine W₁.next (fun v st₂ is₂ s₂ t₂ hst hTv W₃ => ?_) (fun s₂ hst hf ch hn kb => ?_) (fun h' tk e t u hst => ?_)
    · cases hY₁ with
      | nil => rw [hs] at hst; cases hst
      | cons hst' hY₂ =>
        rename_i st₃ v' vs
        rw [hst'] at hst; cases hst
        refine wpAny_assign_Name (wpAny_storeName_local rfl W₃.ns fun h₄ hn₄ hs₄ => ?_)
        have W₄ := W₃.set (tk := s₂.toks + 1) hn₄ (KB.of_same hs₄)
        refine wpAny_execs_cons (wpAny_If (wpAny_isTrue_BoolOp (wpAny_allTrue_Or_cons (wpAny_isTrue_Compare1 (ldL (env := fEnv 5 s.heap.objs.size 35 34) W₄.ns (v := .int v t₂) (if_pos rfl) (ldL (env := fEnv 5 s.heap.objs.size 35 34) W₄.ns (v := .int x t) ((if_neg (by decide)).trans hb) (is_int K hTv hx (wpAny_truthy_bool ?_))))))))
        by_cases hvx : v = x
        · rw [if_pos (by simp [hvx]), if_pos rfl]
          refine wpAny_execs_cons (wpAny_AugAssign_Name (wpAny_loadName_local rfl rfl W₄.ns (v := .int c tc) ((if_neg (by decide)).trans hcnt) (wpAny_Constant_int (PyProof.Rows.iadd_int (wpAny_storeName_local rfl (W₄.toks (tk := s₂.toks + 1 + 1 + 1)).ns fun h₅ hn₅ hs₅ => ?_)))))
          have W₅ := (W₄.toks (tk := s₂.toks + 1 + 1 + 1)).set (tk := s₂.toks + 1 + 1 + 1 + 1) hn₅ (KB.of_same hs₅)
          refine wpAny_execs_nil ?_
          refine wpAny_execs_nil ⟨vs.length, Nat.lt_succ_self _, is₂, _, vs, _, c + 1, _, rfl, W₅, hY₂, (if_neg (by decide)).trans ((if_neg (by decide)).trans hb), if_pos rfl, ?_⟩
          rw [List.count_cons, hvx] at hsum
          simp at hsum
          omega
        · rw [if_neg (by simp [hvx])]
          refine wpAny_allTrue_Or_cons (wpAny_isTrue_Compare1 (ldL (env := fEnv 5 s.heap.objs.size 35 34) W₄.ns (v := .int v t₂) (if_pos rfl) (ldL (env := fEnv 5 s.heap.objs.size 35 34) W₄.ns (v := .int x t) ((if_neg (by decide)).trans hb) (PyProof.Rows.eq_int (wpAny_truthy_bool ?_)))))
          rw [if_neg (by simp [hvx])]
          refine wpAny_allTrue_Or_nil ?_
          rw [if_neg (by decide)]
          refine wpAny_execs_nil ?_
          refine wpAny_execs_nil ⟨vs.length, Nat.lt_succ_self _, is₂, _, vs, _, c, tc, rfl, W₄, hY₂, (if_neg (by decide)).trans hb, (if_neg (by decide)).trans hcnt, ?_⟩
          rw [List.count_cons] at hsum
          rw [if_neg (by simp [hvx])] at hsum
          omega
    · cases hY₁ with
      | cons hst' hY₂ => rw [hst'] at hst; cases hst
      | nil =>
        refine wpAny_execs_nil ?_
        refine wpAny_execs_cons (wpAny_Return_some (ldL (env := fEnv 5 s.heap.objs.size 35 34) hn (v := .int c tc) hcnt ?_))
        have : c = ys.count x := by simpa using hsum
        rw [this]
        exact hQ s₂ tc hf ch
    · exfalso
      cases hY₁ with
      | nil => rw [hs] at hst; cases hst
      | cons hst' hY₂ => rw [hst'] at hst; cases hst
  · refine codeAny_forLoop (fun n s₁ => s₁ = { s with heap := h₂, toks := s.toks + 2 + 1 + 1 }) (fun n s₁ hI => ?_) 0 rfl
    subst hI
    refine W₂.next (fun v st₂ is₂ s₂ t₂ hst => ?_) (fun s₂ hst => ?_) (fun h' tk e t u hst fl tu up => ?_)
    · rw [hs] at hst; cases hst
    · rw [hs] at hst; cases hst
    · refine loop_raise (s := s) (L := L) (g := g) (msg := "invalid grouping") (Around.frames_deeper R.cx.frames) rfl ⟨⟨t, u, fl, tu⟩, up.before (R.keepNF W₂.ch.keep), rfl⟩ fun s'' z => hE s'' e z
end

theorem meets_enum_gen (a : Addr) (g : Nat) :
    Meets (Builtin.«enumerate.__new__» ⟨[.type "enumerate", .ref a], []⟩) (fun _ R s => s.heap.IsGen a g ∧
      R (.ok (.ret (.ref s.heap.objs.size)))
        { s with heap := s.heap.push { cls := .type "enumerate", data := .fields #[.none, .bool false, .ref a, rawInt 0, .none, .none] } }) :=
  .of_wp fun prog w A R s h => by
    obtain ⟨hp, gs, d, tk, os⟩ := s; obtain ⟨hg, h⟩ := h
    have hsub := sub_enumerate
    have hg' : Heap.IsGen (Shared.heap ⟨hp, gs, d, tk, os⟩) a g := hg
    wp_walk
    refine wpAny_stack_any fun st => wpAny_pure ?_
    split
    · rename_i c _ _ _ _ _
      cases (c == Value.type "enumerate")
      · wp_walk using wpAny_pyIter_gen hg'
        exact ⟨_, rfl, h⟩
      · wp_walk using wpAny_pyIter_gen hg'
        exact ⟨_, rfl, h⟩
    · wp_walk using wpAny_pyIter_gen hg'
      exact ⟨_, rfl, h⟩

section
variable {prog : Program} {w : World} {A : Around} {s : Shared} {mg mb : Str → Option Value} {E : Value → Shared → Prop} {T : Int → Tok → Prop}

theorem call_enumerate_gen {a : Addr} {g : Nat} {Q : Value → Shared → Prop} (hG : s.heap.IsGen a g)
    (h : ∀ h', IsEnum h' s.heap.objs.size a 0 .none → (∀ b o, s.heap.get? b = some o → h'.get? b = some o) → Q (.ref s.heap.objs.size) { s with heap := h' }) :
    wpAny (model prog w) A (call (.type "enumerate") [.ref a]) Q E s := by
  refine callType_new F.called_enumerate (by decide) (F.typeCall_enumerate_1 _) (F.newCall_enumerate_1 _) (fun obj => F.args_object_init_2 obj _) F.entry_enumerate_new
    (meets_enum_gen a g) ⟨hG, ?_⟩
  have he : IsEnum (s.heap.push { cls := .type "enumerate", data := .fields #[.none, .bool false, .ref a, rawInt 0, .none, .none] }) s.heap.objs.size a 0 .none := Heap.get?_push_size _ rfl
  exact ⟨⟨_, he, rfl⟩, h _ he fun b o y => Heap.get?_push_of_some _ y⟩

theorem Fw.callNext {base : Heap} {outer : List Env} {s₀ : Shared} {a L row F : Addr} {g : Nat} {is₀ is : List Addr} {st : GSt} {xs : List Int} {m : Str → Option Value} {Q : Value → Shared → Prop} (W : Fw T mg mb A base outer s₀ s a g L row is₀ is xs st F m)
    (hY : ∀ v st' is' s' t, gstep xs st = (.yield v, st') → T v t → Fw T mg mb A base outer s₀ s' a g L row is₀ is' xs st' F m → KB (L :: is) s.heap s'.heap → Q (.int v t) s')
    (hS : ∀ s' x, gstep xs st = (.stop, .over) → s'.gens[g]? = some .finished → Ch g L is₀ s₀ s' [] → s'.heap.Ns F m → KB (L :: is) s.heap s'.heap → s'.TypeIs (.ref x) "StopIteration" → E (.ref x) s')
    (hR : ∀ h' tk e t u, gstep xs st = (.raise, .over) → Heap.FlyingW base outer e (.type "ValueError") (.ref t) h' → h'.TupAt t [.str "invalid grouping" u] → Slots L s.heap h' → E (.ref e) { s with heap := h', toks := tk, gens := s.gens.setIfInBounds g .finished }) :
    wpAny (model prog w) A (call (.builtin "generator.__next__") [.ref a]) Q E s := by
  obtain ⟨gs, hgs, _⟩ := W.rd.bare
  have step : ∀ {s' : Shared} {is' : List Addr}, Ch g L is s s' is' → F ∉ L :: is' := fun ch q => by
    rcases List.mem_cons.mp q with q | q
    · exact W.off (by rw [q]; exact .head _)
    · rcases (ch.new F q).2 with z | z
      · exact W.off (.tail _ z)
      · obtain ⟨o, _, _, ho, _⟩ := W.ns
        rw [z] at ho; cases ho
  refine call_next W.rd.cx W.rd.b W.rd.w W.rd.live (fun v st' gs' is' h' tk t hs hTv hG k hb his => ?_) (fun h' tk x hs k hT => ?_) hR
  · have hl := gstep_yield_live hs
    have ch : Ch g L is s { s with heap := h', toks := tk, gens := s.gens.setIfInBounds g gs' } is' := ⟨⟨gs', hb, rfl⟩, k, fun b q => ⟨hG.neL hl b q, his b q⟩⟩
    exact hY v st' is' _ t hs hTv ⟨W.rd.moved hG hl k hb his, W.ch.trans ch, W.ns.at' fun o e => k F o W.off e, W.dead, step ch, W.bare, W.low⟩ k
  · have ch : Ch g L is s { s with heap := h', toks := tk, gens := s.gens.setIfInBounds g .finished } [] := ⟨⟨.finished, rfl, rfl⟩, k, fun _ q => nomatch q⟩
    exact hS _ x hs (setGen_self (s := s) (x := .finished) hgs) (W.ch.trans ch) (W.ns.at' fun o e => k F o W.off e) k hT

/-- the enumerate at hand -/
structure En (base : Heap) (s₀ s : Shared) (e a : Addr) (i : Int) (old : Value) : Prop where
  obj : IsEnum s.heap e a i old
  dead : s₀.heap.get? e = none
  bare : base.get? e = none
  low : e ∉ lowA

theorem Fw.offEn {base : Heap} {outer : List Env} {s₀ : Shared} {a L row F e : Addr} {g : Nat} {is₀ is : List Addr} {st : GSt} {xs : List Int} {m : Str → Option Value} {vs : Array Value} (W : Fw T mg mb A base outer s₀ s a g L row is₀ is xs st F m)
    (he : s.heap.get? e = some { cls := .type "enumerate", dict := none, data := .fields vs, slots := #[] }) : e ∉ L :: is ∧ e ≠ a ∧ e ≠ row ∧ e ≠ F := by
  obtain ⟨gs, _, hG⟩ := W.rd.w.gs
  refine ⟨fun q => ?_, fun q => ?_, fun q => ?_, fun q => ?_⟩
  · rcases List.mem_cons.mp q with q | q
    · obtain ⟨m, o, _, _, ho, hd, _⟩ := hG.ns W.rd.live
      rw [← q, he] at ho; cases ho; cases hd
    · obtain ⟨o, _, ho, _, hc⟩ := hG.fields W.rd.live e q
      rw [he] at ho; cases ho; exact absurd hc (by simp)
  · obtain ⟨o, _, _, ho, hc, _⟩ := W.rd.w.obj
    rw [← q, he] at ho; cases ho; exact absurd hc (by simp)
  · obtain ⟨_, ⟨o, ho, hc, _⟩, _⟩ := W.rd.w.row
    rw [← q, he] at ho; cases ho; exact absurd hc (by simp)
  · obtain ⟨o, _, _, ho, hd, _⟩ := W.ns
    rw [← q, he] at ho; cases ho; cases hd

/-- the enumerate's record turns -/
theorem Fw.touch {base : Heap} {outer : List Env} {s₀ : Shared} {a L row F e : Addr} {g : Nat} {is₀ is : List Addr} {st : GSt} {xs : List Int} {m : Str → Option Value} {vs : Array Value} {h' : Heap} {tk : Nat} (W : Fw T mg mb A base outer s₀ s a g L row is₀ is xs st F m)
    (he : s.heap.get? e = some { cls := .type "enumerate", dict := none, data := .fields vs, slots := #[] }) (hdead : s₀.heap.get? e = none) (hbare : base.get? e = none) (hlow : e ∉ lowA) (k : KB [e] s.heap h') :
    Fw T mg mb A base outer s₀ { s with heap := h', toks := tk } a g L row is₀ is xs st F m := by
  obtain ⟨o1, o2, o3, o4⟩ := W.offEn he
  have kp : ∀ {b : Addr} {o : Obj}, b ≠ e → s.heap.get? b = some o → h'.get? b = some o := fun hb e => k _ _ (fun q => hb (List.mem_singleton.mp q)) e
  obtain ⟨gs, hgs, hG⟩ := W.rd.w.gs
  obtain ⟨o, nm, qn, ho, r⟩ := W.rd.w.obj
  have R := W.rd
  refine ⟨⟨⟨R.cx.handled, R.cx.frames, R.cx.depth, R.cx.free, fun b o hb => kp (fun q => by rw [q, hbare] at hb; cases hb) (R.cx.stays b o hb), ?_, ?_, R.cx.offL⟩, R.b.kb k (fun b q => by rw [List.mem_singleton.mp q]; exact hlow), ⟨⟨o, nm, qn, kp (Ne.symm o2) ho, r⟩, ⟨gs, hgs, hG.keep fun b q o e => kp (fun z => o1 (z ▸ q)) e⟩, R.w.low, ?_⟩, R.live, R.bare⟩, ⟨?_, ?_, W.ch.new⟩, W.ns.at' fun o e => kp (Ne.symm o4) e, W.dead, W.off, W.bare, W.low⟩
  · refine R.cx.funs.of_keeps fun b o hb hd => ⟨o, kp (fun q => ?_) hb, rfl⟩
    rw [q, he] at hb; cases hb; exact hd _ rfl
  · show base.get? a = h'.get? a
    rw [R.cx.gen, ho, kp (Ne.symm o2) ho]
  · obtain ⟨vs, ⟨o, ho, r⟩, hI⟩ := R.w.row
    exact ⟨vs, ⟨o, kp (Ne.symm o3) ho, r⟩, hI⟩
  · obtain ⟨gs', hb, eq⟩ := W.ch.eq
    exact ⟨gs', hb, by rw [eq]⟩
  · intro b o hb eb
    exact kp (fun q => by rw [q, hdead] at eb; cases eb) (W.ch.keep b o hb eb)

/-- a step of the enumerate -/
theorem Fw.enNext {base : Heap} {outer : List Env} {s₀ : Shared} {a L row F e : Addr} {g i : Nat} {old : Value} {is₀ is : List Addr} {st : GSt} {xs : List Int} {m : Str → Option Value} {Q : Option Value → Shared → Prop} (W : Fw T mg mb A base outer s₀ s a g L row is₀ is xs st F m) (N : En base s₀ s e a i old)
    (hY : ∀ v st' is' s' t P tk, gstep xs st = (.yield v, st') → T v t → Fw T mg mb A base outer s₀ s' a g L row is₀ is' xs st' F m → IsEnumOut s'.heap e a ((i : Int) + 1) (.int v t) P → s'.heap.get? P = some { cls := .type "tuple", data := .seq #[.int i tk, .int v t] } → Q (some (.ref P)) s')
    (hS : ∀ s', gstep xs st = (.stop, .over) → s'.gens[g]? = some .finished → Ch g L is₀ s₀ s' [] → s'.heap.Ns F m → KB (L :: is) s.heap s'.heap → Q none s')
    (hR : ∀ h' tk x t u, gstep xs st = (.raise, .over) → Heap.FlyingW base outer x (.type "ValueError") (.ref t) h' → h'.TupAt t [.str "invalid grouping" u] → Slots L s.heap h' → E (.ref x) { s with heap := h', toks := tk, gens := s.gens.setIfInBounds g .finished }) :
    wpAny (model prog w) A (pyNext (.ref e)) Q E s := by
  have hT : s.TypeIs (.ref e) "enumerate" := ⟨_, N.obj, rfl⟩
  unfold pyNext
  refine wpAny_bind (wpAny_attempt (wpAny_callSpecial?_slot (name := Str.ofString "__next__") hT PySem.F.slot_enumerate_next (wpAny_call_entry PySem.F.slot_enumerate_next hT PySem.F.entry_enumerate_next ?_ (PySem.F.args_enumerate_next_1 _))))
  show wpAny _ _ (field (.ref e) 2 >>= _) _ _ _
  refine wpAny_bind (wpAny_field N.obj rfl (x := .ref a) rfl ?_)
  unfold Builtin.SmallTypes.nextOf
  have W' : Fw T mg mb A.in1 base outer s₀ s a g L row is₀ is xs st F m := ⟨W.rd.in1, W.ch, W.ns, W.dead, W.off, W.bare, W.low⟩
  refine wpAny_bind (wpAny_bind (wpAny_callSpecial?_slot (name := Str.ofString "__next__") W.rd.w.obj.typeIs slot_gen_next (W'.callNext (fun v st' is' s' t hs hTv W₁ k => ?_) (fun s' x hs hf ch hn k hx => ?_) (fun h' tk x t u hs fl tu up => ?_))))
  · refine wpAny_pure ?_
    have he₁ : IsEnum s'.heap e a i old := k e _ (W.offEn N.obj).1 N.obj
    have W₁' : Fw T mg mb A base outer s₀ s' a g L row is₀ is' xs st' F m := ⟨W₁.rd.out1, W₁.ch, W₁.ns, W₁.dead, W₁.off, W₁.bare, W₁.low⟩
    show wpAny _ _ (field (.ref e) 3 >>= _) _ _ s'
    refine wpAny_bind (wpAny_field he₁ rfl (x := rawInt i) rfl ?_)
    show wpAny _ _ (field (.ref e) 4 >>= _) _ _ s'
    refine wpAny_bind (wpAny_field he₁ rfl (x := .none) rfl ?_)
    show wpAny _ _ (mkInt i >>= _) _ _ s'
    refine wpAny_bind (wpAny_mkInt ?_)
    show wpAny _ _ (setField (.ref e) 3 (rawInt ((i : Int) + 1)) >>= _) _ _ _
    refine wpAny_bind (wpAny_setField_rec he₁ (by simp) fun h₂ he₂ hs₂ => ?_)
    replace he₂ : IsEnum h₂ e a ((i : Int) + 1) old := he₂
    have W₂ := W₁'.touch (tk := s'.toks + 1) he₁ N.dead N.bare N.low (KB.of_same hs₂)
    show wpAny _ _ (setField (.ref e) 4 .none >>= _) _ _ _
    refine wpAny_bind (wpAny_setField_rec he₂ (by simp) fun h₃ he₃ hs₃ => ?_)
    replace he₃ : IsEnum h₃ e a ((i : Int) + 1) old := he₃
    have W₃ := W₂.touch (tk := s'.toks + 1) he₂ N.dead N.bare N.low (KB.of_same hs₃)
    show wpAny _ _ (newTuple [.int i s'.toks, .int v t] >>= _) _ _ _
    refine wpAny_bind (wpAny_newTuple ?_)
    have W₄ := W₃.grow (tk := s'.toks + 1) (h' := h₃.push { cls := .type "tuple", data := .seq #[.int i s'.toks, .int v t] }) fun b o y => Heap.get?_push_of_some _ y
    have he₄ : IsEnum (h₃.push { cls := .type "tuple", data := .seq #[.int i s'.toks, .int v t] }) e a ((i : Int) + 1) old := Heap.get?_push_of_some _ he₃
    have ht₄ : (h₃.push { cls := .type "tuple", data := .seq #[.int i s'.toks, .int v t] }).get? h₃.objs.size = some { cls := .type "tuple", data := .seq #[.int i s'.toks, .int v t] } := Heap.get?_push_size _ rfl
    have hPe : h₃.objs.size ≠ e := Nat.ne_of_gt (Heap.lt_size he₃)
    show wpAny _ _ (Builtin.SmallTypes.ownedTupleIsFree (.ref e) >>= _) _ _ _
    refine wpAny_bind ?_
    unfold Builtin.SmallTypes.ownedTupleIsFree
    refine wpAny_bind (wpAny_field he₄ rfl (x := .none) rfl (wpAny_pure ?_))
    simp only [if_true]
    refine wpAny_bind (wpAny_rule ?_)
    refine wpAny_bind (wpAny_field he₄ rfl (x := old) rfl ?_)
    refine wpAny_bind (wpAny_setField_rec he₄ (by simp) fun h₅ he₅ hs₅ => ?_)
    replace he₅ : IsEnum h₅ e a ((i : Int) + 1) (.int v t) := he₅
    have W₅ := W₄.touch (tk := s'.toks + 1) he₄ N.dead N.bare N.low (KB.of_same hs₅)
    show wpAny _ _ (Builtin.SmallTypes.ownedTupleHandOut (.ref e) (.ref h₃.objs.size) >>= _) _ _ _
    refine wpAny_bind ?_
    unfold Builtin.SmallTypes.ownedTupleHandOut
    refine wpAny_bind (wpAny_setField_rec he₅ (by simp) fun h₆ he₆ hs₆ => ?_)
    have W₆ := W₅.touch (tk := s'.toks + 1) he₅ N.dead N.bare N.low (KB.of_same hs₆)
    replace he₆ : IsEnumOut h₆ e a ((i : Int) + 1) (.int v t) h₃.objs.size := he₆
    refine wpAny_setField_rec he₆ (by simp) fun h₇ he₇ hs₇ => ?_
    have W₇ := W₆.touch (tk := s'.toks + 1) he₆ N.dead N.bare N.low (KB.of_same hs₇)
    replace he₇ : IsEnumOut h₇ e a ((i : Int) + 1) (.int v t) h₃.objs.size := he₇
    refine wpAny_bind (wpAny_letGo (wpAny_pure ⟨_, rfl, wpAny_pure (hY v st' is' _ t h₃.objs.size s'.toks hs hTv W₇ he₇ ?_)⟩))
    exact hs₇.extBut _ _ hPe (hs₆.extBut _ _ hPe (hs₅.extBut _ _ hPe ht₄))
  · exact wpAny_bind (wpAny_isInstance (T := "StopIteration") (b := true) hx isSubtype_stop (wpAny_pure (hS s' hs hf ch hn k)))
  · obtain ⟨oe, he, hce⟩ := fl.there
    exact wpAny_bind (wpAny_isInstance (T := "ValueError") (b := false) ⟨oe, he, hce⟩ sub_value_stop (wpAny_throw (hR h' tk x t u hs fl tu up)))
end

section
variable {prog : Program} {w : World} {A : Around} {s : Shared} {mg mb : Str → Option Value} {E : Value → Shared → Prop} {T : Int → Tok → Prop}

theorem Fw.stopped {base : Heap} {outer : List Env} {s₀ : Shared} {a L row F : Addr} {g : Nat} {is₀ is : List Addr} {st : GSt} {xs : List Int} {m : Str → Option Value} {h' : Heap} (W : Fw T mg mb A base outer s₀ s a g L row is₀ is xs st F m) (k : KB (L :: is) s.heap h') :
    base.StaysIn h' ∧ h'.FunFrames base outer ∧ Base mg mb h' := by
  refine ⟨fun b o hb => k b o (fun q => by rw [W.rd.cx.free b q] at hb; cases hb) (W.rd.cx.stays b o hb), ?_, W.rd.b.kb k fun b hb => (W.rd.w.low b hb).1⟩
  have nf := W.rd.keepNF k
  have gen : ∀ {l : List Env}, (∀ env ∈ l, env.frame ≠ some L) → s.heap.FunFrames base l → h'.FunFrames base l := by
    intro l
    induction l with
    | nil => exact fun _ _ => trivial
    | cons env rest ih =>
      rintro hL ⟨hk, ⟨b, o, hf, hb, ho, hd⟩, hr⟩
      refine ⟨hk, ⟨b, o, hf, hb, nf b o (fun q => hL env (.head _) (by rw [hf, q])) ho hd, hd⟩, ih (fun e he => hL e (.tail _ he)) hr⟩
  exact gen W.rd.cx.offL W.rd.cx.funs

theorem loop_raise_new {base h₀ : Heap} {outer : List Env} {L F e : Addr} {g : Nat} {msg : Str} {u : Tok} {env : Env} {s' : Shared} {E₀ E₁ : Value → Shared → Prop} (hfr : A.frames = some (env :: outer)) (hf : env.frame = some F) (hx : Heap.MadeExc h₀ s'.heap e "ValueError" [.str msg u])
    (hkb : base.StaysIn h₀) (hl : h₀.FunFrames base (env :: outer)) (sl : Slots L s.heap s'.heap) (eq : s' = { s with heap := s'.heap, toks := s'.toks, gens := s.gens.setIfInBounds g .finished })
    (h : ∀ s'', Rz base outer L g msg s s'' e → E₀ (.ref e) s'') :
    notedBy (model prog w) A env (cameBackBy (model prog w) A env (fun e s' => wpAny (model prog w) A (leaving env e) (fun _ s'' => E₀ e s'') E₁ s')) (.ref e) s' := by
  obtain ⟨t, he, htn, ht⟩ := hx.there
  have fresh : ∀ b, h₀.get? b = none → base.get? b = none := fun b hb => by
    cases hq : base.get? b with
    | none => rfl
    | some o' => have := hkb b o' hq; rw [hb] at this; cases this
  refine note_first (a0 := .ref t) hfr (hl.of_keeps fun b o hb _ => ⟨o, hx.keeps b o hb, rfl⟩) (L := F) hf he (fun b o hb => hx.keeps b o (hkb b o hb)) (fresh e hx.new) rfl rfl rfl fun h₁ hN => ?_
  obtain ⟨k1, k2, k3, k4⟩ := hN
  refine came_back (L := F) hf k1 k2 k3 fun h₂ j1 j2 j3 j4 => ?_
  have held₂ : Heap.HeldW base (env :: outer) e (.type "ValueError") (.ref t) F h₂ := ⟨j1, fresh e hx.new, j2, j3⟩
  have up : s'.heap.UpToSlots h₂ := (show s'.heap.UpToSlots h₁ from k4).trans (upTo_of j4)
  refine leaves_held (L := F) hf held₂ fun h₃ fl₃ up₃ => h _ ⟨⟨t, u, fl₃, Heap.TupAt.of_slots ⟨_, _, ht, rfl, rfl⟩ (up.trans up₃)⟩, sl.after (up.trans up₃), ?_⟩
  rw [eq]

theorem Ch.slots {base : Heap} {outer : List Env} {a L row : Addr} {g : Nat} {is is' : List Addr} {st : GSt} {xs : List Int} {s' : Shared} (R : Rd T mg mb A base outer s a g L row is xs st) (ch : Ch g L is s s' is') : Slots L s.heap s'.heap :=
  fun b o hb e hd => ⟨o.slots, R.keepNF ch.keep b o hb e hd⟩

theorem fn_indexOf {base : Heap} {outer : List Env} {a L row : Addr} {g : Nat} {is : List Addr} {st st' : GSt} {xs : List Int} {x : Int} {t : Tok} {Q : Value → Shared → Prop} (K : TOk T) (hx : T x t) (R : Rd T mg mb A base outer s a g L row is xs st) (hd : A.depth + 1 < recursionLimit) (ys : List Int)
    (hc : (Ys xs st ys st' ∧ (∀ y ∈ ys.dropLast, y ≠ x) ∧
        ((∃ y, ys.getLast? = some y ∧ y = x ∧ ∀ is' s' t', Rd T mg mb A base outer s' a g L row is' xs st' → Ch g L is s s' is' → Q (.int ((ys.length - 1 : Nat) : Int) t') s') ∨
         ((∀ y ∈ ys, y ≠ x) ∧ gstep xs st' = (.stop, .over) ∧ ∀ s' e, Rz base outer L g "sequence.index(x): x not in sequence" s s' e → E (.ref e) s'))) ∨
      (gstep xs st = (.raise, .over) ∧ ∀ s' e, Rz base outer L g "invalid grouping" s s' e → E (.ref e) s')) :
    wpAny (model prog w) A (call (.ref 49) [.ref a, .int x t]) Q E s := by
  refine callFn (i := 7) (R.b.fns (7, 49, 48) (by decide)) R.cx.depth R.b.nolimit (binds := [("a", .ref a), ("b", .int x t)]) (fun _ _ => rfl) (locs rfl) fun h₁ F => ?_
  have W := Fw.start (env := fEnv 7 s.heap.objs.size 49 48) (tk := s.toks + 2) R F rfl (by show ScopeKind.function ≠ ScopeKind.module; decide) hd
  have hfr : (A.deeper (fEnv 7 s.heap.objs.size 49 48)).frames = some (fEnv 7 s.heap.objs.size 49 48 :: outer) := Around.frames_deeper R.cx.frames
  show wpAny _ _ (execs [.For (.Tuple [.Name "i" _, .Name "j" _] _ _) (.Call (.Name "enumerate" _) [.Name "a" _] [] _) [.If (.BoolOp .Or [.Compare (.Name "j" _) [.Is] [.Name "b" _] _, .Compare (.Name "j" _) [.Eq] [.Name "b" _] _] _) [.Return (some (.Name "i" _)) _] [] _]
    [.Raise (some (.Call (.Name "ValueError" _) [.Constant (.str "sequence.index(x): x not in sequence") _ _] [] _)) none _] _] _) _ _ _
  refine wpAny_execs_cons (wpAny_For (Call_ (ldB (v := .type "enumerate") (env := fEnv 7 s.heap.objs.size 49 48) W.rd.b (by decide +kernel) (PyProof.Rows.callWith_type1 (args_cons (ldL (env := fEnv 7 s.heap.objs.size 49 48) W.ns (v := .ref a) rfl (args_nil (call_enumerate_gen W.rd.w.obj fun h₂ he₂ k₂ => ?_))))))))
  have W₂ := W.grow (tk := s.toks + 2) k₂
  have hE₂ : ∀ {x : Addr} {o : Obj}, h₁.get? x = some o → h₁.objs.size ≠ x := fun hx => Nat.ne_of_gt (Heap.lt_size hx)
  have N₂ : En base s { s with heap := h₂, toks := s.toks + 2 } h₁.objs.size a ((0 : Nat) : Int) .none := by
    refine ⟨he₂, ?_, ?_, ?_⟩
    · cases e : s.heap.get? h₁.objs.size with
      | none => rfl
      | some o => exact absurd rfl (hE₂ (F.keep _ _ e))
    · cases e : base.get? h₁.objs.size with
      | none => rfl
      | some o => exact absurd rfl (hE₂ (W.rd.cx.stays _ _ e))
    · intro q; obtain ⟨o, ho⟩ := W.rd.b.alive _ q; exact hE₂ ho rfl
  refine wpAny_pyIter_enum he₂ ?_
  rcases hc with ⟨hY, hdl, hc⟩ | ⟨hs, hE⟩
  · refine codeAny_forLoop_any (fun n s₁ => ∃ is₁ st₁ pre zs m old, n = zs.length ∧ Fw T mg mb (A.deeper (fEnv 7 s.heap.objs.size 49 48)) base (fEnv 7 s.heap.objs.size 49 48 :: outer) s s₁ a g L row is is₁ xs st₁ s.heap.objs.size m ∧ En base s s₁ h₁.objs.size a ((pre.length : Nat) : Int) old ∧ Ys xs st₁ zs st' ∧
      m "b" = some (.int x t) ∧ ys = pre ++ zs ∧ ∀ y ∈ pre, y ≠ x) (fun n s₁ hI => ?_) ys.length ⟨is, st, [], ys, _, .none, rfl, W₂, N₂, hY, rfl, rfl, fun _ q => nomatch q⟩
    obtain ⟨is₁, st₁, pre, zs, m, old, rfl, W₁, N₁, hY₁, hb, hsplit, hpre⟩ := hI
    refine W₁.enNext N₁ (fun v st₂ is₂ s₂ t₂ P tk hst hTv W₃ he₃ hP => ?_) (fun s₂ hst hf ch hn kb => ?_) (fun h' tk e t u hst => ?_)
    · cases hY₁ with
      | nil =>
        rcases hc with ⟨y, hy, hyx, _⟩ | ⟨_, hs, _⟩
        · exact absurd hyx (hpre y (by rw [hsplit, List.append_nil] at hy; exact List.mem_of_getLast? hy))
        · rw [hs] at hst; cases hst
      | cons hst' hY₂ =>
        rename_i st₃ v' vs
        rw [hst'] at hst; cases hst
        refine wpAny_letOwnedTupleGo_enum he₃ fun h₄ he₄ hs₄ => ?_
        have W₄ := W₃.touch (tk := s₂.toks) he₃ N₁.dead N₁.bare N₁.low (KB.of_same hs₄)
        have hPe : P ≠ h₁.objs.size := fun q => by rw [q, he₃] at hP; simp at hP
        have hP₄ : h₄.IsTuple P #[.int (pre.length : Nat) tk, .int v t₂] := ⟨_, hs₄.extBut P _ hPe hP, rfl, 0, rfl⟩
        refine wpAny_assign_Tuple W₄.rd.cx.handled hP₄ rfl rfl fun h₅ hx₅ => ?_
        have W₅ := W₄.grow (tk := s₂.toks) (h' := h₅) fun b o e => hx₅ b o (Nat.ne_of_lt (Heap.lt_size e)) e
        have he₅ : IsEnum h₅ h₁.objs.size a ((pre.length : Nat) + 1 : Int) (.int v t₂) := hx₅ _ _ (Nat.ne_of_lt (Heap.lt_size he₄)) he₄
        show wpAny _ _ (assignInOrder [assign (.Name "i" _) _, assign (.Name "j" _) _] [.int (pre.length : Nat) tk, .int v t₂]) _ _ _
        refine wpAny_assignInOrder_more (wpAny_assign_Name (wpAny_storeName_local rfl W₅.ns fun h₆ hn₆ hs₆ => ?_))
        have W₆ := W₅.set (tk := s₂.toks + 1) hn₆ (KB.of_same hs₆)
        have he₆ := hs₆.extBut _ _ (W₅.offEn he₅).2.2.2 he₅
        refine wpAny_assignInOrder_more (wpAny_assign_Name (wpAny_storeName_local rfl W₆.ns fun h₇ hn₇ hs₇ => ?_))
        have W₇ := W₆.set (tk := s₂.toks + 1 + 1) hn₇ (KB.of_same hs₇)
        have he₇ := hs₇.extBut _ _ (W₆.offEn he₆).2.2.2 he₆
        refine wpAny_assignInOrder_none ?_
        have hbm : (fun y => if y = (Str.ofString "j") then some (Value.int v t₂) else if y = (Str.ofString "i") then some (Value.int (pre.length : Nat) tk) else m y) "b" = some (.int x t) := (if_neg (by decide)).trans ((if_neg (by decide)).trans hb)
        refine wpAny_execs_cons (wpAny_If (wpAny_isTrue_BoolOp (wpAny_allTrue_Or_cons (wpAny_isTrue_Compare1 (ldL (env := fEnv 7 s.heap.objs.size 49 48) W₇.ns (v := .int v t₂) (if_pos rfl) (ldL (env := fEnv 7 s.heap.objs.size 49 48) W₇.ns (v := .int x t) hbm (is_int K hTv hx (wpAny_truthy_bool ?_))))))))
        by_cases hvx : v = x
        · rw [if_pos (by simp [hvx]), if_pos rfl]
          refine wpAny_execs_cons (wpAny_Return_some (ldL (env := fEnv 7 s.heap.objs.size 49 48) W₇.ns (v := .int (pre.length : Nat) tk) ((if_neg (by decide)).trans (if_pos rfl)) ?_))
          have hvs : vs = [] := by
            cases vs with
            | nil => rfl
            | cons z zs => exact absurd hvx (hdl v (by rw [hsplit, List.dropLast_append_of_ne_nil (by simp)]; simp))
          subst hvs
          cases hY₂
          rcases hc with ⟨y, _, _, hQ⟩ | ⟨hne, _⟩
          · have hlen : ys.length - 1 = pre.length := by rw [hsplit]; simp
            rw [hlen] at hQ
            exact hQ is₂ _ tk (W₇.rd.leave R.cx.frames) W₇.ch
          · exact absurd hvx (hne v (by rw [hsplit]; simp))
        · rw [if_neg (by simp [hvx])]
          refine wpAny_allTrue_Or_cons (wpAny_isTrue_Compare1 (ldL (env := fEnv 7 s.heap.objs.size 49 48) W₇.ns (v := .int v t₂) (if_pos rfl) (ldL (env := fEnv 7 s.heap.objs.size 49 48) W₇.ns (v := .int x t) hbm (PyProof.Rows.eq_int (wpAny_truthy_bool ?_)))))
          rw [if_neg (by simp [hvx])]
          refine wpAny_allTrue_Or_nil ?_
          rw [if_neg (by decide)]
          refine wpAny_execs_nil ?_
          refine wpAny_execs_nil ⟨vs.length, Nat.lt_succ_self _, is₂, _, pre ++ [v], vs, _, .int v t₂, rfl, W₇, ⟨?_, N₁.dead, N₁.bare, N₁.low⟩, hY₂, hbm, by rw [hsplit]; simp, ?_⟩
          · rw [List.length_append]; exact he₇
          · intro y hy
            rcases List.mem_append.mp hy with q | q
            · exact hpre y q
            · rw [List.mem_singleton.mp q]; exact hvx
    · cases hY₁ with
      | cons hst' hY₂ => rw [hst'] at hst; cases hst
      | nil =>
        rcases hc with ⟨y, hy, hyx, _⟩ | ⟨_, hs, hE⟩
        · exact absurd hyx (hpre y (by rw [hsplit, List.append_nil] at hy; exact List.mem_of_getLast? hy))
        · obtain ⟨st1, st2, st3⟩ := W₁.stopped kb
          refine wpAny_execs_cons (wpAny_Raise_call PySem.F.excCall_ValueError PySem.F.excRaise_ValueError W₁.rd.cx.handled rfl (ldB (v := .type "ValueError") (env := fEnv 7 s.heap.objs.size 49 48) st3 (by decide +kernel) ⟨rfl, ?_⟩))
          refine evalArgs_of (args_cons (Constant_str (args_nil ?_)))
          refine ⟨rfl, by show 1 ≤ sizeLine; decide, fun h' e hxx => ?_⟩
          obtain ⟨gs', hbr, eq⟩ := ch.eq
          have hgs' : gs' = .finished := by
            rw [eq] at hf
            obtain ⟨gs, hgs, _⟩ := R.bare
            have := setGen_self (s := s) (x := gs') hgs
            exact Option.some.inj (this.symm.trans hf)
          refine loop_raise_new (s := s) (L := L) (g := g) hfr (F := s.heap.objs.size) rfl hxx st1 st2 ?_ ?_ fun s'' z => hE s'' e z
          · exact fun b o hb eb hdb => ⟨o.slots, hxx.keeps _ _ (R.keepNF ch.keep b o hb eb hdb)⟩
          · rw [eq, hgs']
    · exfalso
      cases hY₁ with
      | nil =>
        rcases hc with ⟨y, hy, hyx, _⟩ | ⟨_, hs, _⟩
        · exact absurd hyx (hpre y (by rw [hsplit, List.append_nil] at hy; exact List.mem_of_getLast? hy))
        · rw [hs] at hst; cases hst
      | cons hst' hY₂ => rw [hst'] at hst; cases hst
  · refine codeAny_forLoop_any (fun n s₁ => s₁ = { s with heap := h₂, toks := s.toks + 2 }) (fun n s₁ hI => ?_) 0 rfl
    subst hI
    refine W₂.enNext N₂ (fun v st₂ is₂ s₂ t₂ P tk hst => ?_) (fun s₂ hst => ?_) (fun h' tk e t u hst fl tu up => ?_)
    · rw [hs] at hst; cases hst
    · rw [hs] at hst; cases hst
    · exact loop_raise (s := s) (L := L) (g := g) (msg := "invalid grouping") hfr rfl ⟨⟨t, u, fl, tu⟩, up.before (R.keepNF W₂.ch.keep), rfl⟩ fun s'' z => hE s'' e z
end

theorem kind_next : builtinKind "next" = none := by decide +kernel
theorem plain_next : plainId "next" = true := by decide +kernel
theorem entry_next : entryFor table "next" = some Builtin.«next» := entryFor_of_tree (by kernel_rfl)
theorem args_next2 (a b : Value) : argsOk "next" ⟨[a, b], []⟩ := by unfold argsOk; kernel_rfl
theorem value_no_tuple : isSubtype (.type ((Manifest.find? "ValueError").elim "type" fun x => x.metatype)) (.type "tuple") = pure false := by rw [isSubtype_type]; kernel_rfl
theorem value_exc : isSubtype (.type "ValueError") (.type "BaseException") = pure true := by rw [isSubtype_type]; kernel_rfl
theorem value_self : isSubtype (.type "ValueError") (.type "ValueError") = pure true := by rw [isSubtype_type]; kernel_rfl

section
variable {prog : Program} {w : World} {A : Around} {s : Shared} {mg mb : Str → Option Value} {E : Value → Shared → Prop} {T : Int → Tok → Prop}

theorem next_dflt {a : Addr} {g : Nat} {Q : Value → Shared → Prop} (hg : s.heap.IsGen a g) (h : wpAny (model prog w) A.in1 (pyNext (.ref a)) (fun r s' => Q (r.getD .none) s') E s) :
    wpAny (model prog w) A (call (.builtin "next") [.ref a, .none]) Q E s := by
  refine call_function_entry kind_next plain_next entry_next (args_next2 _ _) ?_
  show wpAny _ _ (specialOf (.ref a) "__next__" >>= _) _ _ _
  refine wpAny_bind (wpAny_specialOf hg.typeIs slot_gen_next.lookup ?_)
  show wpAny _ _ (if (some (Value.builtin "generator.__next__")).isNone = true then _ else _) _ _ _
  rw [if_neg (by simp)]
  exact wpAny_bind (wpAny_mono h (fun r s' hr => wpAny_pure ⟨_, rfl, hr⟩) fun _ _ x => x)

theorem Slots.ns {L F : Addr} {h h' : Heap} {m : Str → Option Value} (x : Slots L h h') (hF : F ≠ L) (hn : h.Ns F m) : h'.Ns F m := by
  obtain ⟨o, es, ep, ho, hd, r⟩ := hn
  obtain ⟨sl, hs⟩ := x F o hF ho fun vs q => by rw [hd] at q; cases q
  exact ⟨_, es, ep, hs, hd, r⟩

/-- the ValueError was caught, the walk is over -/
structure Rq (base : Heap) (L : Addr) (g : Nat) (s s' : Shared) : Prop where
  stays : base.StaysIn s'.heap
  slots : Slots L s.heap s'.heap
  eq : s' = { s with heap := s'.heap, toks := s'.toks, gens := s.gens.setIfInBounds g .finished }

def askBody : List Stmt := defBody (topStmt 12)
def tryParts : Stmt → List Stmt × List ExceptHandler × Pos
  | .Try b h _ _ p => (b, h, p)
  | _ => ([], [], default)
def askTry : List Stmt := (tryParts (nth askBody 0)).1
def askHs : List ExceptHandler := (tryParts (nth askBody 0)).2.1
def askEnv (F : Addr) : Env := fEnv 12 F 77 76

/-- what the handler does -/
theorem ask_handled {base : Heap} {outer : List Env} {L F e : Addr} {g : Nat} {msg : Str} {s₁ s' : Shared} {m : Str → Option Value} {Q : Flow → Shared → Prop} (hfr : A.frames = some (askEnv F :: outer)) (hu : A.units + 2 < cLine)
    (B : Base mg mb s.heap) (hlow : ∀ b ∈ lowA, base.get? b = s.heap.get? b) (hdead : s.heap.get? F = none) (hFL : F ≠ L) (hbF : base.get? F = none) (hn : s₁.heap.Ns F m) (keep : ∀ b o, s.heap.get? b = some o → s₁.heap.get? b = some o) (hg : s₁.gens = s.gens) (hdr : s₁.drawn = s.drawn) (hos : s₁.os = s.os)
    (x : Rz base (askEnv F :: outer) L g msg s₁ s' e)
    (h : ∀ s'' u, Rq base L g s s'' → Q (.ret (.str msg u)) s'') :
    wpAny (model prog w) A (noteFrame (.ref e) (askEnv F)) (fun _ s₂ => wpAny (model prog w) A (setFlight (.ref e) none) (fun _ s₃ => wpAny (model prog w) A (handleBy (.ref e) (askEnv F) askHs) Q E s₃) E s₂) E s' := by
  obtain ⟨⟨t, u, fl, tu⟩, sl, eq⟩ := x
  refine wpAny_looks_onW hfr (L := F) rfl fl fun h₁ held₁ up₁ => ?_
  refine wpAny_landsW held₁ fun h₂ fl₂ up₂ => ?_
  have up : s'.heap.UpToSlots h₂ := up₁.trans up₂
  have B₂ : Base mg mb h₂ := B.at fun b hb o eb => fl₂.1 b o ((hlow b hb).trans eb)
  show wpAny _ _ (handleBy _ _ [.ExceptHandler (some (.Name "ValueError" _)) (some "fault") [.Return (some (.Call (.Name "str" _) [.Name "fault" _] [] _)) _] _]) _ _ _
  refine wpAny_handleBy_builtin_as (b := true) (T := "ValueError") (X := "ValueError") value_exc value_no_tuple value_self ?_
  refine ldB (v := .type "ValueError") (env := askEnv F) B₂ (by decide +kernel) ⟨rfl, ?_, ?_⟩
  · obtain ⟨oe, he, hc⟩ := fl₂.there; exact ⟨oe, he, hc⟩
  rw [if_pos rfl]
  obtain ⟨k1, k2, k3, k4⟩ := fl₂
  refine wpAny_setFlight_noneW k1 k3 k4.at fun h₃ j1 j2 j3 j4 => ?_
  have up₃ : s'.heap.UpToSlots h₃ := up.trans (upTo_of j4)
  have ns₃ : h₃.Ns F m := up₃.ns (sl.ns hFL hn)
  have B₃ : Base mg mb h₃ := B.at fun b hb o eb => j1 b o ((hlow b hb).trans eb)
  have tu₃ : h₃.TupAt t [.str msg u] := Heap.TupAt.of_slots tu up₃
  refine wpAny_storeName_local rfl ns₃ fun h₄ hn₄ hs₄ => ?_
  have k4' : KB [F] h₃ h₄ := KB.of_same hs₄
  have lowF : F ∉ lowA := fun q => by obtain ⟨o, ho⟩ := B.alive F q; rw [hdead] at ho; cases ho
  have B₄ : Base mg mb h₄ := B₃.kb k4' fun b q => by rw [List.mem_singleton.mp q]; exact lowF
  obtain ⟨oF, esF, epF, hoF, hdF, _⟩ := ns₃
  have exc₄ : h₄.ExcAt e "ValueError" (.ref t) := by
    obtain ⟨oe, vs, _, _, _, he, ⟨hc, h0⟩, hd, _⟩ := j3
    refine ⟨oe, vs, k4' e oe (fun q => ?_) he, hc, hd, h0⟩
    rw [List.mem_singleton.mp q] at he
    have : h₃.get? F = some oF := hoF
    rw [this] at he; cases he; rw [hdF] at hd; cases hd
  have tu₄ : h₄.TupAt t [.str msg u] := by
    obtain ⟨o, n, ho, hc, hd⟩ := tu₃
    refine ⟨o, n, k4' t o (fun q => ?_) ho, hc, hd⟩
    rw [List.mem_singleton.mp q] at ho
    have : h₃.get? F = some oF := hoF
    rw [this] at ho; cases ho; rw [hdF] at hd; cases hd
  refine wpAny_execs_cons (wpAny_Return_some (Call_ (ldB (v := .type "str") (env := askEnv F) B₄ (by decide +kernel) (PyProof.Rows.callWith_type1 (args_cons (ldL (env := askEnv F) hn₄ (v := .ref e) (if_pos rfl) (args_nil ?_)))))))
  show wpAny _ _ (call (.type "str") [.ref e]) _ _ _
  refine P.str_of_exc_one (A := A.mark (some (.ref e))) PySem.F.excStr_ValueError hu exc₄ tu₄ ?_
  refine wpAny_nameGoes rfl hn₄ rfl fun h₅ m₅ hn₅ hs₅ => ?_
  have k5 : KB [F] h₃ h₅ := k4'.trans (KB.of_same hs₅)
  refine h _ u ⟨fun b o hb => k5 b o (fun q => by rw [List.mem_singleton.mp q, hbF] at hb; cases hb) (j1 b o hb), fun b o hb eb hd => ?_, ?_⟩
  · obtain ⟨sl₁, e₁⟩ := sl b o hb (keep b o eb) hd
    obtain ⟨sl₂, e₂⟩ := up₃ b _ e₁ hd
    refine ⟨sl₂, k5 b _ (fun q => ?_) e₂⟩
    rw [List.mem_singleton.mp q, hdead] at eb; cases eb
  · rw [eq, hg, hdr, hos]
end

section
variable {prog : Program} {w : World} {A : Around} {s : Shared} {mg mb : Str → Option Value} {E : Value → Shared → Prop} {T : Int → Tok → Prop}

/-- a call of one of the text's defs by its name -/
theorem callByName {env : Env} {i : Nat} {f c : Addr} {x : Str} {p1 pos : Pos} {e1 : PySem.Expr} {rest : List PySem.Expr} {Q : Value → Shared → Prop} (hg : s.heap.Ns mainGlobals mg) (hF : Fn mg s.heap i f c) (hx : x = defName (topStmt i))
    (h : wpAny (model prog w) A (spliced (backTo pos (starEach (e1 :: rest) env))) (fun vs s₁ => (∀ o, s.heap.get? f = some o → s₁.heap.get? f = some o) ∧ wpAny (model prog w) A (call (.ref f) vs) Q E s₁) E s)
    (hk : env.scope.kind = .function := by rfl) (hxk : env.kindOf x = some .globalImplicit := by rfl) (he : env.globals = mainGlobals := by rfl)
    (hd : (x == ("__debug__" : Str)) = false := by decide) (h1 : starEach (e1 :: rest) env = (false, eval e1 env) :: starEach rest env := by rfl) :
    wpAny (model prog w) A (eval (.Call (.Name x p1) (e1 :: rest) [] pos) env) Q E s := by
  refine Call_ (ldG hg (hx ▸ hF.name) ?_ hk hxk he hd)
  obtain ⟨o, pm, doc, ho, hdat⟩ := hF.obj
  exact callWith_def hdat (wpAny_mono h (fun vs s₁ q => ⟨q.1 o ho, q.2⟩) fun _ _ z => z) h1

theorem lt_test {env : Env} {x : Str} {p pos p2 : Pos} {k2 : Nat} {m : Str → Option Value} {n c : Int} {t : Tok} {whole : Sem Value} {Q : Bool → Shared → Prop} (hn : s.heap.Ns env.locals m) (hv : m x = some (.int n t)) (h : Q (decide (n < c)) { s with toks := s.toks + 1 })
    (hk : env.scope.kind = .function := by rfl) (hl : env.kindOf x = some .local := by rfl) (hd : (x == ("__debug__" : Str)) = false := by decide) :
    wpAny (model prog w) A (isTrue (.Compare (.Name x p) [.Lt] [.Constant (.int c) k2 p2] pos) env whole) Q E s :=
  wpAny_isTrue_Compare1 (ldL hn hv (wpAny_Constant_int (wpAny_lt_int (wpAny_truthy_bool h))) hk hl hd)
theorem eq_test {env : Env} {x : Str} {p pos p2 : Pos} {k2 : Nat} {m : Str → Option Value} {n c : Int} {t : Tok} {whole : Sem Value} {Q : Bool → Shared → Prop} (hn : s.heap.Ns env.locals m) (hv : m x = some (.int n t)) (h : Q (n == c) { s with toks := s.toks + 1 })
    (hk : env.scope.kind = .function := by rfl) (hl : env.kindOf x = some .local := by rfl) (hd : (x == ("__debug__" : Str)) = false := by decide) :
    wpAny (model prog w) A (isTrue (.Compare (.Name x p) [.Eq] [.Constant (.int c) k2 p2] pos) env whole) Q E s :=
  wpAny_isTrue_Compare1 (ldL hn hv (wpAny_Constant_int (PyProof.Rows.eq_int (wpAny_truthy_bool h))) hk hl hd)

theorem fn_asked {base : Heap} {outer : List Env} {a L row : Addr} {g : Nat} {is : List Addr} {st : GSt} {xs : List Int} {x kind : Int} {t tk1 : Tok} {Q : Value → Shared → Prop} (K : TOk T) (hx : T x t) (R : Rd T mg mb A base outer s a g L row is xs st)
    (hd : A.depth + 2 < recursionLimit) (hu : A.units + 5 < cLine) (hlow : ∀ b ∈ lowA, base.get? b = s.heap.get? b)
    (h1 : kind < 2 → ((∃ v st', gstep xs st = (.yield v, st') ∧ ∀ is' s' t, T v t → Rd T mg mb A base outer s' a g L row is' xs st' → Ch g L is s s' is' → Q (.int v t) s') ∨
      (gstep xs st = (.stop, .over) ∧ ∀ s', s'.gens[g]? = some .finished → Ch g L is s s' [] → Q .none s') ∨ (gstep xs st = (.raise, .over) ∧ ∀ s' u, Rq base L g s s' → Q (.str "invalid grouping" u) s')))
    (h2 : kind = 2 → ∃ ys st', (Ys xs st ys st' ∧ (∀ y ∈ ys.dropLast, y ≠ x) ∧
        ((∃ y, ys.getLast? = some y ∧ y = x ∧ ∀ is' s', Rd T mg mb A base outer s' a g L row is' xs st' → Ch g L is s s' is' → Q (.bool true) s') ∨
         ((∀ y ∈ ys, y ≠ x) ∧ gstep xs st' = (.stop, .over) ∧ ∀ s', s'.gens[g]? = some .finished → Ch g L is s s' [] → Q (.bool false) s'))) ∨
      (gstep xs st = (.raise, .over) ∧ ∀ s' u, Rq base L g s s' → Q (.str "invalid grouping" u) s'))
    (h3 : kind = 3 → ∃ ys st', (Ys xs st ys st' ∧ (∀ y ∈ ys.dropLast, y ≠ x) ∧
        ((∃ y, ys.getLast? = some y ∧ y = x ∧ ∀ is' s' t', Rd T mg mb A base outer s' a g L row is' xs st' → Ch g L is s s' is' → Q (.int ((ys.length - 1 : Nat) : Int) t') s') ∨
         ((∀ y ∈ ys, y ≠ x) ∧ gstep xs st' = (.stop, .over) ∧ ∀ s' u, Rq base L g s s' → Q (.str "sequence.index(x): x not in sequence" u) s'))) ∨
      (gstep xs st = (.raise, .over) ∧ ∀ s' u, Rq base L g s s' → Q (.str "invalid grouping" u) s'))
    (h4 : 3 < kind → ∃ ys st', (Ys xs st ys st' ∧ gstep xs st' = (.stop, .over) ∧ ∀ s' t', s'.gens[g]? = some .finished → Ch g L is s s' [] → Q (.int (ys.count x) t') s') ∨
      (gstep xs st = (.raise, .over) ∧ ∀ s' u, Rq base L g s s' → Q (.str "invalid grouping" u) s')) :
    wpAny (model prog w) A (call (.ref 77) [.ref a, .int kind tk1, .int x t]) Q E s := by
  refine callFn (i := 12) (R.b.fns (12, 77, 76) (by decide)) R.cx.depth R.b.nolimit (binds := [("walk", .ref a), ("kind", .int kind tk1), ("thing", .int x t)]) (fun _ _ => rfl) (locs rfl) fun h₁ F => ?_
  have W := Fw.start (env := askEnv s.heap.objs.size) (tk := s.toks + 3) R F rfl (by show ScopeKind.function ≠ ScopeKind.module; decide) (by omega)
  have hfr : (A.deeper (askEnv s.heap.objs.size)).frames = some (askEnv s.heap.objs.size :: outer) := Around.frames_deeper R.cx.frames
  have hFL : s.heap.objs.size ≠ L := fun q => W.off (by rw [q]; exact .head _)
  have hd1 : (A.deeper (askEnv s.heap.objs.size)).depth + 1 < recursionLimit := by show A.depth + 1 + 1 < recursionLimit; omega
  have done : ∀ {msg : Str} {n : Nat} {s' : Shared} {e : Addr} {E₀ : Value → Shared → Prop} {Q₀ : Flow → Shared → Prop}, (∀ s' u, Rq base L g s s' → Q₀ (.ret (.str msg u)) s') → Rz base (askEnv s.heap.objs.size :: outer) L g msg { s with heap := h₁, toks := n } s' e →
      wpAny (model prog w) (A.deeper (askEnv s.heap.objs.size)) (noteFrame (.ref e) (askEnv s.heap.objs.size)) (fun _ s₂ => wpAny (model prog w) (A.deeper (askEnv s.heap.objs.size)) (setFlight (.ref e) none) (fun _ s₃ => wpAny (model prog w) (A.deeper (askEnv s.heap.objs.size)) (handleBy (.ref e) (askEnv s.heap.objs.size) askHs) Q₀ E₀ s₃) E₀ s₂) E₀ s' :=
    fun {msg n s' e E₀ Q₀} hq z => ask_handled (s₁ := { s with heap := h₁, toks := n }) hfr (by show A.units + 3 + 2 < cLine; exact hu) R.b hlow W.dead hFL W.bare F.ns F.keep rfl rfl rfl z fun s'' u r => hq s'' u r
  show wpAny _ _ (execs [.Try [.If (.Compare (.Name "kind" _) [.Lt] [.Constant (.int 2) _ _] _) [.Return (some (.Call (.Name "next" _) [.Name "walk" _, .Constant .none _ _] [] _)) _] [] _,
    .If (.Compare (.Name "kind" _) [.Eq] [.Constant (.int 2) _ _] _) [.Return (some (.Call (.Name "contains" _) [.Name "walk" _, .Name "thing" _] [] _)) _] [] _,
    .If (.Compare (.Name "kind" _) [.Eq] [.Constant (.int 3) _ _] _) [.Return (some (.Call (.Name "indexOf" _) [.Name "walk" _, .Name "thing" _] [] _)) _] [] _,
    .Return (some (.Call (.Name "countOf" _) [.Name "walk" _, .Name "thing" _] [] _)) _] askHs [] [] _] _) _ _ _
  refine wpAny_execs_cons (wpAny_Try_except ?_)
  refine wpAny_execs_cons (wpAny_If (lt_test (env := askEnv s.heap.objs.size) W.ns (n := kind) (t := tk1) rfl ?_))
  by_cases hk1 : kind < 2
  · rw [if_pos (by simpa using hk1)]
    have W1 := W.toks (tk := s.toks + 3 + 1)
    refine wpAny_execs_cons (wpAny_Return_some (Call_ (ldB (v := .builtin "next") (env := askEnv s.heap.objs.size) W1.rd.b PyProof.Rows.boot_next (PyProof.Rows.callWith_builtin1 (args_cons (ldL (env := askEnv s.heap.objs.size) W1.ns (v := .ref a) rfl (args_cons (wpAny_Constant_none (args_nil (next_dflt W1.rd.w.obj ?_))))))))))
    rcases h1 hk1 with ⟨v, st', hs, hQ⟩ | ⟨hs, hQ⟩ | ⟨hs, hQ⟩
    · refine W1.rd.in1.next (fun v' st'' is' s' t' hy hTv R' ch => ?_) (fun s' h => ?_) (fun h' tk e t u h => ?_)
      · rw [hs] at hy; cases hy; exact hQ is' s' t' hTv (R'.out1.leave R.cx.frames) (W1.ch.trans ch)
      · rw [hs] at h; cases h
      · rw [hs] at h; cases h
    · refine W1.rd.in1.next (fun v' st'' is' s' t' h => ?_) (fun s' _ hf ch => ?_) (fun h' tk e t u h => ?_)
      · rw [hs] at h; cases h
      · exact hQ s' hf (W1.ch.trans ch)
      · rw [hs] at h; cases h
    · refine W1.rd.in1.next (fun v' st'' is' s' t' h => ?_) (fun s' h => ?_) (fun h' tk e t u _ fl tu up => ?_)
      · rw [hs] at h; cases h
      · rw [hs] at h; cases h
      · exact done (n := s.toks + 3 + 1) (fun s' u r => hQ s' u r) ⟨⟨t, u, fl, tu⟩, up, rfl⟩
  rw [if_neg (by simpa using hk1)]
  refine wpAny_execs_nil ?_
  refine wpAny_execs_cons (wpAny_If (eq_test (env := askEnv s.heap.objs.size) W.ns (n := kind) (t := tk1) rfl ?_))
  by_cases hk2 : kind = 2
  · rw [if_pos (by simpa using hk2)]
    have W1 := W.toks (tk := s.toks + 3 + 1 + 1)
    refine wpAny_execs_cons (wpAny_Return_some (callByName (i := 4) W1.rd.b.g (W1.rd.b.fns (4, 28, 27) (by decide)) rfl (args_cons (ldL (env := askEnv s.heap.objs.size) W1.ns (v := .ref a) rfl (args_cons (ldL (env := askEnv s.heap.objs.size) W1.ns (v := .int x t) rfl (args_nil ⟨fun o q => q, ?_⟩)))))))
    obtain ⟨ys, st', hc⟩ := h2 hk2
    refine fn_contains W1.rd hd1 ys (st' := st') ?_
    rcases hc with ⟨hY, hdl, hc⟩ | ⟨hs, hQ⟩
    · refine .inl ⟨hY, hdl, ?_⟩
      rcases hc with ⟨y, hy, hyx, hQ⟩ | ⟨hne, hs, hQ⟩
      · exact .inl ⟨y, hy, hyx, fun is' s' R' ch => hQ is' s' (R'.leave R.cx.frames) (W1.ch.trans ch)⟩
      · exact .inr ⟨hne, hs, fun s' hf ch => hQ s' hf (W1.ch.trans ch)⟩
    · exact .inr ⟨hs, fun s' e z => done (n := s.toks + 3 + 1 + 1) (fun s' u r => hQ s' u r) z⟩
  rw [if_neg (by simpa using hk2)]
  refine wpAny_execs_nil ?_
  refine wpAny_execs_cons (wpAny_If (eq_test (env := askEnv s.heap.objs.size) W.ns (n := kind) (t := tk1) rfl ?_))
  by_cases hk3 : kind = 3
  · rw [if_pos (by simpa using hk3)]
    have W1 := W.toks (tk := s.toks + 3 + 1 + 1 + 1)
    refine wpAny_execs_cons (wpAny_Return_some (callByName (i := 7) W1.rd.b.g (W1.rd.b.fns (7, 49, 48) (by decide)) rfl (args_cons (ldL (env := askEnv s.heap.objs.size) W1.ns (v := .ref a) rfl (args_cons (ldL (env := askEnv s.heap.objs.size) W1.ns (v := .int x t) rfl (args_nil ⟨fun o q => q, ?_⟩)))))))
    obtain ⟨ys, st', hc⟩ := h3 hk3
    refine fn_indexOf K hx W1.rd hd1 ys (st' := st') ?_
    rcases hc with ⟨hY, hdl, hc⟩ | ⟨hs, hQ⟩
    · refine .inl ⟨hY, hdl, ?_⟩
      rcases hc with ⟨y, hy, hyx, hQ⟩ | ⟨hne, hs, hQ⟩
      · exact .inl ⟨y, hy, hyx, fun is' s' t' R' ch => hQ is' s' t' (R'.leave R.cx.frames) (W1.ch.trans ch)⟩
      · exact .inr ⟨hne, hs, fun s' e z => done (n := s.toks + 3 + 1 + 1 + 1) (fun s' u r => hQ s' u r) z⟩
    · exact .inr ⟨hs, fun s' e z => done (n := s.toks + 3 + 1 + 1 + 1) (fun s' u r => hQ s' u r) z⟩
  rw [if_neg (by simpa using hk3)]
  refine wpAny_execs_nil ?_
  have W1 := W.toks (tk := s.toks + 3 + 1 + 1 + 1)
  refine wpAny_execs_cons (wpAny_Return_some (callByName (i := 5) W1.rd.b.g (W1.rd.b.fns (5, 35, 34) (by decide)) rfl (args_cons (ldL (env := askEnv s.heap.objs.size) W1.ns (v := .ref a) rfl (args_cons (ldL (env := askEnv s.heap.objs.size) W1.ns (v := .int x t) rfl (args_nil ⟨fun o q => q, ?_⟩)))))))
  obtain ⟨ys, st', hc⟩ := h4 (by omega)
  refine fn_countOf K hx W1.rd hd1 ys (st' := st') ?_
  rcases hc with ⟨hY, hs, hQ⟩ | ⟨hs, hQ⟩
  · exact .inl ⟨hY, hs, fun s' t' hf ch => hQ s' t' hf (W1.ch.trans ch)⟩
  · exact .inr ⟨hs, fun s' e z => done (n := s.toks + 3 + 1 + 1 + 1) (fun s' u r => hQ s' u r) z⟩
end

/-- what lies ahead of a walk: the sizes up to the first 127 or nought -/
def aheadOf : List Int → List Int
  | [] => []
  | z :: zs => if z = 127 then [] else if z = 0 then [] else z :: aheadOf zs
def endsZero : List Int → Bool
  | [] => false
  | z :: zs => if z = 127 then false else if z = 0 then true else endsZero zs
def beyondOf (known zs : List Int) : Int := if endsZero zs then (known ++ aheadOf zs).getLast?.getD (-2) else -1

theorem slice_from (vs : List Value) {i : Int} (h : 0 ≤ i) : slicePick vs.toArray (some i) none none = (vs.drop i.toNat).toArray := by
  obtain ⟨n, rfl⟩ := Int.eq_ofNat_of_zero_le h
  rw [slicePick_from']; simp
theorem slice_upto (vs : List Value) {i : Int} (h : 0 ≤ i) : slicePick vs.toArray none (some i) none = (vs.take i.toNat).toArray := by
  obtain ⟨n, rfl⟩ := Int.eq_ofNat_of_zero_le h
  rw [slicePick_upto']; simp

/-- all stands, more may have come -/
def Gro (s s' : Shared) : Prop := ∃ h tk, s' = { s with heap := h, toks := tk } ∧ ∀ b o, s.heap.get? b = some o → h.get? b = some o

theorem PL.at {h h' : Heap} {l : Addr} {its : Array Value} (x : h.PlainList l its) (e : ∀ o, h.get? l = some o → h'.get? l = some o) : h'.PlainList l its := let ⟨n, ho⟩ := x; ⟨n, e _ ho⟩
theorem PL.isList {h : Heap} {l : Addr} {its : Array Value} (x : h.PlainList l its) : h.IsList l its := let ⟨n, ho⟩ := x; ⟨_, ho, rfl, n, rfl⟩

section
variable {prog : Program} {w : World} {A : Around} {s : Shared} {mg mb : Str → Option Value} {E : Value → Shared → Prop}

theorem neg1 {env : Env} {k : Nat} {p p2 : Pos} {i : Int} {Q : Value → Shared → Prop} (h : ∀ tk, Q (.int (-i) tk) { s with toks := tk + 1 }) : wpAny (model prog w) A (eval (.UnaryOp .USub (.Constant (.int i) k p) p2) env) Q E s :=
  wpAny_UnaryOp (wpAny_Constant_int (PyProof.Rows.neg_int (h _)))

theorem aug_append {env : Env} {o elt : PySem.Expr} {apos pos epos : Pos} {Q : Flow → Shared → Prop} (hbase : attributeBase o "append" env (eval o env) = eval o env)
    (hfew : ((backTo pos (starEach [elt] env)).all (fun x => !x.1) && (backToKw pos (keywordEach [] env)).all (fun x => x.1.isSome) && decide (([elt] : List PySem.Expr).length + ([] : List Keyword).length + (if ([] : List Keyword).isEmpty then 0 else 1) < 30)) = true)
    (hline : (apos.endLine == pos.line) = true) (htrees : backTo pos (starEach [elt] env) = [(false, eval elt env)]) (hi : interactive env = false) (hs : swapsWith (.Call (.Attribute o "append" apos) [elt] [] pos) none epos.line env = pure false)
    (h : wpAny (model prog w) A (eval o env) (fun ov s₁ => ∃ D its, ov = .ref D ∧ s₁.heap.PlainList D its ∧
      wpAny (model prog w) A (eval elt env) (fun y s₂ => s₂.heap.PlainList D its ∧ its.size ≤ sizeLine ∧ ∀ h', h'.PlainList D (its.push y) → Heap.SameBut D s₂.heap h' → Q .next { s₂ with heap := h' }) E s₁) E s) :
    wpAny (model prog w) A (exec (.Expr (.Call (.Attribute o "append" apos) [elt] [] pos) epos) env) Q E s := by
  refine wpAny_Expr (wpAny_Call_append hbase hfew hline htrees (wpAny_mono h (fun ov s₁ h₁ => ?_) fun _ _ z => z)) hi hs
  obtain ⟨D, its, rfl, ⟨n, hD⟩, h₂⟩ := h₁
  refine ⟨D, its, rfl, ⟨_, n, hD, rfl, rfl, rfl⟩, wpAny_mono h₂ (fun y s₂ h₃ => ?_) fun _ _ z => z⟩
  obtain ⟨hp, hz, hq⟩ := h₃
  exact wpAny_list_append_plain hp (fun h' p' s' => hq h' p' s') hz

def ahEnv (F : Addr) : Env := fEnv 11 F 70 69

theorem fn_ahead {p k : Addr} {place : Int} {tp : Tok} {pvs kvs : List Value} {xs known : List Int} {Q : Value → Shared → Prop} (B : Base mg mb s.heap) (hh : A.handled = none) (hd : A.depth < recursionLimit) (hu : A.units + 80 < cLine)
    (hp : s.heap.PlainList p pvs.toArray) (hpi : IntsAre pvs xs) (hk : s.heap.PlainList k kvs.toArray) (hki : IntsAre kvs known) (h0 : 0 ≤ place) (hz : xs.length ≤ 1000) (hkz : known.length ≤ 1000)
    (h : ∀ s' P Ah avs tb, Gro s s' → s'.heap.IsTuple P #[.ref Ah, .int (beyondOf known (xs.drop place.toNat)) tb] → s'.heap.PlainList Ah avs.toArray → IntsAre avs (aheadOf (xs.drop place.toNat)) → s.heap.get? Ah = none → s.heap.get? P = none → Q (.ref P) s') :
    wpAny (model prog w) A (call (.ref 70) [.ref p, .int place tp, .ref k]) Q E s := by
  refine callFn (i := 11) (B.fns (11, 70, 69) (by decide)) hd B.nolimit (binds := [("plain", .ref p), ("place", .int place tp), ("known", .ref k)]) (fun _ _ => rfl) (locs rfl) fun h₁ F => ?_
  show wpAny _ _ (execs (nth (defBody (topStmt 11)) 0 :: nth (defBody (topStmt 11)) 1 :: [nth (defBody (topStmt 11)) 2]) (ahEnv s.heap.objs.size)) _ _ _
  refine wpAny_execs_cons ?_
  show wpAny _ _ (exec (.Assign [.Name "ahead" _] (.List [] _) _) _) _ _ _
  refine wpAny_Assign_Name (List_ (args_nil (wpAny_newList (wpAny_storeName_local rfl (F.ns.push _) fun h₂ hn₂ hs₂ => ?_) (by decide))))
  have keep₂ : ∀ b o, s.heap.get? b = some o → h₂.get? b = some o := fun b o e => hs₂.extBut b o (Nat.ne_of_lt (Heap.lt_size e)) (Heap.get?_push_of_some _ (F.keep b o e))
  have hAF : h₁.objs.size ≠ s.heap.objs.size := Nat.ne_of_gt F.ns.lt
  have hA₂ : h₂.PlainList h₁.objs.size ([] : List Value).toArray := ⟨0, hs₂.extBut _ _ hAF (Heap.get?_push_size _ rfl)⟩
  have deadA : s.heap.get? h₁.objs.size = none := by
    cases e : s.heap.get? h₁.objs.size with
    | none => rfl
    | some o => exact absurd (Heap.lt_size (F.keep _ _ e)) (Nat.lt_irrefl _)
  have ep : place = ((place.toNat : Nat) : Int) := by omega
  refine wpAny_execs_cons ?_
  show wpAny _ _ (exec (.For (.Name "size" _) (.Subscript (.Name "plain" _) (.Slice (some (.Name "place" _)) none none _) _) [nth (forBody (nth (defBody (topStmt 11)) 1)) 0, nth (forBody (nth (defBody (topStmt 11)) 1)) 1, nth (forBody (nth (defBody (topStmt 11)) 1)) 2] [] _) _) _ _ _
  refine wpAny_For (wpAny_Subscript_list_slice (ldL (env := ahEnv s.heap.objs.size) hn₂ (v := .ref p) ((if_neg (by decide)).trans rfl) (wpAny_evalPart_some (ldL (env := ahEnv s.heap.objs.size) hn₂ (v := .int place tp) ((if_neg (by decide)).trans rfl) (wpAny_evalPart_none ⟨p, pvs.toArray, some place, none, rfl, PL.isList (PL.at hp fun o e => keep₂ _ _ e), by have := hpi.length; simp; unfold sizeLine; omega, .int _ _, .none, ?_⟩)))))
  rw [slice_from pvs h0]
  generalize hsl : (h₂.push { cls := .type "slice", data := .fields #[.int place tp, .none, .none] }).push { cls := .type "list", data := .seq (pvs.drop place.toNat).toArray } = h₃
  have keep₃ : ∀ b o, h₂.get? b = some o → h₃.get? b = some o := fun b o e => by rw [← hsl]; exact Heap.get?_push_of_some _ (Heap.get?_push_of_some _ e)
  have hL₃ : h₃.PlainList (h₂.objs.size + 1) (pvs.drop place.toNat).toArray := ⟨0, by
    have := Heap.get?_push_size (h₂.push { cls := .type "slice", data := .fields #[.int place tp, .none, .none] }) (o := { cls := .type "list", data := .seq (pvs.drop place.toNat).toArray }) rfl
    rw [Heap.size_push, hsl] at this; exact this⟩
  have hSA : h₂.objs.size + 1 ≠ h₁.objs.size := by
    obtain ⟨n, ho⟩ := hA₂
    exact Nat.ne_of_gt (Nat.lt_succ_of_lt (Heap.lt_size ho))
  have hSF : h₂.objs.size + 1 ≠ s.heap.objs.size := Nat.ne_of_gt (Nat.lt_succ_of_lt hn₂.lt)
  have hI₃ := hpi.drop place.toNat
  generalize hzs : xs.drop place.toNat = zs at hI₃ h
  generalize hwv : pvs.drop place.toNat = wvs at hI₃ hL₃ hsl
  have hwz : zs.length ≤ 1000 := by rw [← hzs]; simp; omega
  refine wpAny_pyIter_list (PL.isList hL₃) ?_
  generalize hI : h₃.objs.size = I
  have hIlt : ∀ {b : Addr} {o : Obj}, h₃.get? b = some o → b ≠ I := fun e q => by rw [← hI] at q; exact absurd (Heap.lt_size e) (by rw [q]; exact Nat.lt_irrefl _)
  refine codeAny_forLoop (fun n s₁ => ∃ h tk i pre avs m, s₁ = { s with heap := h, toks := tk } ∧ (∀ b o, s.heap.get? b = some o → h.get? b = some o) ∧ n = zs.length - i ∧ h.Ns s.heap.objs.size m ∧ m "ahead" = some (.ref h₁.objs.size) ∧ m "known" = some (.ref k) ∧
    h.PlainList h₁.objs.size avs.toArray ∧ IntsAre avs pre ∧ pre.length = i ∧ i ≤ zs.length ∧ aheadOf zs = pre ++ aheadOf (zs.drop i) ∧ endsZero zs = endsZero (zs.drop i) ∧ h.IsListIter I (h₂.objs.size + 1) i ∧ h.PlainList (h₂.objs.size + 1) wvs.toArray) (fun n s₁ hIv => ?_) zs.length
    ⟨_, _, 0, [], [], _, rfl, fun b o e => Heap.get?_push_of_some _ (keep₃ b o (keep₂ b o e)), rfl, (hn₂.keeps keep₃).push _, if_pos rfl, (if_neg (by decide)).trans rfl, PL.at hA₂ fun o e => Heap.get?_push_of_some _ (keep₃ _ o e), .nil, rfl, Nat.zero_le _, by simp, by simp, ⟨_, by rw [← hI]; exact Heap.get?_push_size _ rfl, rfl, rfl⟩, PL.at hL₃ fun o e => Heap.get?_push_of_some _ e⟩
  obtain ⟨hc, tk, i, pre, avs, m, rfl, keep, rfl, hn, hma, hmk, hA, hIa, hpl, hil, hah, hez, hit, hL⟩ := hIv
  have tyF : ∀ {b : Addr} {its : Array Value}, hc.PlainList b its → b ≠ s.heap.objs.size := fun hb q => by
    obtain ⟨o, es, ep', ho, hd', _⟩ := hn
    obtain ⟨n, hb⟩ := hb
    rw [q, ho] at hb; cases hb; cases hd'
  have tyI : ∀ {b : Addr} {its : Array Value}, hc.PlainList b its → b ≠ I := fun hb q => by
    obtain ⟨o, ho, _, hd'⟩ := hit
    obtain ⟨n, hb⟩ := hb
    rw [q, ho] at hb; cases hb; cases hd'
  have hFI : s.heap.objs.size ≠ I := fun q => by
    obtain ⟨o, ho, _, hd'⟩ := hit
    obtain ⟨o', es, ep', ho', hd'', _⟩ := hn
    rw [q, ho] at ho'; cases ho'; rw [hd'] at hd''; cases hd''
  have deadI : ∀ {b : Addr} {o : Obj}, s.heap.get? b = some o → b ≠ I := fun e => hIlt (keep₃ _ _ (keep₂ _ _ e))
  cases hx : zs[i]? with
  | none =>
    refine wpAny_pyNext_list_end hh hit (PL.isList hL) (by have : zs.length ≤ i := List.getElem?_eq_none_iff.mp hx; simp [hI₃.length]; omega) fun h' hx' => ?_
    have hdz : zs.drop i = [] := List.drop_eq_nil_of_le (List.getElem?_eq_none_iff.mp hx)
    refine wpAny_execs_nil ?_
    refine wpAny_execs_cons ?_
    show wpAny _ _ (exec (.Return (some (.Tuple [.Name "ahead" _, .UnaryOp .USub (.Constant (.int 1) _ _) _] _ _)) _) _) _ _ _
    refine wpAny_Return_some (Tuple_ (args_cons (ldL (env := ahEnv s.heap.objs.size) (hn.extBut hx' hFI) (v := .ref h₁.objs.size) hma (args_cons (neg1 fun tk' => args_nil (wpAny_newTuple ?_))))))
    have hb : beyondOf known zs = -1 := by unfold beyondOf; rw [hez, hdz]; rfl
    rw [hb] at h
    refine h _ _ h₁.objs.size avs tk' ⟨_, _, rfl, fun b o e => Heap.get?_push_of_some _ (hx' b o (deadI e) (keep b o e))⟩ ⟨_, Heap.get?_push_size _ rfl, rfl, 0, rfl⟩ (PL.at hA fun o e => Heap.get?_push_of_some _ (hx' _ o (tyI hA) e)) ?_ deadA ?_
    · rw [hah, hdz]; simpa [aheadOf] using hIa
    · cases e : s.heap.get? h'.objs.size with
      | none => rfl
      | some o => exact absurd (Heap.lt_size (hx' _ o (deadI e) (keep _ _ e))) (Nat.lt_irrefl _)
  | some z =>
    obtain ⟨t, ht⟩ := hI₃.get i z hx
    have hlt : i < zs.length := (List.getElem?_eq_some_iff.mp hx).1
    have hdrop : zs.drop i = z :: zs.drop (i + 1) := by rw [List.drop_eq_getElem_cons hlt]; rw [(List.getElem?_eq_some_iff.mp hx).2]
    refine wpAny_pyNext_list_item hit (PL.isList hL) (x := .int z t) (by simpa using ht) fun h₄ hit₄ hs₄ => ?_
    refine wpAny_assign_Name (wpAny_storeName_local rfl (hn.sameBut hs₄ hFI) fun h₅ hn₅ hs₅ => ?_)
    have k45 : ∀ {b : Addr} {o : Obj}, b ≠ I → b ≠ s.heap.objs.size → hc.get? b = some o → h₅.get? b = some o := fun h1 h2 e => hs₅.extBut _ _ h2 (hs₄.extBut _ _ h1 e)
    have hA₅ : h₅.PlainList h₁.objs.size avs.toArray := PL.at hA fun o e => k45 (tyI hA) (tyF hA) e
    have hL₅ : h₅.PlainList (h₂.objs.size + 1) wvs.toArray := PL.at hL fun o e => k45 (tyI hL) (tyF hL) e
    have hit₅ : h₅.IsListIter I (h₂.objs.size + 1) (i + 1) := hit₄.extBut hs₅.extBut (Ne.symm hFI)
    have keep₅ : ∀ b o, s.heap.get? b = some o → h₅.get? b = some o := fun b o e => k45 (deadI e) (Nat.ne_of_lt (Heap.lt_size e)) (keep b o e)
    have hva : (fun y => if y = (Str.ofString "size") then some (Value.int z t) else m y) "ahead" = some (.ref h₁.objs.size) := (if_neg (by decide)).trans hma
    have hvk : (fun y => if y = (Str.ofString "size") then some (Value.int z t) else m y) "known" = some (.ref k) := (if_neg (by decide)).trans hmk
    refine wpAny_execs_cons ?_
    show wpAny _ _ (exec (.If (.Compare (.Name "size" _) [.Eq] [.Constant (.int 127) _ _] _) [.Return (some (.Tuple [.Name "ahead" _, .UnaryOp .USub (.Constant (.int 1) _ _) _] _ _)) _] [] _) _) _ _ _
    refine wpAny_If (eq_test (env := ahEnv s.heap.objs.size) hn₅ (n := z) (t := t) (if_pos rfl) ?_)
    by_cases h127 : z = 127
    · rw [if_pos (by simpa using h127)]
      refine wpAny_execs_cons (wpAny_Return_some (Tuple_ (args_cons (ldL (env := ahEnv s.heap.objs.size) hn₅ (v := .ref h₁.objs.size) hva (args_cons (neg1 fun tk' => args_nil (wpAny_newTuple ?_)))))))
      have hb : beyondOf known zs = -1 := by unfold beyondOf; rw [hez, hdrop]; simp [endsZero, h127]
      rw [hb] at h
      refine h _ _ h₁.objs.size avs tk' ⟨_, _, rfl, fun b o e => Heap.get?_push_of_some _ (keep₅ b o e)⟩ ⟨_, Heap.get?_push_size _ rfl, rfl, 0, rfl⟩ (PL.at hA₅ fun o e => Heap.get?_push_of_some _ e) ?_ deadA ?_
      · rw [hah, hdrop]; simpa [aheadOf, h127] using hIa
      · cases e : s.heap.get? h₅.objs.size with
        | none => rfl
        | some o => exact absurd (Heap.lt_size (keep₅ _ _ e)) (Nat.lt_irrefl _)
    rw [if_neg (by simpa using h127)]
    refine wpAny_execs_nil ?_
    refine wpAny_execs_cons ?_
    show wpAny _ _ (exec (.If (.Compare (.Name "size" _) [.Eq] [.Constant (.int 0) _ _] _) [.Assign [.Name "before" _] (.BinOp (.Name "known" _) .Add (.Name "ahead" _) _) _,
      .Return (some (.Tuple [.Name "ahead" _, .IfExp (.Compare (.Name "before" _) [.NotEq] [.List [] _] _) (.Subscript (.Name "before" _) (.UnaryOp .USub (.Constant (.int 1) _ _) _) _) (.UnaryOp .USub (.Constant (.int 2) _ _) _) _] _ _)) _] [] _) _) _ _ _
    refine wpAny_If (eq_test (env := ahEnv s.heap.objs.size) (s := { s with heap := h₅, toks := _ }) hn₅ (n := z) (t := t) (if_pos rfl) ?_)
    by_cases hz0 : z = 0
    · rw [if_pos (by simpa using hz0)]
      obtain ⟨nA, hA₅'⟩ := id hA₅
      obtain ⟨nk, hk₅⟩ := PL.at hk fun o e => keep₅ _ o e
      have hak : aheadOf zs = pre := by rw [hah, hdrop]; simp [aheadOf, hz0]
      have hbe : beyondOf known zs = (known ++ pre).getLast?.getD (-2) := by unfold beyondOf; rw [hez, hdrop, hak]; simp [endsZero, hz0]
      refine wpAny_execs_cons (wpAny_Assign_Name (wpAny_BinOp (ldL (env := ahEnv s.heap.objs.size) hn₅ (v := .ref k) hvk (ldL (env := ahEnv s.heap.objs.size) hn₅ (v := .ref h₁.objs.size) hva (P.add_list hk₅ hA₅' (wpAny_storeName_local rfl (hn₅.push _) fun h₇ hn₇ hs₇ => ?_) (by simp [hki.length, hIa.length]; unfold sizeLine; omega))))))
      have k57 : ∀ {b : Addr} {o : Obj}, b ≠ s.heap.objs.size → h₅.get? b = some o → h₇.get? b = some o := fun h2 e => hs₇.extBut _ _ h2 (Heap.get?_push_of_some _ e)
      have hFlt : s.heap.objs.size ≠ h₅.objs.size := Nat.ne_of_lt hn₅.lt
      have hB₇ : h₇.IsList h₅.objs.size (kvs ++ avs).toArray := ⟨_, hs₇.extBut _ _ (Ne.symm hFlt) (Heap.get?_push_size _ rfl), rfl, 0, by simp⟩
      have hIB : IntsAre (kvs ++ avs) (known ++ pre) := hki.append hIa
      have hA₇ : h₇.PlainList h₁.objs.size avs.toArray := PL.at hA₅ fun o e => k57 (tyF hA) e
      have keep₇ : ∀ b o, s.heap.get? b = some o → h₇.get? b = some o := fun b o e => k57 (Nat.ne_of_lt (Heap.lt_size e)) (keep₅ b o e)
      have dead₇ : ∀ {h' : Heap}, (∀ b o, h₇.get? b = some o → h'.get? b = some o) → s.heap.get? h'.objs.size = none := fun {h'} kk => by
        cases e : s.heap.get? h'.objs.size with
        | none => rfl
        | some o => exact absurd (Heap.lt_size (kk _ _ (keep₇ _ _ e))) (Nat.lt_irrefl _)
      rw [hbe, hak] at h
      refine wpAny_execs_cons (wpAny_Return_some (Tuple_ (args_cons (ldL (env := ahEnv s.heap.objs.size) hn₇ (v := .ref h₁.objs.size) ((if_neg (by decide)).trans hva) (args_cons (wpAny_IfExp (wpAny_isTrue_Compare1 (ldL (env := ahEnv s.heap.objs.size) hn₇ (v := .ref h₅.objs.size) (if_pos rfl) ?_))))))))
      refine List_ (args_nil (wpAny_newList ?_ (by decide)))
      refine ke_ne_ints (xs := kvs ++ avs) (ys := []) (ns := known ++ pre) (ms := []) (hB₇.push _) ⟨_, Heap.get?_push_size _ rfl, rfl, 0, rfl⟩ hIB .nil (by show A.units + 3 + 64 < cLine; omega) (wpAny_truthy_bool ?_)
      by_cases hkp : known ++ pre = []
      · rw [if_neg (by simp [hkp])]
        refine neg1 fun tk' => args_nil (wpAny_newTuple ?_)
        rw [hkp] at h
        exact h _ _ h₁.objs.size avs tk' ⟨_, _, rfl, fun b o e => Heap.get?_push_of_some _ (Heap.get?_push_of_some _ (keep₇ b o e))⟩ ⟨_, Heap.get?_push_size _ rfl, rfl, 0, rfl⟩ (PL.at hA₇ fun o e => Heap.get?_push_of_some _ (Heap.get?_push_of_some _ e)) hIa deadA (dead₇ fun b o e => Heap.get?_push_of_some _ e)
      · rw [if_pos (by simp [hkp])]
        have hpos : 0 < (kvs ++ avs).length := by rw [hIB.length]; exact List.length_pos_iff.mpr hkp
        obtain ⟨y, hy⟩ : ∃ y, (known ++ pre).getLast? = some y := ⟨_, List.getLast?_eq_some_getLast hkp⟩
        rw [hy] at h
        have hyi : (known ++ pre)[(kvs ++ avs).length - 1]? = some y := by rw [hIB.length]; rw [← List.getLast?_eq_getElem?]; exact hy
        obtain ⟨ty, hty⟩ := hIB.get _ y hyi
        refine Subscript_ (ldL (env := ahEnv s.heap.objs.size) (hn₇.push _) (v := .ref h₅.objs.size) (if_pos rfl) (neg1 fun tk' => subscriptTail_ops (T := "list") (Heap.IsList.typeIs (hB₇.push _)) list_getitem_lookup (wpAny_getItem_list_neg (hB₇.push _) (by decide) (by simp only [List.size_toArray]; omega) (by decide) (x := .int y ty) ?_ (args_nil (wpAny_newTuple ?_))) (by with_unfolding_all rfl) (by intro _; with_unfolding_all rfl)))
        · have : (-1 + ((kvs ++ avs).toArray.size : Int)).toNat = (kvs ++ avs).length - 1 := by simp only [List.size_toArray]; omega
          rw [this]; simpa using hty
        · exact h _ _ h₁.objs.size avs ty ⟨_, _, rfl, fun b o e => Heap.get?_push_of_some _ (Heap.get?_push_of_some _ (keep₇ b o e))⟩ ⟨_, Heap.get?_push_size _ rfl, rfl, 0, rfl⟩ (PL.at hA₇ fun o e => Heap.get?_push_of_some _ (Heap.get?_push_of_some _ e)) hIa deadA (dead₇ fun b o e => Heap.get?_push_of_some _ e)
    rw [if_neg (by simpa using hz0)]
    refine wpAny_execs_nil ?_
    refine wpAny_execs_cons ?_
    show wpAny _ _ (exec (.Expr (.Call (.Attribute (.Name "ahead" _) "append" _) [.Name "size" _] [] _) _) _) _ _ _
    refine aug_append rfl rfl rfl rfl rfl rfl (ldL (env := ahEnv s.heap.objs.size) hn₅ (v := .ref h₁.objs.size) hva ⟨_, _, rfl, hA₅, ldL (env := ahEnv s.heap.objs.size) hn₅ (v := .int z t) (if_pos rfl) ⟨hA₅, ?_, fun h₆ hA₆ hs₆ => ?_⟩⟩)
    · simp [hIa.length]; unfold sizeLine; omega
    refine wpAny_execs_nil ⟨zs.length - (i + 1), by omega, h₆, _, i + 1, pre ++ [z], avs ++ [.int z t], _, rfl, fun b o e => hs₆.extBut _ _ (fun q => ?_) (keep₅ b o e), rfl, hn₅.sameBut hs₆ (Ne.symm (tyF hA)), hva, hvk, by simpa using hA₆, hIa.append (.cons _ _ .nil), by simp [hpl], by omega, ?_, ?_, hit₅.extBut hs₆.extBut (Ne.symm (tyI hA)), PL.at hL₅ fun o e => hs₆.extBut _ _ hSA e⟩
    · rw [q, deadA] at e; cases e
    · rw [hah, hdrop]; simp [aheadOf, h127, hz0]
    · rw [hez, hdrop]; simp [endsZero, h127, hz0]
end

section
variable {prog : Program} {w : World} {A : Around} {s : Shared} {mg mb : Str → Option Value} {E : Value → Shared → Prop}

/-- the value that is due where the walk is over -/
inductive OverIs (kind thing : Int) (ahead : List Int) (beyond : Int) : Value → Prop
  | bad (u : Tok) : beyond = -2 → OverIs kind thing ahead beyond (.str "invalid grouping" u)
  | none : beyond ≠ -2 → kind < 2 → OverIs kind thing ahead beyond .none
  | no : beyond ≠ -2 → kind = 2 → OverIs kind thing ahead beyond (.bool false)
  | idx (u : Tok) : beyond ≠ -2 → kind = 3 → OverIs kind thing ahead beyond (.str "sequence.index(x): x not in sequence" u)
  | cnt (u : Tok) : beyond ≠ -2 → 3 < kind → OverIs kind thing ahead beyond (.int (ahead.count thing) u)

theorem count_ints {vs : List Value} {ns : List Int} (x : Int) (h : IntsAre vs ns) : vs.countP (fun v => match v with | .int n _ => n == x | _ => false) = ns.count x := by
  induction h with
  | nil => rfl
  | cons n t _ ih => simp only [List.countP_cons, List.count_cons, ih]

def ovEnv (F : Addr) : Env := fEnv 13 F 84 83

theorem fn_over {k : Addr} {kind thing beyond : Int} {t1 t2 t3 : Tok} {avs : List Value} {ahead : List Int} {Q : Value → Shared → Prop} (B : Base mg mb s.heap) (hd : A.depth < recursionLimit)
    (hk : s.heap.PlainList k avs.toArray) (hki : IntsAre avs ahead)
    (h : ∀ s' v, Gro s s' → OverIs kind thing ahead beyond v → Q v s') :
    wpAny (model prog w) A (call (.ref 84) [.int kind t1, .int thing t2, .ref k, .int beyond t3]) Q E s := by
  refine callFn (i := 13) (B.fns (13, 84, 83) (by decide)) hd B.nolimit (binds := [("kind", .int kind t1), ("thing", .int thing t2), ("ahead", .ref k), ("beyond", .int beyond t3)]) (fun _ _ => rfl) (locs rfl) fun h₁ F => ?_
  have G : ∀ tk, Gro s { s with heap := h₁, toks := tk } := fun tk => ⟨h₁, tk, rfl, F.keep⟩
  show wpAny _ _ (execs [.If (.Compare (.Name "beyond" _) [.Eq] [.UnaryOp .USub (.Constant (.int 2) _ _) _] _) [.Return (some (.Constant (.str "invalid grouping") _ _)) _] [] _,
    .If (.Compare (.Name "kind" _) [.Lt] [.Constant (.int 2) _ _] _) [.Return (some (.Constant .none _ _)) _] [] _,
    .If (.Compare (.Name "kind" _) [.Eq] [.Constant (.int 2) _ _] _) [.Return (some (.Constant (.bool false) _ _)) _] [] _,
    .If (.Compare (.Name "kind" _) [.Eq] [.Constant (.int 3) _ _] _) [.Return (some (.Constant (.str "sequence.index(x): x not in sequence") _ _)) _] [] _,
    .Return (some (.Call (.Attribute (.Name "ahead" _) "count" _) [.Name "thing" _] [] _)) _] (ovEnv s.heap.objs.size)) _ _ _
  refine wpAny_execs_cons (wpAny_If (wpAny_isTrue_Compare1 (ldL (env := ovEnv s.heap.objs.size) F.ns (v := .int beyond t3) rfl (neg1 fun tk => PyProof.Rows.eq_int (wpAny_truthy_bool ?_)))))
  by_cases hb : beyond = -2
  · rw [if_pos (by simp [hb])]
    exact wpAny_execs_cons (wpAny_Return_some (Constant_str (h _ _ (G _) (.bad _ hb))))
  rw [if_neg (by simpa using hb)]
  refine wpAny_execs_nil (wpAny_execs_cons (wpAny_If (lt_test (env := ovEnv s.heap.objs.size) F.ns (n := kind) (t := t1) rfl ?_)))
  by_cases h1 : kind < 2
  · rw [if_pos (by simpa using h1)]
    exact wpAny_execs_cons (wpAny_Return_some (wpAny_Constant_none (h _ _ (G _) (.none hb h1))))
  rw [if_neg (by simpa using h1)]
  refine wpAny_execs_nil (wpAny_execs_cons (wpAny_If (eq_test (env := ovEnv s.heap.objs.size) F.ns (n := kind) (t := t1) rfl ?_)))
  by_cases h2 : kind = 2
  · rw [if_pos (by simpa using h2)]
    exact wpAny_execs_cons (wpAny_Return_some (wpAny_Constant_bool (h _ _ (G _) (.no hb h2))))
  rw [if_neg (by simpa using h2)]
  refine wpAny_execs_nil (wpAny_execs_cons (wpAny_If (eq_test (env := ovEnv s.heap.objs.size) F.ns (n := kind) (t := t1) rfl ?_)))
  by_cases h3 : kind = 3
  · rw [if_pos (by simpa using h3)]
    exact wpAny_execs_cons (wpAny_Return_some (Constant_str (h _ _ (G _) (.idx _ hb h3))))
  rw [if_neg (by simpa using h3)]
  refine wpAny_execs_nil (wpAny_execs_cons (wpAny_Return_some ?_))
  obtain ⟨n, hk'⟩ := PL.at hk fun o e => F.keep _ o e
  refine wpAny_Call_method (T := "list") (id := "list.count") rfl rfl rfl PySem.F.plainAttrs_list PySem.F.slot_list_count PySem.F.type_list_count (ldL (env := ovEnv s.heap.objs.size) F.ns (v := .ref k) rfl ⟨⟨_, hk', rfl⟩, fun a e => by cases e; exact ⟨_, hk', rfl⟩, ?_⟩)
  refine P.count_list (l := k) (ldL (env := ovEnv s.heap.objs.size) F.ns (v := .int thing t2) rfl ⟨avs.toArray, n, fun v => match v with | .int n _ => n == thing | _ => false, hk', fun y hy => ?_, ?_⟩)
  · obtain ⟨n', t', rfl⟩ := hki.all y (by simpa using hy)
    exact MeetsSeq.EqGives.int _ _ _ _
  · have := count_ints thing hki
    refine h _ _ (G _) ?_
    rw [this]
    exact .cnt _ hb (by omega)

theorem iadd_list {l b : Addr} {items items2 : Array Value} {n n2 : Nat} {Q : Value → Shared → Prop} (hl : IsL s.heap l items n) (hb : IsL s.heap b items2 n2) (hz : items.size + items2.size ≤ 100000)
    (hQ : ∀ h', h'.PlainList l (items ++ items2) → Heap.SameBut l s.heap h' → Q (.ref l) { s with heap := h' }) : wpAny (model prog w) A (inplaceOp .Add (.ref l) (.ref b)) Q E s := by
  have ha : s.TypeIs (.ref l) "list" := ⟨_, hl, rfl⟩
  have hbT : s.TypeIs (.ref b) "list" := ⟨_, hb, rfl⟩
  unfold inplaceOp
  refine wpAny_holding ?_
  have hlk := PySem.F.slot_list_iadd.lookup
  have hfi : fillsInplaceSlot (.type "list") "add" (Operator.Add == .Add) = pure false := by
    unfold fillsInplaceSlot
    show (typeLookup (.type "list") (dunderI "add") >>= fun fi => pure (fi.isSome && !isSeqSlot fi)) = pure false
    rw [hlk]; rfl
  have hsi : seqSlot? (.type "list") (dunderI "add") = pure (some (.builtin "list.__iadd__")) := PySem.seqSlot_of hlk (by decide +kernel)
  refine wpAny_bind (wpAny_typeOf ha (wpAny_bind (wpAny_of_eq hfi ?_)))
  show wpAny _ A (if false = true then _ else _) Q E s
  rw [if_neg Bool.false_ne_true]
  refine wpAny_bind (PySem.wpAny_binaryOp1_none (nm := "add") ha hbT PySem.noFill_list_add ?_)
  refine wpAny_bind (wpAny_of_eq hsi ?_)
  have door : ¬(!items.isEmpty && Builtin.List.listTooLong (items.size + items2.size)) = true := by
    have : Builtin.List.listTooLong (items.size + items2.size) = false := by
      unfold Builtin.List.listTooLong sizeLine
      simp; omega
    rw [this]; simp
  refine wpAny_bind (wpAny_rule (call_meets PySem.F.slot_list_iadd ha PySem.F.entry_list_iadd (PySem.F.args_list_iadd_2 _ _) (AutoSeq1.list___iadd___list_list_0 l items n b items2 n2 door (by unfold sizeLine; omega) (by unfold sizeLine; omega)) ⟨hl, hb, ?_⟩))
  exact hQ _ ⟨_, IsL.update (n := n) hl (fun x => x ++ items2)⟩ (Heap.SameBut.update ..)

/-- setitem upon the row -/
theorem fn_setitem {row : Addr} {j : Nat} {v : Value} {ti : Tok} {vs : List Value} {Q : Value → Shared → Prop} (B : Base mg mb s.heap) (hd : A.depth < recursionLimit) (hr : s.heap.PlainList row vs.toArray) (h1 : j < vs.length) (hz : vs.length ≤ 1000)
    (h : ∀ h' tk, KB [row] s.heap h' → h'.PlainList row (vs.set j v).toArray → Q .none { s with heap := h', toks := tk }) :
    wpAny (model prog w) A (call (.ref 56) [.ref row, .int (j : Int) ti, v]) Q E s := by
  refine callFn (i := 8) (B.fns (8, 56, 55) (by decide)) hd B.nolimit (binds := [("a", .ref row), ("b", .int (j : Int) ti), ("c", v)]) (fun _ _ => rfl) (locs rfl) fun h₁ F => ?_
  show wpAny _ _ (execs [.Assign [.Subscript (.Name "a" _) (.Name "b" _) _] (.Name "c" _) _] (fEnv 8 s.heap.objs.size 56 55)) _ _ _
  obtain ⟨n, hr₁⟩ := PL.at hr fun o e => F.keep _ o e
  refine wpAny_execs_cons (wpAny_Assign_Subscript (ldL (env := fEnv 8 s.heap.objs.size 56 55) F.ns (v := v) rfl (ldL (env := fEnv 8 s.heap.objs.size 56 55) F.ns (v := .ref row) rfl (ldL (env := fEnv 8 s.heap.objs.size 56 55) F.ns (v := .int (j : Int) ti) rfl (ki_setAt (n := n) hr₁ (by omega) (by omega) (by simp; omega) (wpAny_execs_nil ?_))))))
  have kU : KB [row] h₁ (h₁.update row (Obj.mapSeq (·.setIfInBounds (j : Int).toNat v))) := KB.of_same (Heap.SameBut.update ..)
  have hp : (h₁.update row (Obj.mapSeq (·.setIfInBounds (j : Int).toNat v))).PlainList row (vs.toArray.setIfInBounds (j : Int).toNat v) := ⟨_, IsL.update (n := n) hr₁ _⟩
  refine h _ _ (fun b o hb e => kU b o hb (F.keep b o e)) ?_
  simpa using hp

/-- delitem upon the row -/
theorem fn_delitem {row : Addr} {j : Nat} {ti : Tok} {vs : List Value} {Q : Value → Shared → Prop} (B : Base mg mb s.heap) (hd : A.depth < recursionLimit) (hr : s.heap.PlainList row vs.toArray) (h1 : j < vs.length) (hz : vs.length ≤ 1000)
    (h : ∀ h' tk, KB [row] s.heap h' → h'.PlainList row (vs.eraseIdx j).toArray → Q .none { s with heap := h', toks := tk }) :
    wpAny (model prog w) A (call (.ref 42) [.ref row, .int (j : Int) ti]) Q E s := by
  refine callFn (i := 6) (B.fns (6, 42, 41) (by decide)) hd B.nolimit (binds := [("a", .ref row), ("b", .int (j : Int) ti)]) (fun _ _ => rfl) (locs rfl) fun h₁ F => ?_
  show wpAny _ _ (execs [.Delete [.Subscript (.Name "a" _) (.Name "b" _) _] _] (fEnv 6 s.heap.objs.size 42 41)) _ _ _
  refine wpAny_execs_cons (wpAny_Delete (wpAny_deleteEach_cons (wpAny_delete_Subscript (ldL (env := fEnv 6 s.heap.objs.size 42 41) F.ns (v := .ref row) rfl (ldL (env := fEnv 6 s.heap.objs.size 42 41) F.ns (v := .int (j : Int) ti) rfl (wpAny_delItem_plain (k := j) (PL.at hr fun o e => F.keep _ o e) ?_ ?_ (fun h' hp hs => wpAny_deleteEach_nil ?_) (by simp; unfold sizeLine; omega)))))))
  · unfold Builtin.List.listFitsIndex; simp; omega
  · unfold seqIndex?; simp; omega
  · refine wpAny_execs_nil (h h' _ (fun b o hb e => hs.extBut _ _ (fun q => hb (by simp [q])) (F.keep b o e)) ?_)
    have : vs.toArray.eraseIdxIfInBounds j = (vs.eraseIdx j).toArray := by
      unfold Array.eraseIdxIfInBounds
      simp [h1]
    rw [this] at hp; exact hp

/-- iadd upon the row -/
theorem fn_iadd {row b : Addr} {v : Value} {vs : List Value} {Q : Value → Shared → Prop} (B : Base mg mb s.heap) (hd : A.depth < recursionLimit) (hr : s.heap.PlainList row vs.toArray) (hb : s.heap.PlainList b [v].toArray) (hz : vs.length ≤ 1000)
    (h : ∀ h' tk, KB [row] s.heap h' → h'.PlainList row (vs ++ [v]).toArray → Q (.ref row) { s with heap := h', toks := tk }) :
    wpAny (model prog w) A (call (.ref 63) [.ref row, .ref b]) Q E s := by
  refine callFn (i := 9) (B.fns (9, 63, 62) (by decide)) hd B.nolimit (binds := [("a", .ref row), ("b", .ref b)]) (fun _ _ => rfl) (locs rfl) fun h₁ F => ?_
  obtain ⟨n, hr₁⟩ := PL.at hr fun o e => F.keep _ o e
  obtain ⟨n2, hb₁⟩ := PL.at hb fun o e => F.keep _ o e
  have hrF : row ≠ s.heap.objs.size := by obtain ⟨_, e⟩ := hr; exact Nat.ne_of_lt (Heap.lt_size e)
  show wpAny _ _ (execs [.AugAssign (.Name "a" _) .Add (.Name "b" _) _, .Return (some (.Name "a" _)) _] (fEnv 9 s.heap.objs.size 63 62)) _ _ _
  refine wpAny_execs_cons (wpAny_AugAssign_Name (wpAny_loadName_local rfl rfl F.ns (v := .ref row) rfl (ldL (env := fEnv 9 s.heap.objs.size 63 62) F.ns (v := .ref b) rfl (iadd_list hr₁ hb₁ (by simp; omega) fun h₂ hp₂ hs₂ => wpAny_storeName_local rfl (F.ns.sameBut hs₂ (Ne.symm hrF)) fun h₃ hn₃ hs₃ => ?_))))
  refine wpAny_execs_cons (wpAny_Return_some (ldL (env := fEnv 9 s.heap.objs.size 63 62) hn₃ (v := .ref row) (if_pos rfl) ?_))
  refine h h₃ _ (fun b o hb e => hs₃.extBut _ _ (Nat.ne_of_lt (Heap.lt_size e)) (hs₂.extBut _ _ (fun q => hb (by simp [q])) (F.keep b o e))) ?_
  exact PL.at (by simpa using hp₂) fun o e => hs₃.extBut _ _ hrF e
end

section
variable {prog : Program} {w : World} {A : Around} {s : Shared} {mg mb : Str → Option Value} {E : Value → Shared → Prop}

/-- a new walk -/
structure NewWk (s s' : Shared) (a L row : Addr) : Prop where
  eq : s' = { s with heap := s'.heap, toks := s'.toks, gens := s.gens.push (.fresh (.func giBody (giEnv L))) }
  keep : ∀ b o, s.heap.get? b = some o → s'.heap.get? b = some o
  gen : s'.heap.IsGen a s.gens.size
  ns : ∃ m, s'.heap.Ns L m ∧ m "grouping" = some (.ref row)
  newA : s.heap.get? a = none
  newL : s.heap.get? L = none

theorem fn_walk {row : Addr} {Q : Value → Shared → Prop} (B : Base mg mb s.heap) (hd : A.depth < recursionLimit)
    (h : ∀ s' a L, NewWk s s' a L row → Q (.ref a) s') : wpAny (model prog w) A (call (.ref 21) [.ref row]) Q E s := by
  obtain ⟨nm, ⟨o, pm, doc, ho, hdat⟩, hcd⟩ := B.fns (2, 21, 20) (by decide)
  refine wpAny_call (codeAny_call_generator (R := fun r s' => match r with | .ok (.ret v) => Q v s' | .ok _ => False | .error e => E e s') hd ho hdat rfl rfl rfl hcd ?_)
  have hb : bindArgs (docDef (defName (topStmt (2, 21, 20).1)) (defArgs (topStmt (2, 21, 20).1)) (defBody (topStmt (2, 21, 20).1)) (defScope (topStmt (2, 21, 20).1)) pm (.ref (2, 21, 20).2.2) doc) ⟨[.ref row], []⟩ = (pure [("grouping", Value.ref row)] : Sem (List (Str × Value))) := rfl
  rw [hb]
  refine wpAny_pure (wpAny_newFunctionEnv (by show ∀ x ∈ (defScope (topStmt 2)).names, x.2 ≠ .cell; decide) (locs rfl) (fun h₁ hns hsb => ⟨B.nolimit.fresh _ hsb, ?_⟩) rfl)
  have keep : ∀ b o, s.heap.get? b = some o → h₁.get? b = some o := fun b o e => hsb.extBut b o (Nat.ne_of_lt (Heap.lt_size e)) (Heap.get?_push_of_some _ e)
  refine h _ h₁.objs.size s.heap.objs.size ⟨rfl, fun b o e => Heap.get?_push_of_some _ (keep b o e), ⟨_, _, _, Heap.get?_push_size _ rfl, rfl, rfl, rfl⟩, ⟨_, hns.push _, rfl⟩, ?_, get?_size _⟩
  cases e : s.heap.get? h₁.objs.size with
  | none => rfl
  | some o => exact absurd (Heap.lt_size (keep _ _ e)) (Nat.lt_irrefl _)
end

def lawScope : Scope := defScope (topStmt 14)
def lawBody : List Stmt := defBody (topStmt 14)
def lawEnv (L : Addr) : Env := envOfC "law" lawScope L 89 (.ref 88)
def lawFor : Stmt := nth lawBody 6
def turn : List Stmt := forBody lawFor
/-- the law's own frame and cells -/
def LC (L : Addr) : List Addr := [L, L + 1, L + 2, L + 3, L + 4, L + 5]

structure Lf (h₀ : Heap) (L : Addr) (mg mb : Str → Option Value) (h : Heap) (m cm : Str → Option Value) : Prop where
  fr : Fr h₀ L h m
  cl : Cl L (cellsFrom (L + 1) lawScope.names []) h cm
  b : Base mg mb h
  low : ∀ b ∈ lowA, ∃ o, h₀.get? b = some o

theorem cells_eq (L : Addr) : cellsFrom (L + 1) lawScope.names [] = ([("line", L + 1 + 1 + 1 + 1 + 1), ("thing", L + 1 + 1 + 1 + 1), ("kind", L + 1 + 1 + 1), ("first", L + 1 + 1), ("pieces", L + 1)] : List (Str × Addr)) := rfl

section
variable {prog : Program} {w : World} {A : Around} {s s₀ : Shared} {mg mb : Str → Option Value} {E : Value → Shared → Prop} {h₀ h h' : Heap} {L : Addr} {m cm : Str → Option Value}

theorem Lf.keeps (F : Lf h₀ L mg mb h m cm) (k : ∀ b o, h.get? b = some o → h'.get? b = some o) : Lf h₀ L mg mb h' m cm :=
  ⟨⟨F.fr.ns.keeps k, fun b o e => k b o (F.fr.keep b o e), F.fr.above⟩, F.cl.keeps k, F.b.keeps k, F.low⟩

theorem cell_addr {x : Str} {c : Addr} (hc : (cellsFrom (L + 1) lawScope.names []).lookup x = some c) : c ∈ LC L := by
  have := mem_of_lookup hc
  rw [cells_eq] at this
  simp only [List.mem_cons, Prod.mk.injEq, List.not_mem_nil, or_false] at this
  unfold LC
  simp only [List.mem_cons, List.not_mem_nil, or_false]
  rcases this with ⟨_, e⟩ | ⟨_, e⟩ | ⟨_, e⟩ | ⟨_, e⟩ | ⟨_, e⟩ <;> simp [e, Nat.add_assoc]

theorem Lf.ge {b : Addr} (hb : b ∈ LC L) : L ≤ b := by
  unfold LC at hb
  simp only [List.mem_cons, List.not_mem_nil, or_false] at hb
  rcases hb with e | e | e | e | e | e <;> rw [e]
  · exact Nat.le_refl _
  all_goals exact Nat.le_add_right _ _

theorem Lf.old (F : Lf h₀ L mg mb h m cm) {b : Addr} {o : Obj} (hb : h₀.get? b = some o) : b ∉ LC L := fun q =>
  absurd (Heap.lt_size hb) (Nat.not_lt.mpr (Nat.le_trans F.fr.above (Lf.ge q)))

/-- nothing but a dict or a cell lies in the frame -/
theorem Lf.off (F : Lf h₀ L mg mb h m cm) {b : Addr} {o : Obj} (hb : h.get? b = some o) (h1 : ∀ es ep, o.data ≠ .dict es ep) (h2 : ∀ v, o.data ≠ .cell v) : b ∉ LC L := fun q => by
  have cell : ∀ {x : Str} {c : Addr}, (cellsFrom (L + 1) lawScope.names []).lookup x = some c → b ≠ c := fun hc e => by
    obtain ⟨o', ho', hd⟩ := F.cl.cell _ _ hc
    rw [← e, hb] at ho'; cases ho'
    exact h2 _ hd
  unfold LC at q
  simp only [List.mem_cons, List.not_mem_nil, or_false] at q
  rcases q with e | e | e | e | e | e
  · obtain ⟨o', es, ep, ho', hd, _⟩ := F.fr.ns
    rw [← e, hb] at ho'; cases ho'
    exact h1 _ _ hd
  · exact cell (x := "pieces") rfl e
  · exact cell (x := "first") rfl e
  · exact cell (x := "kind") rfl e
  · exact cell (x := "thing") rfl e
  · exact cell (x := "line") rfl e

structure Mid (h₀ : Heap) (L : Addr) (mg mb : Str → Option Value) (s₀ s : Shared) (m cm : Str → Option Value) : Prop where
  lf : Lf h₀ L mg mb s.heap m cm
  kp : KB (LC L) s₀.heap s.heap
  eq : s = { s₀ with heap := s.heap, toks := s.toks }

theorem Mid.grow {tk : Nat} (D : Mid h₀ L mg mb s₀ s m cm) (k : ∀ b o, s.heap.get? b = some o → h'.get? b = some o) : Mid h₀ L mg mb s₀ { s with heap := h', toks := tk } m cm :=
  ⟨D.lf.keeps k, fun b o hb e => k b o (D.kp b o hb e), by rw [D.eq]⟩
theorem Mid.gro {s' : Shared} (D : Mid h₀ L mg mb s₀ s m cm) (k : Gro s s') : Mid h₀ L mg mb s₀ s' m cm := by
  obtain ⟨h, tk, rfl, k⟩ := k
  exact D.grow k
theorem Mid.push {tk : Nat} {o : Obj} (D : Mid h₀ L mg mb s₀ s m cm) : Mid h₀ L mg mb s₀ { s with heap := s.heap.push o, toks := tk } m cm := D.grow fun _ _ e => Heap.get?_push_of_some _ e
theorem Mid.toks {tk : Nat} (D : Mid h₀ L mg mb s₀ s m cm) : Mid h₀ L mg mb s₀ { s with toks := tk } m cm := D.grow fun _ _ e => e

theorem ll {x : Str} {pos : Pos} {v : Value} {Q : Value → Shared → Prop} (F : Lf h₀ L mg mb s.heap m cm) (hv : m x = some v) (h : Q v s)
    (hl : (lawEnv L).kindOf x = some .local := by rfl) (hd : (x == ("__debug__" : Str)) = false := by decide) : wpAny (model prog w) A (eval (.Name x pos) (lawEnv L)) Q E s :=
  wpAny_Name (wpAny_loadName_local rfl hl F.fr.ns hv h) hd
theorem lc {x : Str} {pos : Pos} {v : Value} {c : Addr} {Q : Value → Shared → Prop} (F : Lf h₀ L mg mb s.heap m cm) (hv : cm x = some v) (h : Q v s)
    (hc : (cellsFrom (L + 1) lawScope.names []).lookup x = some c := by rfl) (hl : (lawEnv L).kindOf x = some .cell := by rfl) (hd : (x == ("__debug__" : Str)) = false := by decide) : wpAny (model prog w) A (eval (.Name x pos) (lawEnv L)) Q E s :=
  wpAny_Name (wpAny_loadName_cell rfl hl hc (hv ▸ F.cl.cell x c hc) h) hd

theorem Lf.low_off (F : Lf h₀ L mg mb h m cm) : ∀ b ∈ LC L, b ∉ lowA := fun b hb hl => by
  obtain ⟨o, ho⟩ := F.low b hl
  exact F.old ho hb

theorem Mid.st {x : Str} {v : Value} {Q : Unit → Shared → Prop} (D : Mid h₀ L mg mb s₀ s m cm)
    (h : ∀ s', Mid h₀ L mg mb s₀ s' (fun y => if y = x then some v else m y) cm → KB (LC L) s.heap s'.heap → Q () s')
    (hl : (lawEnv L).kindOf x = some .local := by rfl) : wpAny (model prog w) A (storeName (lawEnv L) x v) Q E s := by
  refine wpAny_storeName_local hl D.lf.fr.ns fun h' hn hs => h _ ⟨⟨D.lf.fr.set hn hs, D.lf.cl.sameBut hs (Nat.le_refl _), ?_, D.lf.low⟩, fun b o hb e => ?_, by rw [D.eq]⟩ fun b o hb e => ?_
  · exact D.lf.b.kb (X := LC L) (fun b o hb e => hs.extBut b o (fun q => hb (by rw [q]; exact .head _)) e) D.lf.low_off
  · exact hs.extBut b o (fun q => hb (by rw [q]; exact .head _)) (D.kp b o hb e)
  · exact hs.extBut b o (fun q => hb (by rw [q]; exact .head _)) e

theorem Mid.stc {x : Str} {c : Addr} {v : Value} {Q : Unit → Shared → Prop} (D : Mid h₀ L mg mb s₀ s m cm)
    (h : ∀ s', Mid h₀ L mg mb s₀ s' m (fun y => if y = x then some v else cm y) → KB (LC L) s.heap s'.heap → Q () s')
    (hc : (cellsFrom (L + 1) lawScope.names []).lookup x = some c := by rfl) (hl : (lawEnv L).kindOf x = some .cell := by rfl) : wpAny (model prog w) A (storeName (lawEnv L) x v) Q E s := by
  have hLc : L < c := D.lf.cl.above x c (mem_of_lookup hc)
  have hcL := cell_addr hc
  refine wpAny_storeName_cell rfl hl hc (D.lf.cl.cell x c hc) fun h' hv hs => h _ ⟨⟨⟨D.lf.fr.ns.sameBut hs (Nat.ne_of_lt hLc), fun b o e => ?_, D.lf.fr.above⟩, ⟨fun n c' e => ?_, D.lf.cl.apart, D.lf.cl.above⟩, ?_, D.lf.low⟩, fun b o hb e => ?_, by rw [D.eq]⟩ fun b o hb e => ?_
  · exact hs.extBut b o (fun q => D.lf.old e (q ▸ hcL)) (D.lf.fr.keep b o e)
  · by_cases hn : n = x
    · subst hn; rw [hc] at e; cases e; simpa using hv
    · have hcc : c' ≠ c := fun q => hn (name_of_addr D.lf.cl.apart (mem_of_lookup e) (q ▸ mem_of_lookup hc))
      simpa [hn] using (D.lf.cl.cell n c' e).sameBut hs hcc
  · exact D.lf.b.kb (X := LC L) (fun b o hb e => hs.extBut b o (fun q => hb (q ▸ hcL)) e) D.lf.low_off
  · exact hs.extBut b o (fun q => hb (q ▸ hcL)) (D.kp b o hb e)
  · exact hs.extBut b o (fun q => hb (q ▸ hcL)) e

theorem Mid.asg {x : Str} {e : PySem.Expr} {p1 p2 : Pos} {Q : Flow → Shared → Prop}
    (_ : Mid h₀ L mg mb s₀ s m cm)
    (h : wpAny (model prog w) A (eval e (lawEnv L)) (fun v s₁ => ∃ m cm, Mid h₀ L mg mb s₀ s₁ m cm ∧ ∀ s', Mid h₀ L mg mb s₀ s' (fun y => if y = x then some v else m y) cm → KB (LC L) s₁.heap s'.heap → Q .next s') E s)
    (hl : (lawEnv L).kindOf x = some .local := by rfl) (hs : swapsWith e (some (.Name x p1)) p2.line (lawEnv L) = pure false := by rfl) : wpAny (model prog w) A (exec (.Assign [.Name x p1] e p2) (lawEnv L)) Q E s :=
  wpAny_Assign_Name (wpAny_mono h (fun _ _ ⟨_, _, D, hQ⟩ => D.st (fun s' D' k => hQ s' D' k) hl) fun _ _ z => z) hs
theorem Mid.asgc {x : Str} {c : Addr} {e : PySem.Expr} {p1 p2 : Pos} {Q : Flow → Shared → Prop}
    (_ : Mid h₀ L mg mb s₀ s m cm)
    (h : wpAny (model prog w) A (eval e (lawEnv L)) (fun v s₁ => ∃ m cm, Mid h₀ L mg mb s₀ s₁ m cm ∧ ∀ s', Mid h₀ L mg mb s₀ s' m (fun y => if y = x then some v else cm y) → KB (LC L) s₁.heap s'.heap → Q .next s') E s)
    (hc : (cellsFrom (L + 1) lawScope.names []).lookup x = some c := by rfl) (hl : (lawEnv L).kindOf x = some .cell := by rfl) (hs : swapsWith e (some (.Name x p1)) p2.line (lawEnv L) = pure false := by rfl) : wpAny (model prog w) A (exec (.Assign [.Name x p1] e p2) (lawEnv L)) Q E s :=
  wpAny_Assign_Name (wpAny_mono h (fun _ _ ⟨_, _, D, hQ⟩ => D.stc (fun s' D' k => hQ s' D' k) hc hl) fun _ _ z => z) hs

theorem Mid.list_off {b : Addr} {its : Array Value} (D : Mid h₀ L mg mb s₀ s m cm) (hb : s.heap.PlainList b its) : b ∉ LC L := by
  obtain ⟨n, hb⟩ := hb
  exact D.lf.off hb (fun _ _ => by simp) (fun _ => by simp)
theorem KB.list {X : List Addr} {b : Addr} {its : Array Value} (k : KB X h h') (hb : h.PlainList b its) (hX : b ∉ X) : h'.PlainList b its := PL.at hb fun o e => k b o hX e
end

section
variable {prog : Program} {w : World} {A : Around} {s s₀ : Shared} {mg mb : Str → Option Value} {E : Value → Shared → Prop} {h₀ h h' : Heap} {L : Addr} {m cm : Str → Option Value} {T : Int → Tok → Prop}

theorem IsTup.at {h h' : Heap} {a : Addr} {its : Array Value} (x : IsTup h a its) (e : ∀ o, h.get? a = some o → h'.get? a = some o) : IsTup h' a its := let ⟨o, ho, r⟩ := x; ⟨o, e _ ho, r⟩
theorem Mid.tup_off {b : Addr} {its : Array Value} (D : Mid h₀ L mg mb s₀ s m cm) (hb : IsTup s.heap b its) : b ∉ LC L := by
  obtain ⟨o, ho, hc, n, hd⟩ := hb
  exact D.lf.off ho (fun _ _ => by simp [hd]) (fun _ => by simp [hd])

/-- x // a % b -/
theorem ev_divmod {x : Str} {p1 p2 p3 p4 p5 : Pos} {k1 k2 : Nat} {n a b : Int} {t : Tok} {Q : Value → Shared → Prop} (D : Mid h₀ L mg mb s₀ s m cm) (hx : m x = some (.int n t)) (ha : a ≠ 0) (hb : b ≠ 0)
    (h : ∀ s' u, Mid h₀ L mg mb s₀ s' m cm → s'.heap = s.heap → Q (.int ((n.fdiv a).fmod b) u) s') (hsm : Builtin.divisionGoesByPylong n a = false)
    (hl : (lawEnv L).kindOf x = some .local := by rfl) (hd : (x == ("__debug__" : Str)) = false := by decide) :
    wpAny (model prog w) A (eval (.BinOp (.BinOp (.Name x p1) .FloorDiv (.Constant (.int a) k1 p2) p3) .Mod (.Constant (.int b) k2 p4) p5) (lawEnv L)) Q E s := by
  refine wpAny_BinOp (wpAny_BinOp (ll D.lf hx (wpAny_Constant_int (floordiv_int ha (wpAny_Constant_int (mod_int hb ?_)) (.inl hsm))) hl hd))
  exact h _ _ (D.grow fun _ _ e => e) rfl

theorem noPy (n : Int) {a : Int} (h : a.natAbs < 2 ^ 30) : Builtin.divisionGoesByPylong n a = false := PyProof.noPylong_small (by omega)

def things : List Int := [1, 2, 3, 128, 0, 127]
def thingOf (x : Int) : Int := (things[((x.fdiv 16).fmod 6).toNat]?).getD 0
def kindOf (x : Int) : Int := (x.fdiv 2).fmod 8
theorem kindOf_lo (x : Int) : 0 ≤ kindOf x := Int.fmod_nonneg_of_pos _ (by decide)
theorem kindOf_hi (x : Int) : kindOf x < 8 := Int.fmod_lt_of_pos _ (by decide)

theorem st_kind {x : Int} {t : Tok} {Q : Flow → Shared → Prop} (D : Mid h₀ L mg mb s₀ s m cm) (hx : m "x" = some (.int x t))
    (h : ∀ s' u, Mid h₀ L mg mb s₀ s' m (fun y => if y = "kind" then some (.int (kindOf x) u) else cm y) → KB (LC L) s.heap s'.heap → Q .next s') :
    wpAny (model prog w) A (exec (nth turn 0) (lawEnv L)) Q E s := by
  show wpAny _ _ (exec (.Assign [.Name "kind" _] (.BinOp (.BinOp (.Name "x" _) .FloorDiv (.Constant (.int 2) _ _) _) .Mod (.Constant (.int 8) _ _) _) _) _) _ _ _
  refine Mid.asgc D (ev_divmod D hx (by decide) (by decide) (fun s' u D' e => ⟨m, cm, D', fun s'' D'' k => h s'' u D'' (by rw [← e]; exact k)⟩) (noPy _ (by decide)))

theorem st_thing {x : Int} {t : Tok} {ths : Addr} {tvs : List Value} {Q : Flow → Shared → Prop} (D : Mid h₀ L mg mb s₀ s m cm) (hx : m "x" = some (.int x t)) (ht : m "things" = some (.ref ths)) (hth : IsTup s.heap ths tvs.toArray) (hi : IntsAre tvs things) (hT : ∀ n t, Value.int n t ∈ tvs → T n t)
    (h : ∀ s' u, T (thingOf x) u → Mid h₀ L mg mb s₀ s' m (fun y => if y = "thing" then some (.int (thingOf x) u) else cm y) → KB (LC L) s.heap s'.heap → Q .next s') :
    wpAny (model prog w) A (exec (nth turn 1) (lawEnv L)) Q E s := by
  show wpAny _ _ (exec (.Assign [.Name "thing" _] (.Subscript (.Name "things" _) (.BinOp (.BinOp (.Name "x" _) .FloorDiv (.Constant (.int 16) _ _) _) .Mod (.Constant (.int 6) _ _) _) _) _) _) _ _ _
  refine Mid.asgc D (Subscript_ (ll D.lf ht (ev_divmod D hx (by decide) (by decide) (fun s' u D' e => ?_) (noPy _ (by decide)))))
  have lo : 0 ≤ (x.fdiv 16).fmod 6 := Int.fmod_nonneg_of_pos _ (by decide)
  have hi6 : (x.fdiv 16).fmod 6 < 6 := Int.fmod_lt_of_pos _ (by decide)
  have hlt : ((x.fdiv 16).fmod 6).toNat < things.length := by show _ < 6; omega
  have hget : things[((x.fdiv 16).fmod 6).toNat]? = some (thingOf x) := by
    unfold thingOf; rw [List.getElem?_eq_getElem hlt]; rfl
  obtain ⟨tu, htu⟩ := hi.get _ _ hget
  have hlen : tvs.length = 6 := hi.length
  refine item_tupleL (l := tvs) (j := ((x.fdiv 16).fmod 6).toNat) (x := .int (thingOf x) tu) (e ▸ hth) (by omega) (by omega) ?_ htu ?_
  · unfold seqIndex?; rw [hlen]; simp; omega
  · exact ⟨m, cm, D', fun s'' D'' k => h s'' tu (hT _ _ (List.mem_of_getElem? htu)) D'' (by rw [← e]; exact k)⟩
end

section
variable {prog : Program} {w : World} {A : Around} {s s₀ : Shared} {mg mb : Str → Option Value} {E : Value → Shared → Prop} {h₀ h h' : Heap} {L : Addr} {m cm : Str → Option Value} {T : Int → Tok → Prop}

theorem Lf.kb {X : List Addr} (F : Lf h₀ L mg mb h m cm) (k : KB X h h') (hX : ∀ b ∈ X, b ∉ LC L ∧ h₀.get? b = none) : Lf h₀ L mg mb h' m cm := by
  have hL : ∀ b ∈ LC L, b ∉ X := fun b hb q => (hX b q).1 hb
  refine ⟨⟨F.fr.ns.at' fun o e => k _ o (hL _ (.head _)) e, fun b o e => k b o (fun q => by rw [(hX b q).2] at e; cases e) (F.fr.keep b o e), F.fr.above⟩, ⟨fun n c e => ?_, F.cl.apart, F.cl.above⟩, F.b.kb k fun b q hl => ?_, F.low⟩
  · obtain ⟨o, ho, hd⟩ := F.cl.cell n c e
    exact ⟨o, k c o (hL c (cell_addr e)) ho, hd⟩
  · obtain ⟨o, ho⟩ := F.low b hl
    rw [(hX b q).2] at ho; cases ho

theorem Lf.mid (F : Lf h₀ L mg mb s.heap m cm) : Mid h₀ L mg mb s s m cm := ⟨F, KB.refl _ _, rfl⟩
theorem Mid.dead (D : Mid h₀ L mg mb s₀ s m cm) {b : Addr} (h : s.heap.get? b = none) : h₀.get? b = none := by
  cases e : h₀.get? b with
  | none => rfl
  | some o => have := D.lf.fr.keep b o e; rw [h] at this; cases this

/-- plain[:spot], plain[spot + 1:] as new lists; a sum of two lists -/
theorem ev_upto {p1 p2 p3 p4 : Pos} {pl : Addr} {pvs : List Value} {j : Nat} {t : Tok} {Q : Value → Shared → Prop} (D : Mid h₀ L mg mb s₀ s m cm) (hp : m "plain" = some (.ref pl)) (hl : s.heap.PlainList pl pvs.toArray) (hs : m "spot" = some (.int (j : Int) t)) (hz : pvs.length ≤ 1000)
    (h : ∀ s' b, Mid h₀ L mg mb s₀ s' m cm → Gro s s' → s'.heap.PlainList b (pvs.take j).toArray → s.heap.get? b = none → Q (.ref b) s') :
    wpAny (model prog w) A (eval (.Subscript (.Name "plain" p1) (.Slice none (some (.Name "spot" p2)) none p3) p4) (lawEnv L)) Q E s := by
  refine wpAny_Subscript_list_slice (ll D.lf hp (wpAny_evalPart_none (wpAny_evalPart_some (ll D.lf hs ⟨pl, pvs.toArray, none, some (j : Int), rfl, PL.isList hl, by simp; unfold sizeLine; omega, .none, .int _ _, ?_⟩))))
  rw [slice_upto pvs (by omega)]
  have k : ∀ b o, s.heap.get? b = some o → ((s.heap.push { cls := .type "slice", data := .fields #[.none, .int (j : Int) t, .none] }).push { cls := .type "list", data := .seq (pvs.take j).toArray }).get? b = some o := fun b o e => Heap.get?_push_of_some _ (Heap.get?_push_of_some _ e)
  refine h _ _ (D.grow k) ⟨_, _, rfl, k⟩ ⟨0, ?_⟩ ?_
  · have := Heap.get?_push_size (s.heap.push { cls := .type "slice", data := .fields #[.none, .int (j : Int) t, .none] }) (o := { cls := .type "list", data := .seq (pvs.take j).toArray }) rfl
    rw [Heap.size_push] at this; exact this
  · cases e : s.heap.get? (s.heap.objs.size + 1) with
    | none => rfl
    | some o => exact absurd (Heap.lt_size e) (Nat.not_lt.mpr (Nat.le_succ _))

theorem ev_from {p1 p2 p3 p4 p5 p6 : Pos} {k1 : Nat} {pl : Addr} {pvs : List Value} {j : Nat} {t : Tok} {Q : Value → Shared → Prop} (D : Mid h₀ L mg mb s₀ s m cm) (hp : m "plain" = some (.ref pl)) (hl : s.heap.PlainList pl pvs.toArray) (hs : m "spot" = some (.int (j : Int) t)) (hz : pvs.length ≤ 1000)
    (h : ∀ s' b, Mid h₀ L mg mb s₀ s' m cm → Gro s s' → s'.heap.PlainList b (pvs.drop (j + 1)).toArray → s.heap.get? b = none → Q (.ref b) s') :
    wpAny (model prog w) A (eval (.Subscript (.Name "plain" p1) (.Slice (some (.BinOp (.Name "spot" p2) .Add (.Constant (.int 1) k1 p3) p4)) none none p5) p6) (lawEnv L)) Q E s := by
  refine wpAny_Subscript_list_slice (ll D.lf hp (wpAny_evalPart_some (wpAny_BinOp (ll D.lf hs (wpAny_Constant_int (wpAny_add_int (wpAny_evalPart_none ⟨pl, pvs.toArray, some ((j : Int) + 1), none, rfl, PL.isList hl, by simp; unfold sizeLine; omega, .int _ _, .none, ?_⟩)))))))
  rw [slice_from pvs (by omega), show ((j : Int) + 1).toNat = j + 1 by omega]
  have k : ∀ b o, s.heap.get? b = some o → ((s.heap.push { cls := .type "slice", data := .fields #[.int ((j : Int) + 1) (s.toks + 1), .none, .none] }).push { cls := .type "list", data := .seq (pvs.drop (j + 1)).toArray }).get? b = some o := fun b o e => Heap.get?_push_of_some _ (Heap.get?_push_of_some _ e)
  refine h _ _ (D.grow k) ⟨_, _, rfl, k⟩ ⟨0, ?_⟩ ?_
  · have := Heap.get?_push_size (s.heap.push { cls := .type "slice", data := .fields #[.int ((j : Int) + 1) (s.toks + 1), .none, .none] }) (o := { cls := .type "list", data := .seq (pvs.drop (j + 1)).toArray }) rfl
    rw [Heap.size_push] at this; exact this
  · cases e : s.heap.get? (s.heap.objs.size + 1) with
    | none => rfl
    | some o => exact absurd (Heap.lt_size e) (Nat.not_lt.mpr (Nat.le_succ _))
end

def ifElse : Stmt → List Stmt
  | .If _ _ e _ => e
  | _ => []
def edBody : List Stmt := ifBody (nth turn 2)
/-- the place in the row -/
def spotOf (x : Int) (n : Nat) : Nat := ((x.fdiv 96).fmod (max n 1 : Nat)).toNat
theorem spotOf_lt (x : Int) {n : Nat} (h : 0 < n) : spotOf x n < n := by
  unfold spotOf
  have : max n 1 = n := by omega
  rw [this]
  have := Int.fmod_lt_of_pos (x.fdiv 96) (b := (n : Int)) (by omega)
  have := Int.fmod_nonneg_of_pos (x.fdiv 96) (b := (n : Int)) (by omega)
  omega
section
variable {prog : Program} {w : World} {A : Around} {s s₀ : Shared} {mg mb : Str → Option Value} {E : Value → Shared → Prop} {h₀ h h' : Heap} {L : Addr} {m cm : Str → Option Value} {T : Int → Tok → Prop}

theorem st_spot {x : Int} {t : Tok} {pl : Addr} {pvs : List Value} {Q : Flow → Shared → Prop} (D : Mid h₀ L mg mb s₀ s m cm) (hh : A.handled = none) (hx : m "x" = some (.int x t)) (hp : m "plain" = some (.ref pl)) (hl : s.heap.PlainList pl pvs.toArray) (hz : pvs.length ≤ 1000)
    (h : ∀ s' u, Mid h₀ L mg mb s₀ s' (fun y => if y = "spot" then some (.int (spotOf x pvs.length : Int) u) else m y) cm → KB (LC L) s.heap s'.heap → Q .next s') :
    wpAny (model prog w) A (exec (nth edBody 0) (lawEnv L)) Q E s := by
  show wpAny _ _ (exec (.Assign [.Name "spot" _] (.BinOp (.BinOp (.Name "x" _) .FloorDiv (.Constant (.int 96) _ _) _) .Mod (.Call (.Name "max" _) [.Call (.Name "len" _) [.Name "plain" _] [] _, .Constant (.int 1) _ _] [] _) _) _) _) _ _ _
  refine Mid.asg D (wpAny_BinOp (wpAny_BinOp (ll D.lf hx (wpAny_Constant_int (floordiv_int (by decide) ?_ (.inl (noPy _ (by decide))))))))
  have D1 := D.toks (tk := s.toks + 1 + 1)
  refine Call_ (ldB (v := .builtin "max") (env := lawEnv L) D1.lf.b PyProof.Rows.boot_max (PyProof.Rows.callWith_builtin1 (args_cons (Call_ (ldB (v := .builtin "len") (env := lawEnv L) D1.lf.b PySem.boot_len (PyProof.Rows.callWith_builtin1 (args_cons (ll D1.lf hp (args_nil (len_list (PL.isList hl) (by simp; omega) (args_cons (wpAny_Constant_int (args_nil (max_two_ints hh fun h' tk k => ?_))))))))))))))
  have e : (if (1 : Int) > (pvs.toArray.size : Int) then Value.int 1 (s.toks + 1 + 1 + 1 + 1) else .int pvs.toArray.size (s.toks + 1 + 1 + 1)) = .int (max pvs.length 1 : Nat) (if (1 : Int) > (pvs.toArray.size : Int) then s.toks + 1 + 1 + 1 + 1 else s.toks + 1 + 1 + 1) := by
    by_cases q : pvs.length = 0
    · simp [q]
    · have : max pvs.length 1 = pvs.length := by omega
      have q' : ¬ (1 : Int) > (pvs.toArray.size : Int) := by simp; omega
      rw [if_neg q', if_neg q', this]; simp
  rw [e]
  refine mod_int (by omega) ?_
  refine ⟨m, cm, D.grow k, fun s'' D'' k'' => h s'' (tk) ?_ (fun b o hb eb => k'' b o hb (k b o eb))⟩
  have : ((x.fdiv 96).fmod (max pvs.length 1 : Nat)) = (spotOf x pvs.length : Int) := by
    unfold spotOf
    have := Int.fmod_nonneg_of_pos (x.fdiv 96) (b := ((max pvs.length 1 : Nat) : Int)) (by omega)
    omega
  rw [← this]; exact D''

/-- what an edit of the row leaves -/
structure Ed (h₀ : Heap) (L : Addr) (mg mb : Str → Option Value) (T : Int → Tok → Prop) (row : Addr) (s : Shared) (m cm : Str → Option Value) (xs : List Int) (s' : Shared) : Prop where
  eq : s' = { s with heap := s'.heap, toks := s'.toks }
  keep : KB (row :: LC L) s.heap s'.heap
  out : ∃ m' pl pvs vs, Lf h₀ L mg mb s'.heap m' cm ∧ (∀ y : Str, y ≠ "spot" → y ≠ "plain" → m' y = m y) ∧ m' "plain" = some (.ref pl) ∧ pl ≠ row ∧ s'.heap.PlainList pl pvs.toArray ∧ IntsAre pvs xs ∧ s'.heap.PlainList row vs.toArray ∧ IntsAre vs xs ∧ ∀ n t, Value.int n t ∈ vs → T n t

/-- the edit's end -/
theorem ed_tail {row pl : Addr} {vs pvs : List Value} {xs : List Int} {Q : Flow → Shared → Prop} (F : Lf h₀ L mg mb s.heap m cm) (hu : A.units + 64 < cLine) (hr : m "row" = some (.ref row)) (hp : m "plain" = some (.ref pl)) (hv : s.heap.PlainList row vs.toArray) (hpv : s.heap.PlainList pl pvs.toArray) (hi : IntsAre vs xs) (hpi : IntsAre pvs xs)
    (h : Q .cont s) : wpAny (model prog w) A (execs [nth edBody 2, nth edBody 3] (lawEnv L)) Q E s := by
  show wpAny _ _ (execs [.If (.Compare (.Name "row" _) [.NotEq] [.Name "plain" _] _) [.Return (some (.Constant (.bool false) _ _)) _] [] _, .Continue _] _) _ _ _
  refine wpAny_execs_cons (wpAny_If (wpAny_isTrue_Compare1 (ll F hr (ll F hp (ke_ne_ints (PL.isList hv) (PL.isList hpv) hi hpi hu (wpAny_truthy_bool ?_))))))
  rw [if_neg (by simp)]
  exact wpAny_execs_nil (wpAny_execs_cons (wpAny_Continue h))
end

section
variable {prog : Program} {w : World} {A : Around} {s s₀ : Shared} {mg mb : Str → Option Value} {E : Value → Shared → Prop} {h₀ h h' : Heap} {L : Addr} {m cm : Str → Option Value} {T : Int → Tok → Prop}

theorem ints_app1 {vs : List Value} {xs : List Int} (h : IntsAre vs xs) (n : Int) (t : Tok) : IntsAre (vs ++ [.int n t]) (xs ++ [n]) := h.append (.cons _ _ .nil)
theorem ints_take {vs : List Value} {xs : List Int} (h : IntsAre vs xs) (j : Nat) : IntsAre (vs.take j) (xs.take j) := by
  induction h generalizing j with
  | nil => simp; exact .nil
  | cons n t _ ih => cases j with
    | zero => exact .nil
    | succ j => exact .cons _ _ (ih j)
theorem ints_drop {vs : List Value} {xs : List Int} (h : IntsAre vs xs) (j : Nat) : IntsAre (vs.drop j) (xs.drop j) := by
  induction h generalizing j with
  | nil => simp; exact .nil
  | cons n t hh ih => cases j with
    | zero => exact .cons _ _ hh
    | succ j => exact ih j
theorem ints_set {vs : List Value} {xs : List Int} (h : IntsAre vs xs) (j : Nat) (n : Int) (t : Tok) : IntsAre (vs.set j (.int n t)) (xs.set j n) := by
  induction h generalizing j with
  | nil => simp; exact .nil
  | cons n t hh ih => cases j with
    | zero => exact .cons _ _ hh
    | succ j => exact .cons _ _ (ih j)
theorem ints_erase {vs : List Value} {xs : List Int} (h : IntsAre vs xs) (j : Nat) : IntsAre (vs.eraseIdx j) (xs.eraseIdx j) := by
  induction h generalizing j with
  | nil => simp; exact .nil
  | cons n t hh ih => cases j with
    | zero => exact hh
    | succ j => exact .cons _ _ (ih j)
theorem take_set_drop (xs : List Int) {j : Nat} (h : j < xs.length) (n : Int) : xs.take j ++ [n] ++ xs.drop (j + 1) = xs.set j n := by
  rw [List.set_eq_take_append_cons_drop, if_pos h]; simp
theorem take_drop_erase (xs : List Int) (j : Nat) : xs.take j ++ xs.drop (j + 1) = xs.eraseIdx j := by
  rw [List.eraseIdx_eq_take_drop_succ]

/-- the row is changed, the rest is the tail -/
theorem ed_fin {row pl : Addr} {pvs vs : List Value} {xs : List Int} {tk : Nat} {m₀ : Str → Option Value} {Q : Flow → Shared → Prop} (D : Mid h₀ L mg mb s₀ s m cm) (hu : A.units + 64 < cLine) (hm : ∀ y : Str, y ≠ "spot" → y ≠ "plain" → m y = m₀ y)
    (hr : m "row" = some (.ref row)) (hp : m "plain" = some (.ref pl)) (hne : pl ≠ row) (hpl : s.heap.PlainList pl pvs.toArray) (hpi : IntsAre pvs xs) (k : KB [row] s.heap h') (hv : h'.PlainList row vs.toArray) (hvi : IntsAre vs xs) (hT : ∀ n t, Value.int n t ∈ vs → T n t)
    (hoff : row ∉ LC L) (hr0 : h₀.get? row = none)
    (h : Ed h₀ L mg mb T row s₀ m₀ cm xs { s with heap := h', toks := tk } → Q .cont { s with heap := h', toks := tk }) :
    wpAny (model prog w) A (execs [nth edBody 2, nth edBody 3] (lawEnv L)) Q E { s with heap := h', toks := tk } := by
  have F' : Lf h₀ L mg mb h' m cm := D.lf.kb k fun b q => by rw [List.mem_singleton.mp q]; exact ⟨hoff, hr0⟩
  have hpl' : h'.PlainList pl pvs.toArray := k.list hpl (by simpa using hne)
  refine ed_tail (s := { s with heap := h', toks := tk }) F' hu hr hp hv hpl' hvi hpi (h ⟨?_, ?_, m, pl, pvs, vs, F', hm, hp, hne, hpl', hpi, hv, hvi, hT⟩)
  · rw [D.eq]
  · intro b o hb e
    exact k b o (fun q => hb (by rw [List.mem_singleton.mp q]; exact .head _)) (D.kp b o (fun q => hb (.tail _ q)) e)


/-- how a changed row is handed on -/
def Hand (h₀ : Heap) (L : Addr) (mg mb : Str → Option Value) (T : Int → Tok → Prop) (s₀ : Shared) (m cm : Str → Option Value) (row : Addr) (xs' : List Int) (Q : Flow → Shared → Prop) : Prop :=
  ∀ h' tk s₃ m₃ pl' pvs' vs', Mid h₀ L mg mb s₀ s₃ m₃ cm → m₃ "plain" = some (.ref pl') → (∀ y : Str, y ≠ "plain" → m₃ y = m y) → pl' ≠ row → s₃.heap.PlainList pl' pvs'.toArray → IntsAre pvs' xs' →
    KB [row] s₃.heap h' → h'.PlainList row vs'.toArray → IntsAre vs' xs' → (∀ n t, Value.int n t ∈ vs' → T n t) → Q .next { s₃ with heap := h', toks := tk }

def edIf : Stmt := nth edBody 1
def edElif : Stmt := nth (ifElse edIf) 0

theorem ed_app {thing : Int} {tt : Tok} {pl row : Addr} {pvs vs : List Value} {xs : List Int} {Q : Flow → Shared → Prop} (D : Mid h₀ L mg mb s₀ s m cm) (hd : A.depth < recursionLimit) (hth : cm "thing" = some (.int thing tt)) (hT : T thing tt) (hp : m "plain" = some (.ref pl)) (hr : m "row" = some (.ref row))
    (hpl : s.heap.PlainList pl pvs.toArray) (hpi : IntsAre pvs xs) (hrl : s.heap.PlainList row vs.toArray) (hri : IntsAre vs xs) (hTv : ∀ n t, Value.int n t ∈ vs → T n t) (hr0 : h₀.get? row = none) (hz : xs.length ≤ 900)
    (h : Hand h₀ L mg mb T s₀ m cm row (xs ++ [thing]) Q) :
    wpAny (model prog w) A (execs (nth (ifBody edIf) 0 :: [nth (ifBody edIf) 1]) (lawEnv L)) Q E s := by
  have lp : pvs.length = xs.length := hpi.length
  have lr : vs.length = xs.length := hri.length
  have hoff : row ∉ LC L := D.list_off hrl
  refine wpAny_execs_cons ?_
  show wpAny _ _ (exec (.Assign [.Name "plain" _] (.BinOp (.Name "plain" _) .Add (.List [.Name "thing" _] _) _) _) _) _ _ _
  obtain ⟨n1, hpl1⟩ := id hpl
  refine Mid.asg D (wpAny_BinOp (ll D.lf hp (List_ (args_cons (lc D.lf hth (args_nil (wpAny_newList (P.add_list (n := n1) (n2 := 0) (Heap.get?_push_of_some _ hpl1) (Heap.get?_push_size _ rfl) ?_ (by simp; unfold sizeLine; omega)) (by show 1 ≤ sizeLine; decide))))))))
  refine ⟨m, cm, D.grow fun b o e => Heap.get?_push_of_some _ (Heap.get?_push_of_some _ e), fun s₂ D₂ k₂ => ?_⟩
  have hne : (s.heap.push { cls := .type "list", data := .seq ([Value.int thing tt] : List Value).toArray }).objs.size ≠ row := by
    obtain ⟨_, e⟩ := hrl; exact Nat.ne_of_gt (Heap.lt_size (Heap.get?_push_of_some _ e))
  have hN : ((s.heap.push { cls := .type "list", data := .seq ([Value.int thing tt] : List Value).toArray }).push { cls := .type "list", data := .seq (pvs.toArray ++ ([Value.int thing tt] : List Value).toArray) }).PlainList (s.heap.push { cls := .type "list", data := .seq ([Value.int thing tt] : List Value).toArray }).objs.size (pvs ++ [Value.int thing tt]).toArray :=
    ⟨0, by have := Heap.get?_push_size (s.heap.push { cls := .type "list", data := .seq ([Value.int thing tt] : List Value).toArray }) (o := { cls := .type "list", data := .seq (pvs.toArray ++ ([Value.int thing tt] : List Value).toArray) }) rfl; simpa using this⟩
  have Dp := (D.grow (tk := s.toks) fun b o e => Heap.get?_push_of_some { cls := .type "list", data := .seq (pvs.toArray ++ ([Value.int thing tt] : List Value).toArray) } (Heap.get?_push_of_some { cls := .type "list", data := .seq ([Value.int thing tt] : List Value).toArray } e))
  have hpl₂ : s₂.heap.PlainList (s.heap.push { cls := .type "list", data := .seq ([Value.int thing tt] : List Value).toArray }).objs.size (pvs ++ [Value.int thing tt]).toArray := k₂.list hN (Dp.list_off hN)
  generalize (s.heap.push { cls := .type "list", data := .seq ([Value.int thing tt] : List Value).toArray }).objs.size = pl' at D₂ hne hpl₂
  have hrl₂ : s₂.heap.PlainList row vs.toArray := k₂.list (PL.at hrl fun o e => Heap.get?_push_of_some _ (Heap.get?_push_of_some _ e)) hoff
  refine wpAny_execs_cons ?_
  show wpAny _ _ (exec (.If (.Compare (.Call (.Name "iadd" _) [.Name "row" _, .List [.Name "thing" _] _] [] _) [.IsNot] [.Name "row" _] _) _ [] _) _) _ _ _
  have hr₂ : (fun y => if y = ("plain" : Str) then some (Value.ref pl') else m y) "row" = some (.ref row) := (if_neg (by decide)).trans hr
  refine wpAny_If (wpAny_isTrue_Compare1 (callByName (i := 9) D₂.lf.b.g (D₂.lf.b.fns (9, 63, 62) (by decide)) rfl (args_cons (ll D₂.lf hr₂ (args_cons (List_ (args_cons (lc D₂.lf hth (args_nil (wpAny_newList (args_nil ⟨fun o q => Heap.get?_push_of_some _ q, ?_⟩) (by show 1 ≤ sizeLine; decide)))))))))))
  have D₃ := D₂.push (tk := s₂.toks) (o := { cls := .type "list", data := .seq ([Value.int thing tt] : List Value).toArray })
  have hrl₃ : (s₂.heap.push { cls := .type "list", data := .seq ([Value.int thing tt] : List Value).toArray }).PlainList row vs.toArray := PL.at hrl₂ fun o e => Heap.get?_push_of_some _ e
  refine fn_iadd (s := { s₂ with heap := s₂.heap.push { cls := .type "list", data := .seq ([Value.int thing tt] : List Value).toArray } }) (v := .int thing tt) D₃.lf.b hd hrl₃ ⟨0, Heap.get?_push_size _ rfl⟩ (by omega) fun h' tk k' hv' => ?_
  have F' : Lf h₀ L mg mb h' (fun y => if y = ("plain" : Str) then some (Value.ref pl') else m y) cm := D₃.lf.kb k' fun b q => by rw [List.mem_singleton.mp q]; exact ⟨hoff, hr0⟩
  refine ll F' hr₂ (wpAny_isNot_ref_self (wpAny_truthy_bool ?_))
  rw [if_neg (by decide)]
  refine wpAny_execs_nil (wpAny_execs_nil ?_)
  refine h h' tk _ _ pl' _ _ D₃ (if_pos rfl) (fun y hy => if_neg hy) hne (PL.at hpl₂ fun o e => Heap.get?_push_of_some _ e) (ints_app1 hpi thing tt) k' hv' (ints_app1 hri thing tt) fun n t hn => ?_
  rcases List.mem_append.mp hn with hn | hn
  · exact hTv n t hn
  · cases List.mem_singleton.mp hn; exact hT
end

section
variable {prog : Program} {w : World} {A : Around} {s s₀ : Shared} {mg mb : Str → Option Value} {E : Value → Shared → Prop} {h₀ h h' : Heap} {L : Addr} {m cm : Str → Option Value} {T : Int → Tok → Prop}

theorem Gro.trans {s s₁ s₂ : Shared} (a : Gro s s₁) (b : Gro s₁ s₂) : Gro s s₂ := by
  obtain ⟨h, tk, rfl, k⟩ := a
  obtain ⟨h', tk', rfl, k'⟩ := b
  exact ⟨h', tk', rfl, fun b o e => k' b o (k b o e)⟩
theorem Gro.kp {s s₁ : Shared} (a : Gro s s₁) : ∀ b o, s.heap.get? b = some o → s₁.heap.get? b = some o := by
  obtain ⟨h, tk, rfl, k⟩ := a
  exact k
theorem Gro.dead {s s₁ : Shared} (a : Gro s s₁) {b : Addr} (h : s₁.heap.get? b = none) : s.heap.get? b = none := by
  cases e : s.heap.get? b with
  | none => rfl
  | some o => have := a.kp b o e; rw [h] at this; cases this
theorem Gro.push {s : Shared} {o : Obj} : Gro s { s with heap := s.heap.push o } := ⟨_, _, rfl, fun _ _ e => Heap.get?_push_of_some _ e⟩
theorem Gro.toks {s : Shared} {tk : Nat} : Gro s { s with toks := tk } := ⟨_, _, rfl, fun _ _ e => e⟩
theorem Gro.refl {s : Shared} : Gro s s := ⟨_, _, rfl, fun _ _ e => e⟩

/-- the sum of two lists, made anew -/
theorem sum_lists {a b : Addr} {avs bvs : List Value} {Q : Value → Shared → Prop} (ha : s.heap.PlainList a avs.toArray) (hb : s.heap.PlainList b bvs.toArray) (hz : avs.length + bvs.length ≤ 3000)
    (h : ∀ s' c, Gro s s' → s'.heap.PlainList c (avs ++ bvs).toArray → s.heap.get? c = none → Q (.ref c) s') : wpAny (model prog w) A (binaryOp .Add (.ref a) (.ref b)) Q E s := by
  obtain ⟨n1, ha⟩ := ha
  obtain ⟨n2, hb⟩ := hb
  refine P.add_list ha hb (h _ _ Gro.push ⟨0, ?_⟩ (get?_size _)) (by simp; unfold sizeLine; omega)
  have := Heap.get?_push_size s.heap (o := { cls := .type "list", data := .seq (avs.toArray ++ bvs.toArray) }) rfl
  simpa using this

/-- a list of one, made anew -/
theorem one_list {v : Value} {Q : Value → Shared → Prop} (h : ∀ s' c, Gro s s' → s'.heap.PlainList c [v].toArray → s.heap.get? c = none → Q (.ref c) s') : wpAny (model prog w) A (newList [v]) Q E s :=
  wpAny_newList (h _ _ Gro.push ⟨0, Heap.get?_push_size _ rfl⟩ (get?_size _)) (by show 1 ≤ sizeLine; decide)

theorem ne_new {a row : Addr} {its : Array Value} (hr : s.heap.PlainList row its) (ha : s.heap.get? a = none) : a ≠ row := fun q => by
  obtain ⟨n, e⟩ := hr
  rw [← q, ha] at e; cases e

theorem ed_set {thing : Int} {tt ts : Tok} {pl row : Addr} {pvs vs : List Value} {xs : List Int} {j : Nat} {Q : Flow → Shared → Prop} (D : Mid h₀ L mg mb s₀ s m cm) (hd : A.depth < recursionLimit) (hth : cm "thing" = some (.int thing tt)) (hT : T thing tt) (hp : m "plain" = some (.ref pl)) (hr : m "row" = some (.ref row)) (hs : m "spot" = some (.int (j : Int) ts))
    (hpl : s.heap.PlainList pl pvs.toArray) (hpi : IntsAre pvs xs) (hrl : s.heap.PlainList row vs.toArray) (hri : IntsAre vs xs) (hTv : ∀ n t, Value.int n t ∈ vs → T n t) (hr0 : h₀.get? row = none) (hz : xs.length ≤ 900) (hj : j < xs.length)
    (h : Hand h₀ L mg mb T s₀ m cm row (xs.set j thing) Q) :
    wpAny (model prog w) A (execs (nth (ifBody edElif) 0 :: [nth (ifBody edElif) 1]) (lawEnv L)) Q E s := by
  have lp : pvs.length = xs.length := hpi.length
  have lr : vs.length = xs.length := hri.length
  have hoff : row ∉ LC L := D.list_off hrl
  refine wpAny_execs_cons ?_
  show wpAny _ _ (exec (.Assign [.Name "plain" _] (.BinOp (.BinOp (.Subscript (.Name "plain" _) (.Slice none (some (.Name "spot" _)) none _) _) .Add (.List [.Name "thing" _] _) _) .Add (.Subscript (.Name "plain" _) (.Slice (some (.BinOp (.Name "spot" _) .Add (.Constant (.int 1) _ _) _)) none none _) _) _) _) _) _ _ _
  refine Mid.asg D (wpAny_BinOp (wpAny_BinOp (ev_upto D hp hpl hs (by omega) fun s₁ a D₁ g₁ ha hna => List_ (args_cons (lc D₁.lf hth (args_nil (one_list fun s₂ b g₂ hb hnb => sum_lists (PL.at ha (g₂.kp a)) hb (by simp; omega) fun s₃ c g₃ hc hnc => ?_)))))))
  have G : Gro s s₃ := (g₁.trans g₂).trans g₃
  refine ev_from (D.gro G) hp (PL.at hpl (G.kp pl)) hs (by omega) fun s₄ e D₄ g₄ he hne' => sum_lists (PL.at hc (g₄.kp c)) he (by simp; omega) fun s₅ f g₅ hf hnf => ?_
  have G' : Gro s s₅ := (G.trans g₄).trans g₅
  refine ⟨m, cm, D.gro G', fun s₆ D₆ k₆ => ?_⟩
  have hnew : s.heap.get? f = none := (G.trans g₄).dead hnf
  have hne : f ≠ row := ne_new hrl hnew
  have hf₆ := k₆.list hf ((D.gro G').list_off hf)
  have hrl₆ : s₆.heap.PlainList row vs.toArray := k₆.list (PL.at hrl (G'.kp row)) hoff
  have hI : IntsAre (pvs.take j ++ [Value.int thing tt] ++ pvs.drop (j + 1)) (xs.set j thing) := by
    rw [← take_set_drop xs hj thing]
    exact (ints_app1 (ints_take hpi j) thing tt).append (ints_drop hpi (j + 1))
  refine wpAny_execs_cons ?_
  show wpAny _ _ (exec (.If (.Compare (.Call (.Name "setitem" _) [.Name "row" _, .Name "spot" _, .Name "thing" _] [] _) [.IsNot] [.Constant .none _ _] _) _ [] _) _) _ _ _
  have hr₂ : (fun y => if y = ("plain" : Str) then some (Value.ref f) else m y) "row" = some (.ref row) := (if_neg (by decide)).trans hr
  have hs₂ : (fun y => if y = ("plain" : Str) then some (Value.ref f) else m y) "spot" = some (.int (j : Int) ts) := (if_neg (by decide)).trans hs
  refine wpAny_If (wpAny_isTrue_Compare1 (callByName (i := 8) D₆.lf.b.g (D₆.lf.b.fns (8, 56, 55) (by decide)) rfl (args_cons (ll D₆.lf hr₂ (args_cons (ll D₆.lf hs₂ (args_cons (lc D₆.lf hth (args_nil ⟨fun o q => q, ?_⟩)))))))))
  refine fn_setitem (v := .int thing tt) D₆.lf.b hd hrl₆ (by omega) (by omega) fun h' tk k' hv' => ?_
  refine wpAny_Constant_none (wpAny_isNot_self rfl (wpAny_truthy_bool ?_))
  rw [if_neg (by decide)]
  refine wpAny_execs_nil (wpAny_execs_nil ?_)
  refine h h' tk _ _ f _ _ D₆ (if_pos rfl) (fun y hy => if_neg hy) hne hf₆ hI k' hv' (ints_set hri j thing tt) fun n t hn => ?_
  rcases List.mem_or_eq_of_mem_set hn with hn | hn
  · exact hTv n t hn
  · cases hn; exact hT

theorem ed_del {ts : Tok} {pl row : Addr} {pvs vs : List Value} {xs : List Int} {j : Nat} {Q : Flow → Shared → Prop} (D : Mid h₀ L mg mb s₀ s m cm) (hd : A.depth < recursionLimit) (hp : m "plain" = some (.ref pl)) (hr : m "row" = some (.ref row)) (hs : m "spot" = some (.int (j : Int) ts))
    (hpl : s.heap.PlainList pl pvs.toArray) (hpi : IntsAre pvs xs) (hrl : s.heap.PlainList row vs.toArray) (hri : IntsAre vs xs) (hTv : ∀ n t, Value.int n t ∈ vs → T n t) (hr0 : h₀.get? row = none) (hz : xs.length ≤ 900) (hj : j < xs.length)
    (h : Hand h₀ L mg mb T s₀ m cm row (xs.eraseIdx j) Q) :
    wpAny (model prog w) A (execs (nth (ifElse edElif) 0 :: [nth (ifElse edElif) 1]) (lawEnv L)) Q E s := by
  have lp : pvs.length = xs.length := hpi.length
  have lr : vs.length = xs.length := hri.length
  have hoff : row ∉ LC L := D.list_off hrl
  refine wpAny_execs_cons ?_
  show wpAny _ _ (exec (.Assign [.Name "plain" _] (.BinOp (.Subscript (.Name "plain" _) (.Slice none (some (.Name "spot" _)) none _) _) .Add (.Subscript (.Name "plain" _) (.Slice (some (.BinOp (.Name "spot" _) .Add (.Constant (.int 1) _ _) _)) none none _) _) _) _) _) _ _ _
  refine Mid.asg D (wpAny_BinOp (ev_upto D hp hpl hs (by omega) fun s₁ c D₁ g₁ hc hnc => ?_))
  refine ev_from D₁ hp (PL.at hpl (g₁.kp pl)) hs (by omega) fun s₄ e D₄ g₄ he hne' => sum_lists (PL.at hc (g₄.kp c)) he (by simp; omega) fun s₅ f g₅ hf hnf => ?_
  have G' : Gro s s₅ := (g₁.trans g₄).trans g₅
  refine ⟨m, cm, D.gro G', fun s₆ D₆ k₆ => ?_⟩
  have hnew : s.heap.get? f = none := (g₁.trans g₄).dead hnf
  have hne : f ≠ row := ne_new hrl hnew
  have hf₆ := k₆.list hf ((D.gro G').list_off hf)
  have hrl₆ : s₆.heap.PlainList row vs.toArray := k₆.list (PL.at hrl (G'.kp row)) hoff
  have hI : IntsAre (pvs.take j ++ pvs.drop (j + 1)) (xs.eraseIdx j) := by
    rw [← take_drop_erase xs j]
    exact (ints_take hpi j).append (ints_drop hpi (j + 1))
  refine wpAny_execs_cons ?_
  show wpAny _ _ (exec (.If (.Compare (.Call (.Name "delitem" _) [.Name "row" _, .Name "spot" _] [] _) [.IsNot] [.Constant .none _ _] _) _ [] _) _) _ _ _
  have hr₂ : (fun y => if y = ("plain" : Str) then some (Value.ref f) else m y) "row" = some (.ref row) := (if_neg (by decide)).trans hr
  have hs₂ : (fun y => if y = ("plain" : Str) then some (Value.ref f) else m y) "spot" = some (.int (j : Int) ts) := (if_neg (by decide)).trans hs
  refine wpAny_If (wpAny_isTrue_Compare1 (callByName (i := 6) D₆.lf.b.g (D₆.lf.b.fns (6, 42, 41) (by decide)) rfl (args_cons (ll D₆.lf hr₂ (args_cons (ll D₆.lf hs₂ (args_nil ⟨fun o q => q, ?_⟩)))))))
  refine fn_delitem D₆.lf.b hd hrl₆ (by omega) (by omega) fun h' tk k' hv' => ?_
  refine wpAny_Constant_none (wpAny_isNot_self rfl (wpAny_truthy_bool ?_))
  rw [if_neg (by decide)]
  refine wpAny_execs_nil (wpAny_execs_nil ?_)
  refine h h' tk _ _ f _ _ D₆ (if_pos rfl) (fun y hy => if_neg hy) hne hf₆ hI k' hv' (ints_erase hri j) fun n t hn => hTv n t (List.mem_of_mem_eraseIdx hn)

/-- an edit of the row, whole -/
theorem st_edit {x kind thing : Int} {t tk tt : Tok} {pl row : Addr} {pvs vs : List Value} {xs : List Int} {Q : Flow → Shared → Prop} (F : Lf h₀ L mg mb s.heap m cm) (hh : A.handled = none) (hu : A.units + 64 < cLine) (hd : A.depth < recursionLimit)
    (hx : m "x" = some (.int x t)) (hk : cm "kind" = some (.int kind tk)) (hth : cm "thing" = some (.int thing tt)) (hT : T thing tt) (hp : m "plain" = some (.ref pl)) (hr : m "row" = some (.ref row))
    (hpl : s.heap.PlainList pl pvs.toArray) (hpi : IntsAre pvs xs) (hrl : s.heap.PlainList row vs.toArray) (hri : IntsAre vs xs) (hTv : ∀ n t, Value.int n t ∈ vs → T n t) (hr0 : h₀.get? row = none) (hz : xs.length ≤ 900)
    (h : ∀ s' xs', (∀ n ∈ xs', n ∈ xs ∨ n = thing) → xs'.length ≤ xs.length + 1 → Ed h₀ L mg mb T row s m cm xs' s' → Q .cont s') :
    wpAny (model prog w) A (execs edBody (lawEnv L)) Q E s := by
  have lp : pvs.length = xs.length := hpi.length
  have lr : vs.length = xs.length := hri.length
  rw [show edBody = nth edBody 0 :: nth edBody 1 :: [nth edBody 2, nth edBody 3] from rfl]
  refine wpAny_execs_cons (st_spot F.mid hh hx hp hpl (by omega) fun s₁ u D₁ k₁ => ?_)
  have hrow_off : row ∉ LC L := F.mid.list_off hrl
  have hpl₁ : s₁.heap.PlainList pl pvs.toArray := k₁.list hpl (F.mid.list_off hpl)
  have hrl₁ : s₁.heap.PlainList row vs.toArray := k₁.list hrl hrow_off
  have hp₁ : (fun y => if y = ("spot" : Str) then some (Value.int (spotOf x pvs.length : Int) u) else m y) "plain" = some (.ref pl) := (if_neg (by decide)).trans hp
  have hr₁ : (fun y => if y = ("spot" : Str) then some (Value.int (spotOf x pvs.length : Int) u) else m y) "row" = some (.ref row) := (if_neg (by decide)).trans hr
  have hs₁ : (fun y => if y = ("spot" : Str) then some (Value.int (spotOf x pvs.length : Int) u) else m y) "spot" = some (.int (spotOf x pvs.length : Int) u) := if_pos rfl
  have hm₁ : ∀ y : Str, y ≠ "spot" → y ≠ "plain" → (fun y => if y = ("spot" : Str) then some (Value.int (spotOf x pvs.length : Int) u) else m y) y = m y := fun y h1 _ => if_neg h1
  generalize (fun y => if y = ("spot" : Str) then some (Value.int (spotOf x pvs.length : Int) u) else m y) = m₁ at D₁ hp₁ hr₁ hs₁ hm₁
  refine wpAny_execs_cons ?_
  show wpAny _ _ (exec (.If (.BoolOp .Or [.Compare (.Name "kind" _) [.Eq] [.Constant (.int 7) _ _] _, .Compare (.Name "plain" _) [.Eq] [.List [] _] _] _) (nth (ifBody edIf) 0 :: [nth (ifBody edIf) 1]) [edElif] _) _) _ _ _
  have fin : ∀ {xs' : List Int}, (∀ n ∈ xs', n ∈ xs ∨ n = thing) → xs'.length ≤ xs.length + 1 →
      Hand h₀ L mg mb T s m₁ cm row xs' (fun fl s₁ => match fl with | .next => wpAny (model prog w) A (execs [nth edBody 2, nth edBody 3] (lawEnv L)) Q E s₁ | f => Q f s₁) := by
    intro xs' h1 h2 h' tk s₃ m₃ pl' pvs' vs' D₃ hp₃ hm₃ hne hpl₃ hpi₃ k₃ hv₃ hvi₃ hT₃
    exact ed_fin (m₀ := m) D₃ hu (fun y a b => (hm₃ y b).trans (hm₁ y a b)) ((hm₃ "row" (by decide)).trans hr₁) hp₃ hne hpl₃ hpi₃ k₃ hv₃ hvi₃ hT₃ hrow_off hr0 fun ed => h _ xs' h1 h2 ed
  have app : ∀ {s₂ : Shared}, Mid h₀ L mg mb s s₂ m₁ cm → s₂.heap.PlainList pl pvs.toArray → s₂.heap.PlainList row vs.toArray → wpAny (model prog w) A (execs (nth (ifBody edIf) 0 :: [nth (ifBody edIf) 1]) (lawEnv L)) (fun fl s₁ => match fl with | .next => wpAny (model prog w) A (execs [nth edBody 2, nth edBody 3] (lawEnv L)) Q E s₁ | f => Q f s₁) E s₂ :=
    fun D a b => ed_app D hd hth hT hp₁ hr₁ a hpi b hri hTv hr0 hz (fin (fun n hn => by
      rcases List.mem_append.mp hn with hn | hn
      · exact .inl hn
      · exact .inr (List.mem_singleton.mp hn)) (by simp))
  refine wpAny_If (isTrue_or (wpAny_isTrue_Compare1 (lc D₁.lf hk (wpAny_Constant_int (PyProof.Rows.eq_int (wpAny_truthy_bool ?_))))))
  have D₂ := D₁.toks (tk := s₁.toks + 1)
  by_cases h7 : kind = 7
  · rw [if_pos (by simpa using h7)]
    exact app D₂ hpl₁ hrl₁
  rw [if_neg (by simpa using h7)]
  refine isTrue_or (wpAny_isTrue_Compare1 (ll D₂.lf hp₁ (List_ (args_nil (wpAny_newList (ke_eq_ints (xs := pvs) (ys := []) (ns := xs) (ms := []) (PL.isList (PL.at hpl₁ fun o e => Heap.get?_push_of_some _ e)) ⟨_, Heap.get?_push_size _ rfl, rfl, 0, rfl⟩ hpi .nil hu (wpAny_truthy_bool ?_)) (by decide))))))
  have D₃ := D₂.push (tk := s₁.toks + 1) (o := { cls := .type "list", data := .seq ([] : List Value).toArray })
  have hpl₃ : (s₁.heap.push { cls := .type "list", data := .seq ([] : List Value).toArray }).PlainList pl pvs.toArray := PL.at hpl₁ fun o e => Heap.get?_push_of_some _ e
  have hrl₃ : (s₁.heap.push { cls := .type "list", data := .seq ([] : List Value).toArray }).PlainList row vs.toArray := PL.at hrl₁ fun o e => Heap.get?_push_of_some _ e
  by_cases h0 : xs = []
  · rw [if_pos (by simpa using h0)]
    exact app D₃ hpl₃ hrl₃
  rw [if_neg (by simpa using h0)]
  have hpos : 0 < xs.length := List.length_pos_iff.mpr h0
  have hj : spotOf x pvs.length < xs.length := by rw [lp]; exact spotOf_lt x hpos
  refine isTrue_or_nil ?_
  rw [if_neg (by decide)]
  refine wpAny_execs_cons ?_
  show wpAny _ _ (exec (.If (.Compare (.Name "kind" _) [.Eq] [.Constant (.int 5) _ _] _) (nth (ifBody edElif) 0 :: [nth (ifBody edElif) 1]) (nth (ifElse edElif) 0 :: [nth (ifElse edElif) 1]) _) _) _ _ _
  refine wpAny_If (wpAny_isTrue_Compare1 (lc D₃.lf hk (wpAny_Constant_int (PyProof.Rows.eq_int (wpAny_truthy_bool ?_)))))
  have D₄ := D₃.toks (tk := s₁.toks + 1 + 1)
  by_cases h5 : kind = 5
  · rw [if_pos (by simpa using h5)]
    refine ed_set D₄ hd hth hT hp₁ hr₁ hs₁ hpl₃ hpi hrl₃ hri hTv hr0 hz hj ?_
    intro h' tk s₃ m₃ pl' pvs' vs' a1 a2 a3 a4 a5 a6 a7 a8 a9 a10
    exact wpAny_execs_nil (fin (fun n hn => List.mem_or_eq_of_mem_set hn) (by simp) h' tk s₃ m₃ pl' pvs' vs' a1 a2 a3 a4 a5 a6 a7 a8 a9 a10)
  · rw [if_neg (by simpa using h5)]
    refine ed_del D₄ hd hp₁ hr₁ hs₁ hpl₃ hpi hrl₃ hri hTv hr0 hz hj ?_
    intro h' tk s₃ m₃ pl' pvs' vs' a1 a2 a3 a4 a5 a6 a7 a8 a9 a10
    exact wpAny_execs_nil (fin (fun n hn => .inl (List.mem_of_mem_eraseIdx hn)) (by have := List.length_eraseIdx_le xs (spotOf x pvs.length); omega) h' tk s₃ m₃ pl' pvs' vs' a1 a2 a3 a4 a5 a6 a7 a8 a9 a10)
end

section
variable {prog : Program} {w : World} {A : Around} {s s₀ : Shared} {mg mb : Str → Option Value} {E : Value → Shared → Prop} {h₀ h h' : Heap} {L : Addr} {m cm : Str → Option Value} {T : Int → Tok → Prop}

theorem extNew {h h' : Heap} (k : Heap.ExtBut h.objs.size h h') : ∀ b o, h.get? b = some o → h'.get? b = some o := fun b o e => k b o (Nat.ne_of_lt (Heap.lt_size e)) e

def upd (x : Str) (v : Value) (m : Str → Option Value) : Str → Option Value := fun y => if y = x then some v else m y

/-- one of the unpacked names -/
theorem asg1 {x : Str} {p : Pos} {v : Value} {ts : List (Value → Sem Unit)} {xs : List Value} {Q : Unit → Shared → Prop} (D : Mid h₀ L mg mb s₀ s m cm)
    (h : ∀ s', Mid h₀ L mg mb s₀ s' (upd x v m) cm → KB (LC L) s.heap s'.heap → wpAny (model prog w) A (assignInOrder ts xs) Q E s')
    (hl : (lawEnv L).kindOf x = some .local := by rfl) : wpAny (model prog w) A (assignInOrder (assign (.Name x p) (lawEnv L) :: ts) (v :: xs)) Q E s :=
  assignInOrder_cons (PyProof.Rows.assign_Name (D.st h hl))

/-- walk, place, known, again = states[x % 2] -/
theorem st_unpack {x : Int} {t : Tok} {sts tup t0 t1 : Addr} {v1 v2 v3 v4 : Value} {Q : Flow → Shared → Prop} (D : Mid h₀ L mg mb s₀ s m cm) (hh : A.handled = none) (hx : m "x" = some (.int x t)) (hs : m "states" = some (.ref sts))
    (hl : s.heap.PlainList sts [Value.ref t0, .ref t1].toArray) (htp : tup = if x.fmod 2 = 0 then t0 else t1) (ht : IsTup s.heap tup #[v1, v2, v3, v4])
    (h : ∀ s', Mid h₀ L mg mb s₀ s' (upd "again" v4 (upd "known" v3 (upd "place" v2 (upd "walk" v1 m)))) cm → KB (LC L) s.heap s'.heap → Q .next s') :
    wpAny (model prog w) A (exec (nth turn 3) (lawEnv L)) Q E s := by
  show wpAny _ _ (exec (.Assign [.Tuple [.Name "walk" _, .Name "place" _, .Name "known" _, .Name "again" _] _ _] (.Subscript (.Name "states" _) (.BinOp (.Name "x" _) .Mod (.Constant (.int 2) _ _) _) _) _) _) _ _ _
  refine Assign_Tuple (Subscript_ (ll D.lf hs (wpAny_BinOp (ll D.lf hx (wpAny_Constant_int (mod_int (by decide) ?_))))))
  have lo : 0 ≤ x.fmod 2 := Int.fmod_nonneg_of_pos _ (by decide)
  have hi : x.fmod 2 < 2 := Int.fmod_lt_of_pos _ (by decide)
  refine item_listL (l := [Value.ref t0, .ref t1]) (x := .ref tup) (PL.isList hl) lo (by omega) ?_ ?_
  · have : x.fmod 2 = 0 ∨ x.fmod 2 = 1 := by omega
    rcases this with q | q
    · rw [htp, q]; rfl
    · rw [htp, q]; rfl
  have D1 := D.toks (tk := s.toks + 1 + 1)
  refine assign_Tuple_tuple (items := #[v1, v2, v3, v4]) hh ht rfl rfl fun h₁ he => ?_
  have k₁ := extNew he
  have D2 := D1.grow (tk := s.toks + 1 + 1) k₁
  show wpAny _ _ (assignInOrder [assign (.Name "walk" _) _, assign (.Name "place" _) _, assign (.Name "known" _) _, assign (.Name "again" _) _] [v1, v2, v3, v4]) _ _ _
  refine asg1 D2 fun s₃ D₃ k₃ => asg1 D₃ fun s₄ D₄ k₄ => asg1 D₄ fun s₅ D₅ k₅ => asg1 D₅ fun s₆ D₆ k₆ => assignInOrder_nil ?_
  exact h _ D₆ fun b o hb e => k₆ b o hb (k₅ b o hb (k₄ b o hb (k₃ b o hb (k₁ b o e))))

/-- ahead, beyond = ([], again) if again > 0 else _law_ahead(plain, place, known) -/
theorem st_ahead {place again : Int} {tp ta : Tok} {pl k : Addr} {pvs kvs : List Value} {xs known : List Int} {Q : Flow → Shared → Prop} (D : Mid h₀ L mg mb s₀ s m cm) (hh : A.handled = none) (hd : A.depth < recursionLimit) (hu : A.units + 80 < cLine)
    (hp : m "plain" = some (.ref pl)) (hpl : m "place" = some (.int place tp)) (hk : m "known" = some (.ref k)) (ha : m "again" = some (.int again ta))
    (hpv : s.heap.PlainList pl pvs.toArray) (hpi : IntsAre pvs xs) (hkv : s.heap.PlainList k kvs.toArray) (hki : IntsAre kvs known) (h0 : 0 ≤ place) (hz : xs.length ≤ 900) (hkz : known.length ≤ 900)
    (h : ∀ s' Ah avs tb, Mid h₀ L mg mb s₀ s' (upd "beyond" (.int (if again > 0 then again else beyondOf known (xs.drop place.toNat)) tb) (upd "ahead" (.ref Ah) m)) cm → KB (LC L) s.heap s'.heap →
      s'.heap.PlainList Ah avs.toArray → IntsAre avs (if again > 0 then [] else aheadOf (xs.drop place.toNat)) → Q .next s') :
    wpAny (model prog w) A (exec (nth turn 4) (lawEnv L)) Q E s := by
  show wpAny _ _ (exec (.Assign [.Tuple [.Name "ahead" _, .Name "beyond" _] _ _] (.IfExp (.Compare (.Name "again" _) [.Gt] [.Constant (.int 0) _ _] _) (.Tuple [.List [] _, .Name "again" _] _ _) (.Call (.Name "_law_ahead" _) [.Name "plain" _, .Name "place" _, .Name "known" _] [] _) _) _) _) _ _ _
  have fin : ∀ {s₁ : Shared} {P Ah : Addr} {avs : List Value} {b : Int} {tb : Tok}, Mid h₀ L mg mb s₀ s₁ m cm → Gro s s₁ → s₁.heap.IsTuple P #[.ref Ah, .int b tb] → s₁.heap.PlainList Ah avs.toArray →
      (∀ s', Mid h₀ L mg mb s₀ s' (upd "beyond" (.int b tb) (upd "ahead" (.ref Ah) m)) cm → KB (LC L) s.heap s'.heap → s'.heap.PlainList Ah avs.toArray → Q .next s') →
      wpAny (model prog w) A (assign (.Tuple [.Name "ahead" ⟨97, 8, 97, 13⟩, .Name "beyond" ⟨97, 15, 97, 21⟩] 0 ⟨97, 8, 97, 21⟩) (lawEnv L) (.ref P)) (fun _ => Q .next) E s₁ := by
    intro s₁ P Ah avs b tb D₁ g₁ hP hA hq
    refine assign_Tuple_tuple (items := #[.ref Ah, .int b tb]) hh hP rfl rfl fun h₁ he => ?_
    have k₁ := extNew he
    have D₂ := D₁.grow (tk := s₁.toks) k₁
    show wpAny _ _ (assignInOrder [assign (.Name "ahead" _) _, assign (.Name "beyond" _) _] [.ref Ah, .int b tb]) _ _ _
    refine asg1 D₂ fun s₃ D₃ k₃ => asg1 D₃ fun s₄ D₄ k₄ => assignInOrder_nil ?_
    have hA₂ : h₁.PlainList Ah avs.toArray := PL.at hA fun o e => k₁ _ o e
    have hA₃ := k₃.list hA₂ (D₂.list_off hA₂)
    exact hq _ D₄ (fun b o hb e => k₄ b o hb (k₃ b o hb (k₁ b o (g₁.kp b o e)))) (k₄.list hA₃ (D₃.list_off hA₃))
  refine Assign_Tuple (wpAny_IfExp (wpAny_isTrue_Compare1 (ll D.lf ha (wpAny_Constant_int (gt_int (wpAny_truthy_bool ?_))))))
  have D1 := D.toks (tk := s.toks + 1)
  by_cases hg : again > 0
  · rw [if_pos (by simpa using hg)]
    refine Tuple_ (args_cons (List_ (args_nil (wpAny_newList (args_cons (ll (D1.push (tk := s.toks + 1) (o := { cls := .type "list", data := .seq ([] : List Value).toArray })).lf ha (args_nil (wpAny_newTuple ?_)))) (by decide)))))
    refine fin (avs := []) (D1.grow (tk := s.toks + 1) fun b o e => Heap.get?_push_of_some _ (Heap.get?_push_of_some _ e)) ⟨_, _, rfl, fun b o e => Heap.get?_push_of_some _ (Heap.get?_push_of_some _ e)⟩ ⟨_, Heap.get?_push_size _ rfl, rfl, 0, rfl⟩ ⟨0, Heap.get?_push_of_some _ (Heap.get?_push_size _ rfl)⟩ fun s' D' k' hA' => ?_
    refine h s' _ [] ta ?_ k' hA' ?_
    · rw [if_pos hg]; exact D'
    · rw [if_pos hg]; exact .nil
  · rw [if_neg (by simpa using hg)]
    refine callByName (i := 11) D1.lf.b.g (D1.lf.b.fns (11, 70, 69) (by decide)) rfl (args_cons (ll D1.lf hp (args_cons (ll D1.lf hpl (args_cons (ll D1.lf hk (args_nil ⟨fun o q => q, ?_⟩)))))))
    refine fn_ahead (xs := xs) (known := known) D1.lf.b hh hd hu hpv hpi hkv hki h0 (by omega) (by omega) fun s₂ P Ah avs tb g₂ hP hA hAi _ _ => ?_
    refine fin (D1.gro g₂) (Gro.toks.trans g₂) hP hA fun s' D' k' hA' => ?_
    refine h s' Ah avs tb ?_ k' hA' ?_
    · rw [if_neg hg]; exact D'
    · rw [if_neg hg]; exact hAi

def lineOf (ahead : List Int) (beyond : Int) : List Int := if beyond > 0 then ahead ++ [beyond] else ahead

/-- line = ahead + [beyond] if beyond > 0 else ahead -/
theorem st_line {beyond : Int} {tb : Tok} {Ah : Addr} {avs : List Value} {ahead : List Int} {Q : Flow → Shared → Prop} (D : Mid h₀ L mg mb s₀ s m cm)
    (ha : m "ahead" = some (.ref Ah)) (hb : m "beyond" = some (.int beyond tb)) (hA : s.heap.PlainList Ah avs.toArray) (hi : IntsAre avs ahead) (hz : ahead.length ≤ 900)
    (h : ∀ s' Ln lvs, Mid h₀ L mg mb s₀ s' m (upd "line" (.ref Ln) cm) → KB (LC L) s.heap s'.heap → s'.heap.PlainList Ln lvs.toArray → IntsAre lvs (lineOf ahead beyond) → Q .next s') :
    wpAny (model prog w) A (exec (nth turn 5) (lawEnv L)) Q E s := by
  have la : avs.length = ahead.length := hi.length
  show wpAny _ _ (exec (.Assign [.Name "line" _] (.IfExp (.Compare (.Name "beyond" _) [.Gt] [.Constant (.int 0) _ _] _) (.BinOp (.Name "ahead" _) .Add (.List [.Name "beyond" _] _) _) (.Name "ahead" _) _) _) _) _ _ _
  refine Mid.asgc D (wpAny_IfExp (wpAny_isTrue_Compare1 (ll D.lf hb (wpAny_Constant_int (gt_int (wpAny_truthy_bool ?_))))))
  have D1 := D.toks (tk := s.toks + 1)
  by_cases hg : beyond > 0
  · rw [if_pos (by simpa using hg)]
    refine wpAny_BinOp (ll D1.lf ha (List_ (args_cons (ll D1.lf hb (args_nil (one_list fun s₂ b g₂ hb' _ => sum_lists (PL.at hA (g₂.kp Ah)) hb' (by simp; omega) fun s₃ c g₃ hc _ => ?_))))))
    have G : Gro s s₃ := (Gro.toks.trans g₂).trans g₃
    refine ⟨m, cm, D.gro G, fun s' D' k' => h s' c _ D' (fun b o hb e => k' b o hb (G.kp b o e)) (k'.list hc ((D.gro G).list_off hc)) ?_⟩
    unfold lineOf; rw [if_pos hg]; exact ints_app1 hi beyond tb
  · rw [if_neg (by simpa using hg)]
    refine ll D1.lf ha ⟨m, cm, D1, fun s' D' k' => h s' Ah avs D' k' (k'.list hA (D.list_off hA)) ?_⟩
    unfold lineOf; rw [if_neg hg]; exact hi
end

def asgVal : Stmt → PySem.Expr
  | .Assign _ v _ => v
  | _ => default
def compScope : PySem.Expr → Scope
  | .ListComp _ _ sc _ => sc
  | _ => default
def compGens : PySem.Expr → List Comprehension
  | .ListComp _ g _ _ => g
  | _ => []
def compIfs (e : PySem.Expr) : List PySem.Expr := match compGens e with | g :: _ => g.ifs | [] => []
def fitScope : Scope := compScope (asgVal (nth turn 6))
def fitCl (L : Addr) : List (Str × Addr) := [("thing", L + 1 + 1 + 1 + 1), ("line", L + 1 + 1 + 1 + 1 + 1), ("kind", L + 1 + 1 + 1)]
theorem fit_clos (L : Addr) : closureFor fitScope (lawEnv L) = pure (fitCl L) := rfl

/-- a pairing over values is one over their ints -/
theorem paired_over {Fy : Int → Value → Prop} {vs ys : List Value} {as : List Int} (hi : AreOf .int vs as) (h : Paired (fun v y => ∃ a, ItemKind.int.is a v ∧ Fy a y) vs ys) : Paired Fy as ys := by
  induction hi generalizing ys with
  | nil => cases h; exact .nil
  | cons hv _ ih =>
    cases h with
    | cons hy ht =>
      obtain ⟨b, hb, hF⟩ := hy
      obtain ⟨t, rfl⟩ := hv
      obtain ⟨u, q⟩ := hb
      cases q
      exact .cons hF (ih ht)

section
variable {prog : Program} {w : World} {A : Around} {s s₀ : Shared} {mg mb : Str → Option Value} {E : Value → Shared → Prop} {h₀ h h' : Heap} {L : Addr} {m cm : Str → Option Value} {T : Int → Tok → Prop}

theorem comp_range {elt iter : PySem.Expr} {x y : Str} {px py : Pos} {ifs : List PySem.Expr} {scope : Scope} {cl : List (Str × Addr)} {pos spos : Pos} {Q : Flow → Shared → Prop} (pz : Int → Bool) (Fy : Int → Value → Prop)
    (hsw : swapsWith (.ListComp elt [⟨.Name x px, iter, ifs, 0⟩] scope pos) (some (.Name y py)) spos.line (lawEnv L) = pure true)
    (hclos : closureFor scope (lawEnv L) = pure cl) (hcell : ∀ z ∈ scope.names, z.2 ≠ .cell) (hkind : scope.kind = .function)
    (hnames : ∀ z ∈ scope.names, z.2 = .local → scope.names.lookup z.1 = some .local) (hx : scope.names.lookup x = some .local)
    (hy : (lawEnv L).kindOf y = some .local) (hh : A.handled = none)
    (h : wpAny (model prog w) A (eval iter (lawEnv L)) (fun xv s₁ => ∃ r, ∃ n : Nat, ∃ t u v, xv = .ref r ∧ IsRange s₁.heap r 0 (n : Int) 1 t u v ∧ n ≤ 1000 ∧ Mid h₀ L mg mb s₀ s₁ m cm ∧
      (∀ C a v s₂ m₂ E', s₁.heap.objs.size ≤ C → a ∈ rangeInts 0 1 n → ItemKind.int.is a v → s₂.heap.Ns C m₂ → m₂ x = some v → (∀ b o, s₁.heap.get? b = some o → s₂.heap.get? b = some o) →
        wpAny (model prog w) A (forIn ifs true fun c r => if r = true then do let ok ← isTrue c (compEnvC scope cl C (lawEnv L)) (eval c (compEnvC scope cl C (lawEnv L))); pure (ForInStep.yield ok) else pure (ForInStep.yield r))
          (fun ok s₃ => ok = pz a ∧ Keeps s₂ s₃) E' s₂) ∧
      (∀ C a v s₂ m₂ E', s₁.heap.objs.size ≤ C → a ∈ rangeInts 0 1 n → ItemKind.int.is a v → pz a = true → s₂.heap.Ns C m₂ → m₂ x = some v → (∀ b o, s₁.heap.get? b = some o → s₂.heap.get? b = some o) →
        wpAny (model prog w) A (eval elt (compEnvC scope cl C (lawEnv L))) (fun y s₃ => Fy a y ∧ Keeps s₂ s₃) E' s₂) ∧
      (∀ D (ys : List Value) s', Mid h₀ L mg mb s₀ s' (upd y (.ref D) m) cm → KB (LC L) s₁.heap s'.heap → s₁.heap.get? D = none → s'.heap.PlainList D ys.toArray → Paired Fy ((rangeInts 0 1 n).filter pz) ys → Q .next s')) E s)
    (hs : ∀ x, foldedSetIterable iter (lawEnv L) x = pure x := by intro _; rfl) :
    wpAny (model prog w) A (exec (.Assign [.Name y py] (.ListComp elt [⟨.Name x px, iter, ifs, 0⟩] scope pos) spos) (lawEnv L)) Q E s := by
  refine wpAny_Assign_ListComp_free (ItemKind.int.lift pz) (fun v y => ∃ a, ItemKind.int.is a v ∧ Fy a y) hsw hclos hcell hkind hnames hx hy rfl (wpAny_mono h (fun xv s₁ h₁ => ?_) fun _ _ e => e) hs
  obtain ⟨r, n, t, u, v, rfl, hr, hsz, D₁, htests, helt, hQ⟩ := h₁
  have hn : Builtin.Range.rangeSize 0 (n : Int) 1 = (n : Int) := by rw [rangeSize_nat]; omega
  have hsmall : Builtin.Range.small 0 (n : Int) 1 = true := small_one (by decide) (by decide) (by omega) (by omega)
  have lift : ∀ {o : Obj} {C : Nat}, (s₁.heap.push o).objs.size ≤ C → s₁.heap.objs.size ≤ C := fun {o C} q => by rw [Heap.size_push] at q; exact Nat.le_of_succ_le q
  have live : ∀ {b : Addr} {o : Obj}, s₁.heap.get? b = some o → b ∉ [s₁.heap.objs.size] := fun q z => absurd (Heap.lt_size q) (by rw [List.mem_singleton.mp z]; exact Nat.lt_irrefl _)
  have up : ∀ {o : Obj} (s₃ : Shared), KB [s₁.heap.objs.size] (s₁.heap.push o) s₃.heap → ∀ b ob, s₁.heap.get? b = some ob → s₃.heap.get? b = some ob := fun s₃ k b ob q => k b ob (live q) (Heap.get?_push_of_some _ q)
  refine wpAny_pyIter_range hr hsmall ⟨s₁.heap.objs.size, [s₁.heap.objs.size], [s₁.heap.objs.size], n, _, _, m, rfl, (Walks.range hh _ 0 1 n).bound, (by unfold sizeLine; omega), (by show IsRangeIter _ _ _ _ _; rw [hn]; simpa using Heap.get?_push_size _ rfl), ?_, ?_, D₁.lf.fr.ns.push _, ⟨?_, ?_⟩, ?_⟩
  · intro b hb
    show b < (s₁.heap.push _).objs.size
    rw [Heap.size_push]
    rcases List.mem_cons.mp hb with rfl | hb
    · exact Nat.lt_succ_self _
    · cases hb
  · intro hm
    rcases List.mem_cons.mp hm with e | hm
    · exact Nat.lt_irrefl _ (e ▸ D₁.lf.fr.ns.lt)
    · cases hm
  · intro C i v s₃ m₃ E' hC hP hn' hm hk _
    have ha : ItemKind.int.is (0 + (i : Nat) * 1) v := hP.2
    rw [ItemKind.lift_is ha]
    exact htests C _ v s₃ m₃ E' (lift hC) (List.mem_of_getElem? (rangeInts_get hP.1)) ha hn' hm (up _ hk)
  · intro C i v s₃ m₃ E' hC hP hp hn' hm hk _
    have ha : ItemKind.int.is (0 + (i : Nat) * 1) v := hP.2
    rw [ItemKind.lift_is ha] at hp
    exact wpAny_mono (helt C _ v s₃ m₃ E' (lift hC) (List.mem_of_getElem? (rangeInts_get hP.1)) ha hp hn' hm (up _ hk)) (fun y s₄ q => ⟨⟨_, ha, q.1⟩, q.2⟩) fun _ _ q => q
  · intro D h' tk ys vs' hnew hlD hplD hlen hP hF hn'' hk
    have hi : AreOf .int vs' (rangeInts 0 1 n) := AreOf.of_get (hlen.trans (rangeInts_length _ _ _).symm) fun j v hv => ⟨_, rangeInts_get (hP j v hv).1, (hP j v hv).2⟩
    have keep : ∀ b o, b ≠ L → s₁.heap.get? b = some o → h'.get? b = some o := fun b o hb q => hk b o hb (live q) (Heap.get?_push_of_some _ q)
    have kL : KB (LC L) s₁.heap h' := fun b o hb e => keep b o (fun q => hb (by rw [q]; exact .head _)) e
    refine hQ D ys.toList { s₁ with heap := h', toks := tk } ⟨⟨⟨hn'', fun b o e => keep b o (fun q => D₁.lf.old e (by rw [q]; exact .head _)) (D₁.lf.fr.keep b o e), D₁.lf.fr.above⟩, ⟨fun nm c e => ?_, D₁.lf.cl.apart, D₁.lf.cl.above⟩, D₁.lf.b.kb kL D₁.lf.low_off, D₁.lf.low⟩, fun b o hb e => kL b o hb (D₁.kp b o hb e), by rw [D₁.eq]⟩ kL ?_ (by rw [Array.toArray_toList]; exact hplD) (paired_over (hi.filter pz) hF)
    · obtain ⟨o, ho, hd⟩ := D₁.lf.cl.cell nm c e
      exact ⟨o, keep c o (Nat.ne_of_gt (D₁.lf.cl.above nm c (mem_of_lookup e))) ho, hd⟩
    · cases e : s₁.heap.get? D with
      | none => rfl
      | some o' => rw [Heap.get?_push_of_some _ e] at hnew; cases hnew
end

def fitP (kind thing : Int) (line : List Int) (k : Int) : Bool := decide (kind < 2) || (decide (kind < 4) && (line.getD k.toNat 0 == thing))
def fitOf (kind thing : Int) (line : List Int) : List Int := (rangeInts 0 1 line.length).filter (fitP kind thing line)

theorem paired_ints {as : List Int} {ys : List Value} (h : Paired (fun (a : Int) y => ∃ t, y = Value.int a t) as ys) : IntsAre ys as := by
  induction h with
  | nil => exact .nil
  | cons hf _ ih => obtain ⟨t, rfl⟩ := hf; exact .cons _ _ ih

section
variable {prog : Program} {w : World} {A : Around} {s s₀ : Shared} {mg mb : Str → Option Value} {E : Value → Shared → Prop} {h₀ h h' : Heap} {L : Addr} {m cm : Str → Option Value} {T : Int → Tok → Prop}

/-- a captured name within a comprehension -/
theorem lcc {x : Str} {pos : Pos} {v : Value} {c C : Addr} {scope : Scope} {cl : List (Str × Addr)} {Q : Value → Shared → Prop} (X : Cl L (cellsFrom (L + 1) lawScope.names []) s.heap cm) (hv : cm x = some v) (h : Q v s)
    (hc : (cellsFrom (L + 1) lawScope.names []).lookup x = some c := by rfl) (hcl : cl.lookup x = some c := by rfl) (hk : scope.kind = .function := by rfl) (hl : (compEnvC scope cl C (lawEnv L)).kindOf x = some .cell := by rfl) (hd : (x == ("__debug__" : Str)) = false := by decide) :
    wpAny (model prog w) A (eval (.Name x pos) (compEnvC scope cl C (lawEnv L))) Q E s :=
  wpAny_Name (wpAny_loadName_cell hk hl hcl (hv ▸ X.cell x c hc) h) hd

theorem st_fit {kind thing : Int} {tk tt : Tok} {Ln : Addr} {lvs : List Value} {line : List Int} {Q : Flow → Shared → Prop} (D : Mid h₀ L mg mb s₀ s m cm) (hh : A.handled = none)
    (hk : cm "kind" = some (.int kind tk)) (ht : cm "thing" = some (.int thing tt)) (hl : cm "line" = some (.ref Ln)) (hL : s.heap.PlainList Ln lvs.toArray) (hi : IntsAre lvs line) (hz : line.length ≤ 1000)
    (h : ∀ s' fi fvs, Mid h₀ L mg mb s₀ s' (upd "fit" (.ref fi) m) cm → KB (LC L) s.heap s'.heap → s'.heap.PlainList fi fvs.toArray → IntsAre fvs (fitOf kind thing line) → Q .next s') :
    wpAny (model prog w) A (exec (nth turn 6) (lawEnv L)) Q E s := by
  have ll' : lvs.length = line.length := hi.length
  show wpAny _ _ (exec (.Assign [.Name "fit" _] (.ListComp (.Name "k" _) [⟨.Name "k" _, .Call (.Name "range" _) [.Call (.Name "len" _) [.Name "line" _] [] _] [] _, [.BoolOp .Or [.Compare (.Name "kind" _) [.Lt] [.Constant (.int 2) _ _] _, .BoolOp .And [.Compare (.Name "kind" _) [.Lt] [.Constant (.int 4) _ _] _, .Compare (.Subscript (.Name "line" _) (.Name "k" _) _) [.Eq] [.Name "thing" _] _] _] _], 0⟩] fitScope _) _) _) _ _ _
  refine comp_range (h₀ := h₀) (mg := mg) (mb := mb) (s₀ := s₀) (m := m) (cm := cm) (cl := fitCl L) (fitP kind thing line) (fun a y => ∃ t, y = Value.int a t) rfl (fit_clos L) (by decide) rfl (by decide) rfl rfl hh ?_
  refine Call_ (ldB (v := .type "range") (env := lawEnv L) D.lf.b PyProof.Rows.boot_range (PyProof.Rows.callWith_type1 (args_cons (Call_ (ldB (v := .builtin "len") (env := lawEnv L) D.lf.b PySem.boot_len (PyProof.Rows.callWith_builtin1 (args_cons (lc D.lf hl (args_nil (len_list (PL.isList hL) (by simp; omega) (args_nil ?_)))))))))))
  have hsz : (lvs.toArray.size : Int) = (line.length : Int) := by simp [ll']
  rw [hsz]
  refine call_range_1 ⟨_, line.length, _, _, _, rfl, IsRange.new .., hz, D.grow fun _ _ e => Heap.get?_push_of_some _ e, ?_, ?_, ?_⟩
  · intro C a v s₂ m₂ E' hC ha hv hn hm hk₂
    obtain ⟨h1, h2⟩ := mem_rangeInts ha
    obtain ⟨t, rfl⟩ := hv
    have hk' : ∀ b o, s.heap.get? b = some o → s₂.heap.get? b = some o := fun b o e => hk₂ b o (Heap.get?_push_of_some _ e)
    have X := D.lf.cl.keeps hk'
    have hL₂ := PL.isList (PL.at hL fun o e => hk' _ o e)
    refine wpAny_tests_one ?_
    refine isTrue_or (wpAny_isTrue_Compare1 (lcc (scope := fitScope) (cl := fitCl L) (C := C) X hk (wpAny_Constant_int (wpAny_lt_int (wpAny_truthy_bool ?_)))))
    by_cases h2' : kind < 2
    · rw [if_pos (by simpa using h2')]
      exact ⟨by simp [fitP, h2'], ⟨_, _, rfl, fun _ _ e => e⟩⟩
    rw [if_neg (by simpa using h2')]
    refine isTrue_or (isTrue_and (wpAny_isTrue_Compare1 (lcc (scope := fitScope) (cl := fitCl L) (C := C) X hk (wpAny_Constant_int (wpAny_lt_int (wpAny_truthy_bool ?_))))))
    by_cases h4 : kind < 4
    · rw [if_pos (by simpa using h4)]
      have hlt : a.toNat < line.length := by omega
      obtain ⟨tv, htv⟩ := hi.get a.toNat (line.getD a.toNat 0) (by rw [List.getD_eq_getElem?_getD, List.getElem?_eq_getElem hlt]; rfl)
      refine isTrue_and (wpAny_isTrue_Compare1 (Subscript_ (lcc (scope := fitScope) (cl := fitCl L) (C := C) X hl (ldL (env := compEnvC fitScope (fitCl L) C (lawEnv L)) hn (v := .int a t) hm (item_listL (l := lvs) (x := .int _ tv) hL₂ h1 (by omega) htv (lcc (scope := fitScope) (cl := fitCl L) (C := C) X ht (PyProof.Rows.eq_int (wpAny_truthy_bool ?_))))))))
      by_cases he : line.getD a.toNat 0 = thing
      · rw [if_pos (by simpa using he)]
        refine isTrue_and_nil ?_
        rw [if_pos rfl]
        refine ⟨by simp [fitP, h4]; exact .inr (by simpa using he), ⟨_, _, rfl, fun _ _ e => e⟩⟩
      · rw [if_neg (by simpa using he)]
        rw [if_neg (by decide)]
        refine isTrue_or_nil ⟨?_, ⟨_, _, rfl, fun _ _ e => e⟩⟩
        have : (line.getD a.toNat 0 == thing) = false := by simpa using he
        unfold fitP
        rw [this]
        simp [h2']
    · rw [if_neg (by simpa using h4)]
      rw [if_neg (by decide)]
      exact isTrue_or_nil ⟨by simp [fitP, h2', h4], ⟨_, _, rfl, fun _ _ e => e⟩⟩
  · intro C a v s₂ m₂ E' hC ha hv _ hn hm hk₂
    obtain ⟨t, rfl⟩ := hv
    exact ldL (env := compEnvC fitScope (fitCl L) C (lawEnv L)) hn (v := .int a t) hm ⟨⟨t, rfl⟩, ⟨_, _, rfl, fun _ _ e => e⟩⟩
  · intro D' ys s' D₂ k₂ _ hp hpair
    exact h s' D' ys D₂ (fun b o hb e => k₂ b o hb (Heap.get?_push_of_some _ e)) hp (paired_ints hpair)
end

def kind2 (kind : Int) (fit : List Int) (beyond : Int) : Int := if fit = [] ∧ beyond > 0 then 0 else kind
def fit2 (fit : List Int) (beyond : Int) : List Int := if fit = [] ∧ beyond > 0 then [0] else fit
/-- names that a turn leaves as they are, up to its end -/
def stable : List Str := ["things", "plain", "row", "states", "x"]

section
variable {prog : Program} {w : World} {A : Around} {s s₀ : Shared} {mg mb : Str → Option Value} {E : Value → Shared → Prop} {h₀ h h' : Heap} {L : Addr} {m cm : Str → Option Value} {T : Int → Tok → Prop}

theorem st_fix {kind beyond : Int} {tk tb : Tok} {fi : Addr} {fvs : List Value} {fit : List Int} {Q : Flow → Shared → Prop} (D : Mid h₀ L mg mb s₀ s m cm) (hu : A.units + 64 < cLine)
    (hk : cm "kind" = some (.int kind tk)) (hb : m "beyond" = some (.int beyond tb)) (hf : m "fit" = some (.ref fi)) (hF : s.heap.PlainList fi fvs.toArray) (hi : IntsAre fvs fit)
    (h : ∀ s' m' cm' fi' fvs' tk', Mid h₀ L mg mb s₀ s' m' cm' → KB (LC L) s.heap s'.heap → (∀ y : Str, y ≠ "fit" → m' y = m y) → (∀ y : Str, y ≠ "kind" → cm' y = cm y) → m' "fit" = some (.ref fi') → s'.heap.PlainList fi' fvs'.toArray → IntsAre fvs' (fit2 fit beyond) →
      cm' "kind" = some (.int (kind2 kind fit beyond) tk') → Q .next s') :
    wpAny (model prog w) A (exec (nth turn 7) (lawEnv L)) Q E s := by
  show wpAny _ _ (exec (.If (.BoolOp .And [.Compare (.Name "fit" _) [.Eq] [.List [] _] _, .Compare (.Name "beyond" _) [.Gt] [.Constant (.int 0) _ _] _] _) [.Assign [.Name "kind" _] (.Constant (.int 0) _ _) _, .Assign [.Name "fit" _] (.List [.Constant (.int 0) _ _] _) _] [] _) _) _ _ _
  refine wpAny_If (isTrue_and (wpAny_isTrue_Compare1 (ll D.lf hf (List_ (args_nil (wpAny_newList (ke_eq_ints (xs := fvs) (ys := []) (ns := fit) (ms := []) (PL.isList (PL.at hF fun o e => Heap.get?_push_of_some _ e)) ⟨_, Heap.get?_push_size _ rfl, rfl, 0, rfl⟩ hi .nil hu (wpAny_truthy_bool ?_)) (by decide)))))))
  have D₁ := D.push (tk := s.toks) (o := { cls := .type "list", data := .seq ([] : List Value).toArray })
  have hF₁ : (s.heap.push { cls := .type "list", data := .seq ([] : List Value).toArray }).PlainList fi fvs.toArray := PL.at hF fun o e => Heap.get?_push_of_some _ e
  have keep : ∀ {tk : Nat} {Q' : Shared → Prop}, Q' = Q .next → ¬(fit = [] ∧ beyond > 0) → Q .next { s with heap := s.heap.push { cls := .type "list", data := .seq ([] : List Value).toArray }, toks := tk } := by
    intro tk' Q' _ hn
    refine h _ m cm fi fvs tk (D₁.toks (tk := tk')) (KB.push _ _ _) (fun _ _ => rfl) (fun _ _ => rfl) hf hF₁ ?_ ?_
    · unfold fit2; rw [if_neg hn]; exact hi
    · unfold kind2; rw [if_neg hn]; exact hk
  by_cases h0 : fit = []
  · rw [if_pos (by simpa using h0)]
    refine isTrue_and (wpAny_isTrue_Compare1 (ll D₁.lf hb (wpAny_Constant_int (gt_int (wpAny_truthy_bool ?_)))))
    by_cases hg : beyond > 0
    · rw [if_pos (by simpa using hg)]
      refine isTrue_and_nil ?_
      rw [if_pos rfl]
      have D₂ := D₁.toks (tk := s.toks + 1)
      refine wpAny_execs_cons (Mid.asgc D₂ (wpAny_Constant_int ⟨m, cm, D₂.toks, fun s₃ D₃ k₃ => ?_⟩))
      refine wpAny_execs_cons (Mid.asg D₃ (List_ (args_cons (wpAny_Constant_int (args_nil (one_list fun s₄ c g₄ hc hnc => ⟨m, _, D₃.gro (Gro.toks.trans g₄), fun s₅ D₅ k₅ => ?_⟩))))))
      refine wpAny_execs_nil (h s₅ _ _ c _ (s.toks + 1) D₅ (fun b o hb e => k₅ b o hb (g₄.kp b o (k₃ b o hb (Heap.get?_push_of_some _ e)))) (fun y hy => if_neg hy) (fun y hy => if_neg hy) (if_pos rfl) (k₅.list hc ((D₃.gro (Gro.toks.trans g₄)).list_off hc)) ?_ ?_)
      · unfold fit2; rw [if_pos ⟨h0, hg⟩]; exact .cons _ _ .nil
      · have e : kind2 kind fit beyond = 0 := if_pos ⟨h0, hg⟩
        rw [e]; exact if_pos rfl
    · rw [if_neg (by simpa using hg), if_neg (by decide)]
      exact wpAny_execs_nil (keep rfl fun q => hg q.2)
  · rw [if_neg (by simpa using h0), if_neg (by decide)]
    exact wpAny_execs_nil (keep rfl fun q => h0 q.1)

/-- what stands ahead of the asking -/
structure Pre (h₀ : Heap) (L : Addr) (mg mb : Str → Option Value) (s₀ s : Shared) (m₀ cm₀ m cm : Str → Option Value) (v1 v2 : Value) (ahead : List Int) (beyond : Int) (kind : Int) (fit : List Int) : Prop where
  mid : Mid h₀ L mg mb s₀ s m cm
  same : ∀ y ∈ stable, m y = m₀ y
  thing : cm "thing" = cm₀ "thing"
  walk : m "walk" = some v1
  place : m "place" = some v2
  ah : ∃ Ah avs, m "ahead" = some (.ref Ah) ∧ s.heap.PlainList Ah avs.toArray ∧ IntsAre avs ahead
  bey : ∃ tb, m "beyond" = some (.int beyond tb)
  lin : ∃ Ln lvs, cm "line" = some (.ref Ln) ∧ s.heap.PlainList Ln lvs.toArray ∧ IntsAre lvs (lineOf ahead beyond)
  ft : ∃ fi fvs, m "fit" = some (.ref fi) ∧ s.heap.PlainList fi fvs.toArray ∧ IntsAre fvs fit
  kd : ∃ tk, cm "kind" = some (.int kind tk)

def aheadB (xs _known : List Int) (place again : Int) : List Int := if again > 0 then [] else aheadOf (xs.drop place.toNat)
def beyondB (xs known : List Int) (place again : Int) : Int := if again > 0 then again else beyondOf known (xs.drop place.toNat)
theorem aheadOf_len : ∀ xs : List Int, (aheadOf xs).length ≤ xs.length
  | [] => Nat.le_refl _
  | z :: zs => by
    unfold aheadOf
    split
    · exact Nat.zero_le _
    · split
      · exact Nat.zero_le _
      · exact Nat.succ_le_succ (aheadOf_len zs)
theorem aheadB_len (xs known : List Int) (place again : Int) : (aheadB xs known place again).length ≤ xs.length := by
  unfold aheadB
  split
  · exact Nat.zero_le _
  · exact Nat.le_trans (aheadOf_len _) (by simp)
theorem lineOf_len (ahead : List Int) (b : Int) : (lineOf ahead b).length ≤ ahead.length + 1 := by
  unfold lineOf; split <;> simp

theorem st_pre {x kind thing place again : Int} {t tk tt tp ta : Tok} {sts tup t0 t1 pl k : Addr} {v1 : Value} {pvs kvs : List Value} {xs known : List Int} {Q : Flow → Shared → Prop} {rest : List Stmt} (D : Mid h₀ L mg mb s₀ s m cm) (hh : A.handled = none) (hd : A.depth < recursionLimit) (hu : A.units + 80 < cLine)
    (hx : m "x" = some (.int x t)) (hs : m "states" = some (.ref sts)) (hl : s.heap.PlainList sts [Value.ref t0, .ref t1].toArray) (htp : tup = if x.fmod 2 = 0 then t0 else t1) (ht : IsTup s.heap tup #[v1, .int place tp, .ref k, .int again ta])
    (hk : cm "kind" = some (.int kind tk)) (hth : cm "thing" = some (.int thing tt)) (hp : m "plain" = some (.ref pl)) (hpv : s.heap.PlainList pl pvs.toArray) (hpi : IntsAre pvs xs) (hkv : s.heap.PlainList k kvs.toArray) (hki : IntsAre kvs known) (h0 : 0 ≤ place) (hz : xs.length ≤ 800) (hkz : known.length ≤ 800)
    (h : ∀ s' m' cm', Pre h₀ L mg mb s₀ s' m cm m' cm' v1 (.int place tp) (aheadB xs known place again) (beyondB xs known place again)
        (kind2 kind (fitOf kind thing (lineOf (aheadB xs known place again) (beyondB xs known place again))) (beyondB xs known place again))
        (fit2 (fitOf kind thing (lineOf (aheadB xs known place again) (beyondB xs known place again))) (beyondB xs known place again)) → wpAny (model prog w) A (execs rest (lawEnv L)) Q E s') :
    wpAny (model prog w) A (execs (nth turn 3 :: nth turn 4 :: nth turn 5 :: nth turn 6 :: nth turn 7 :: rest) (lawEnv L)) Q E s := by
  refine wpAny_execs_cons (st_unpack D hh hx hs hl htp ht fun s₁ D₁ k₁ => ?_)
  have hpv₁ := k₁.list hpv (D.list_off hpv)
  have hkv₁ := k₁.list hkv (D.list_off hkv)
  refine wpAny_execs_cons (st_ahead (xs := xs) (known := known) D₁ hh hd hu (pl := pl) ?_ (place := place) (tp := tp) ?_ (k := k) ?_ (again := again) (ta := ta) (if_pos rfl) hpv₁ hpi hkv₁ hki h0 (by omega) (by omega) fun s₂ Ah avs tb D₂ k₂ hA₂ hAi => ?_)
  · exact (if_neg (by decide)).trans ((if_neg (by decide)).trans ((if_neg (by decide)).trans ((if_neg (by decide)).trans hp)))
  · exact (if_neg (by decide)).trans ((if_neg (by decide)).trans (if_pos rfl))
  · exact (if_neg (by decide)).trans (if_pos rfl)
  have la := aheadB_len xs known place again
  have hw₂ : (upd "beyond" (.int (if again > 0 then again else beyondOf known (xs.drop place.toNat)) tb) (upd "ahead" (.ref Ah) (upd "again" (.int again ta) (upd "known" (.ref k) (upd "place" (.int place tp) (upd "walk" v1 m)))))) "walk" = some v1 :=
    (if_neg (by decide)).trans ((if_neg (by decide)).trans ((if_neg (by decide)).trans ((if_neg (by decide)).trans ((if_neg (by decide)).trans (if_pos rfl)))))
  have hp₂ : (upd "beyond" (.int (if again > 0 then again else beyondOf known (xs.drop place.toNat)) tb) (upd "ahead" (.ref Ah) (upd "again" (.int again ta) (upd "known" (.ref k) (upd "place" (.int place tp) (upd "walk" v1 m)))))) "place" = some (.int place tp) :=
    (if_neg (by decide)).trans ((if_neg (by decide)).trans ((if_neg (by decide)).trans ((if_neg (by decide)).trans (if_pos rfl))))
  have ha₂ : (upd "beyond" (.int (if again > 0 then again else beyondOf known (xs.drop place.toNat)) tb) (upd "ahead" (.ref Ah) (upd "again" (.int again ta) (upd "known" (.ref k) (upd "place" (.int place tp) (upd "walk" v1 m)))))) "ahead" = some (.ref Ah) := (if_neg (by decide)).trans (if_pos rfl)
  have hb₂ : (upd "beyond" (.int (if again > 0 then again else beyondOf known (xs.drop place.toNat)) tb) (upd "ahead" (.ref Ah) (upd "again" (.int again ta) (upd "known" (.ref k) (upd "place" (.int place tp) (upd "walk" v1 m)))))) "beyond" = some (.int (beyondB xs known place again) tb) := if_pos rfl
  have hs₂ : ∀ y ∈ stable, (upd "beyond" (.int (if again > 0 then again else beyondOf known (xs.drop place.toNat)) tb) (upd "ahead" (.ref Ah) (upd "again" (.int again ta) (upd "known" (.ref k) (upd "place" (.int place tp) (upd "walk" v1 m)))))) y = m y := fun y hy => by
    have : ∀ y ∈ stable, y ≠ ("beyond" : Str) ∧ y ≠ ("ahead" : Str) ∧ y ≠ ("again" : Str) ∧ y ≠ ("known" : Str) ∧ y ≠ ("place" : Str) ∧ y ≠ ("walk" : Str) := by decide
    obtain ⟨a, b, c, d, e, f⟩ := this y hy
    exact (if_neg a).trans ((if_neg b).trans ((if_neg c).trans ((if_neg d).trans ((if_neg e).trans (if_neg f)))))
  generalize (upd "beyond" (.int (if again > 0 then again else beyondOf known (xs.drop place.toNat)) tb) (upd "ahead" (.ref Ah) (upd "again" (.int again ta) (upd "known" (.ref k) (upd "place" (.int place tp) (upd "walk" v1 m)))))) = m₂ at D₂ hw₂ hp₂ ha₂ hb₂ hs₂
  change IntsAre avs (aheadB xs known place again) at hAi
  generalize aheadB xs known place again = ahead at *
  generalize beyondB xs known place again = beyond at *
  refine wpAny_execs_cons (st_line D₂ ha₂ hb₂ hA₂ hAi (by omega) fun s₃ Ln lvs D₃ k₃ hL₃ hLi => ?_)
  have ln := lineOf_len ahead beyond
  have hA₃ := k₃.list hA₂ (D₂.list_off hA₂)
  refine wpAny_execs_cons (st_fit D₃ hh (kind := kind) (tk := tk) ((if_neg (by decide)).trans hk) (thing := thing) (tt := tt) ((if_neg (by decide)).trans hth) (if_pos rfl) hL₃ hLi (by omega) fun s₄ fi fvs D₄ k₄ hf₄ hfi => ?_)
  have hA₄ := k₄.list hA₃ (D₃.list_off hA₃)
  have hL₄ := k₄.list hL₃ (D₃.list_off hL₃)
  refine wpAny_execs_cons (st_fix D₄ (by omega) (kind := kind) (tk := tk) ((if_neg (by decide)).trans hk) (beyond := beyond) (tb := tb) ((if_neg (by decide)).trans hb₂) (if_pos rfl) hf₄ hfi fun s₅ m₅ cm₅ fi' fvs' tk' D₅ k₅ hm₅ hcm₅ hf₅ hF₅ hfi₅ hk₅ => ?_)
  have hfit : ∀ y ∈ stable, y ≠ ("fit" : Str) := by decide
  refine h s₅ m₅ cm₅ ⟨D₅, fun y hy => ?_, ?_, ?_, ?_, ⟨Ah, avs, ?_, k₅.list hA₄ (D₄.list_off hA₄), hAi⟩, ⟨tb, ?_⟩, ⟨Ln, lvs, ?_, k₅.list hL₄ (D₄.list_off hL₄), hLi⟩, ⟨fi', fvs', hf₅, hF₅, hfi₅⟩, ⟨tk', hk₅⟩⟩
  · exact (hm₅ y (hfit y hy)).trans ((if_neg (hfit y hy)).trans (hs₂ y hy))
  · exact (hcm₅ _ (by decide)).trans (if_neg (by decide))
  · exact (hm₅ _ (by decide)).trans ((if_neg (by decide)).trans hw₂)
  · exact (hm₅ _ (by decide)).trans ((if_neg (by decide)).trans hp₂)
  · exact (hm₅ _ (by decide)).trans ((if_neg (by decide)).trans ha₂)
  · exact (hm₅ _ (by decide)).trans ((if_neg (by decide)).trans hb₂)
  · exact (hcm₅ _ (by decide)).trans (if_pos rfl)
end

/-- the law's record of a walk is true -/
def SlotOk (st : GSt) (place : Nat) (known : List Int) (again : Int) : Prop :=
  (again > 0 ∧ st = .rep again) ∨ (again = 0 ∧ st = .at place known.getLast? ∧ (known = [] ∨ ∃ e, known = [e] ∧ e > 0))

theorem aheadOf_pos : ∀ {xs : List Int}, (∀ n ∈ xs, 0 ≤ n) → ∀ n ∈ aheadOf xs, 0 < n
  | [], _, n, h => nomatch h
  | z :: zs, hx, n, h => by
    unfold aheadOf at h
    split at h
    · cases h
    · split at h
      · cases h
      · rename_i h0
        rcases List.mem_cons.mp h with e | h
        · have := hx z (.head _); omega
        · exact aheadOf_pos (fun n hn => hx n (.tail _ hn)) n h

theorem beyond_cases {xs known : List Int} {place again : Int} {st : GSt} {p : Nat} (hp : place = p) (S : SlotOk st p known again) (hx : ∀ n ∈ xs, 0 ≤ n) : beyondB xs known place again > 0 ∨ beyondB xs known place again = -1 ∨ beyondB xs known place again = -2 := by
  unfold beyondB
  rcases S with ⟨h, _⟩ | ⟨h, _, hk⟩
  · rw [if_pos h]; exact .inl h
  · rw [if_neg (by omega)]
    unfold beyondOf
    split
    · cases e : (known ++ aheadOf (xs.drop place.toNat)).getLast? with
      | none => exact .inr (.inr rfl)
      | some v =>
        left
        have hv := List.mem_of_getLast? e
        rcases List.mem_append.mp hv with q | q
        · rcases hk with rfl | ⟨e', rfl, h0⟩
          · cases q
          · rw [List.mem_singleton.mp q]; exact h0
        · exact aheadOf_pos (fun n hn => hx n (List.mem_of_mem_drop hn)) v q
    · exact .inr (.inl rfl)

/-- from a place the walk tells what lies ahead -/
theorem ys_ahead {xs : List Int} : ∀ (zs : List Int) (p : Nat) (l : Option Int), xs.drop p = zs → ∀ j, j ≤ (aheadOf zs).length →
    Ys xs (.at p l) ((aheadOf zs).take j) (if j = 0 then .at p l else .at (p + j) ((aheadOf zs)[j - 1]?))
  | _, _, _, _, 0, _ => by simpa using Ys.nil
  | [], _, _, _, j + 1, h => absurd h (by simp [aheadOf])
  | z :: zs, p, l, hd, j + 1, h => by
    have hp : xs[p]? = some z := by
      have := congrArg (fun l => l[0]?) hd
      simpa using this
    have hd' : xs.drop (p + 1) = zs := by
      rw [← List.drop_drop, hd]; rfl
    by_cases h1 : z = 127
    · simp [aheadOf, h1] at h
    by_cases h2 : z = 0
    · simp [aheadOf, h2] at h
    have e : aheadOf (z :: zs) = z :: aheadOf zs := by simp [aheadOf, h1, h2]
    rw [e] at h ⊢
    have ih := ys_ahead zs (p + 1) (some z) hd' j (by simpa using h)
    refine .cons (st₁ := .at (p + 1) (some z)) (by simp [gstep, hp, h1, h2]) ?_
    rw [if_neg (by omega)]
    cases j with
    | zero => simpa using Ys.nil
    | succ j =>
      rw [if_neg (by omega)] at ih
      have e1 : p + 1 + (j + 1) = p + (j + 1 + 1) := by omega
      rw [e1] at ih
      simpa using ih

/-- behind what lies ahead -/
theorem step_end {xs : List Int} : ∀ (zs : List Int) (p : Nat) (l : Option Int), xs.drop p = zs →
    gstep xs (.at (p + (aheadOf zs).length) (if aheadOf zs = [] then l else (aheadOf zs).getLast?)) =
      if endsZero zs then (match (if aheadOf zs = [] then l else (aheadOf zs).getLast?) with | none => (.raise, .over) | some v => (.yield v, .rep v)) else (.stop, .over)
  | [], p, l, hd => by
    have hp : xs[p]? = none := by
      have : xs.length ≤ p := by simpa using hd
      simpa using this
    simp [aheadOf, endsZero, gstep, hp]
  | z :: zs, p, l, hd => by
    have hp : xs[p]? = some z := by
      have := congrArg (fun l => l[0]?) hd
      simpa using this
    have hd' : xs.drop (p + 1) = zs := by
      rw [← List.drop_drop, hd]; rfl
    by_cases h1 : z = 127
    · simp [aheadOf, endsZero, gstep, hp, h1]
    by_cases h2 : z = 0
    · (simp [aheadOf, endsZero, gstep, hp, h2]) <;> (cases l <;> rfl)
    have e : aheadOf (z :: zs) = z :: aheadOf zs := by simp [aheadOf, h1, h2]
    have ez : endsZero (z :: zs) = endsZero zs := by simp [endsZero, h1, h2]
    have ih := step_end zs (p + 1) (some z) hd'
    rw [e, ez]
    have e1 : p + (z :: aheadOf zs).length = p + 1 + (aheadOf zs).length := by simp; omega
    have e2 : (if (z :: aheadOf zs) = [] then l else (z :: aheadOf zs).getLast?) = (if aheadOf zs = [] then some z else (aheadOf zs).getLast?) := by
      rw [if_neg (by simp)]
      cases hq : aheadOf zs with
      | nil => simp
      | cons a as => simp [List.getLast?_cons_cons]
    rw [e1, e2]; exact ih

theorem ys_snoc {xs : List Int} : ∀ {vs : List Int} {st st₁ st₂ : GSt} {v : Int}, Ys xs st vs st₁ → gstep xs st₁ = (.yield v, st₂) → Ys xs st (vs ++ [v]) st₂
  | _, _, _, _, _, .nil, h => .cons h .nil
  | _, _, _, _, _, .cons a b, h => .cons a (ys_snoc b h)

/-- where the walk is behind the j-th of the line -/
def afterJ (place : Nat) (ahead line : List Int) (beyond : Int) (j : Nat) : GSt := if j < ahead.length then .at (place + j + 1) (some (line.getD j 0)) else .rep beyond

theorem last_known {known : List Int} (hk : known = [] ∨ ∃ e, known = [e] ∧ e > 0) (ah : List Int) : (known ++ ah).getLast? = if ah = [] then known.getLast? else ah.getLast? := by
  cases h : ah with
  | nil => simp
  | cons a as => rw [if_neg (by simp)]; rw [List.getLast?_append]; simp [List.getLast?_cons]

theorem all_ahead {xs known : List Int} {p : Nat} : Ys xs (.at p known.getLast?) (aheadOf (xs.drop p)) (.at (p + (aheadOf (xs.drop p)).length) (if aheadOf (xs.drop p) = [] then known.getLast? else (aheadOf (xs.drop p)).getLast?)) := by
  have := ys_ahead (xs := xs) (xs.drop p) p known.getLast? rfl (aheadOf (xs.drop p)).length (Nat.le_refl _)
  rw [List.take_of_length_le (Nat.le_refl _)] at this
  cases h : aheadOf (xs.drop p) with
  | nil => rw [h] at this; simpa using this
  | cons a as =>
    rw [h] at this
    rw [if_neg (by simp)] at this
    rw [if_neg (by simp), List.getLast?_eq_getElem? (l := a :: as)]; exact this

theorem line_ys {xs known : List Int} {again : Int} {st : GSt} {p : Nat} (S : SlotOk st p known again) (hx : ∀ n ∈ xs, 0 ≤ n) {j : Nat}
    (hj : j < (lineOf (aheadB xs known p again) (beyondB xs known p again)).length) :
    Ys xs st ((lineOf (aheadB xs known p again) (beyondB xs known p again)).take (j + 1)) (afterJ p (aheadB xs known p again) (lineOf (aheadB xs known p again) (beyondB xs known p again)) (beyondB xs known p again) j) := by
  rcases S with ⟨h, rfl⟩ | ⟨h, rfl, hk⟩
  · have ea : aheadB xs known p again = [] := if_pos h
    have eb : beyondB xs known p again = again := if_pos h
    rw [ea, eb] at hj ⊢
    have el : lineOf [] again = [again] := by unfold lineOf; rw [if_pos h]; rfl
    rw [el] at hj ⊢
    have : j = 0 := by simpa using hj
    subst this
    exact .cons rfl .nil
  · have ea : aheadB xs known p again = aheadOf (xs.drop p) := by unfold aheadB; rw [if_neg (by omega)]; rfl
    have eb : beyondB xs known p again = beyondOf known (xs.drop p) := by unfold beyondB; rw [if_neg (by omega)]; rfl
    rw [ea, eb] at hj ⊢
    by_cases hj' : j < (aheadOf (xs.drop p)).length
    · have et : (lineOf (aheadOf (xs.drop p)) (beyondOf known (xs.drop p))).take (j + 1) = (aheadOf (xs.drop p)).take (j + 1) := by
        unfold lineOf
        split
        · rw [List.take_append_of_le_length (by omega)]
        · rfl
      have eg : (lineOf (aheadOf (xs.drop p)) (beyondOf known (xs.drop p))).getD j 0 = (aheadOf (xs.drop p)).getD j 0 := by
        unfold lineOf
        split
        · rw [List.getD_eq_getElem?_getD, List.getD_eq_getElem?_getD, List.getElem?_append_left hj']
        · rfl
      have := ys_ahead (xs := xs) (xs.drop p) p known.getLast? rfl (j + 1) (by omega)
      rw [et]
      unfold afterJ
      rw [if_pos hj', eg]
      rw [if_neg (by omega)] at this
      have e2 : (aheadOf (xs.drop p))[j + 1 - 1]? = some ((aheadOf (xs.drop p)).getD j 0) := by
        rw [List.getD_eq_getElem?_getD, Nat.add_sub_cancel, List.getElem?_eq_getElem hj']; rfl
      rw [e2, ← Nat.add_assoc] at this
      exact this
    · by_cases hb : beyondOf known (xs.drop p) > 0
      · have el : lineOf (aheadOf (xs.drop p)) (beyondOf known (xs.drop p)) = aheadOf (xs.drop p) ++ [beyondOf known (xs.drop p)] := by unfold lineOf; rw [if_pos hb]
        rw [el] at hj ⊢
        have hje : j = (aheadOf (xs.drop p)).length := by simp at hj; omega
        subst hje
        rw [List.take_of_length_le (by simp)]
        unfold afterJ
        rw [if_neg hj']
        refine ys_snoc all_ahead ?_
        rw [step_end (xs := xs) (xs.drop p) p known.getLast? rfl]
        have hz : endsZero (xs.drop p) = true := by
          cases e : endsZero (xs.drop p) with
          | true => rfl
          | false => unfold beyondOf at hb; rw [e] at hb; simp at hb
        have hb' : beyondOf known (xs.drop p) = ((if aheadOf (xs.drop p) = [] then known.getLast? else (aheadOf (xs.drop p)).getLast?)).getD (-2) := by
          unfold beyondOf; rw [if_pos hz, last_known hk]
        rw [if_pos hz]
        cases hl : (if aheadOf (xs.drop p) = [] then known.getLast? else (aheadOf (xs.drop p)).getLast?) with
        | none => rw [hl] at hb'; rw [hb'] at hb; simp at hb
        | some v => rw [hl] at hb'; rw [hb']; rfl
      · unfold lineOf at hj; rw [if_neg hb] at hj; exact absurd hj hj'

theorem beyond_zero {xs known : List Int} (hk : known = [] ∨ ∃ e, known = [e] ∧ e > 0) (hx : ∀ n ∈ xs, 0 ≤ n) (hz : endsZero xs = true) {v : Int} (h : (if aheadOf xs = [] then known.getLast? else (aheadOf xs).getLast?) = some v) : beyondOf known xs > 0 := by
  have e : beyondOf known xs = v := by unfold beyondOf; rw [if_pos hz, last_known hk, h]; rfl
  rw [e]
  split at h
  · rcases hk with rfl | ⟨e', rfl, h0⟩
    · cases h
    · cases h; exact h0
  · exact aheadOf_pos hx v (List.mem_of_getLast? h)

theorem line_stop {xs known : List Int} {again : Int} {st : GSt} {p : Nat} (S : SlotOk st p known again) (hx : ∀ n ∈ xs, 0 ≤ n) (hb : beyondB xs known p again = -1) : ∃ st', Ys xs st (aheadB xs known p again) st' ∧ gstep xs st' = (.stop, .over) := by
  rcases S with ⟨h, rfl⟩ | ⟨h, rfl, hk⟩
  · unfold beyondB at hb; rw [if_pos h] at hb; omega
  · have ea : aheadB xs known p again = aheadOf (xs.drop p) := by unfold aheadB; rw [if_neg (by omega)]; rfl
    have eb : beyondB xs known p again = beyondOf known (xs.drop p) := by unfold beyondB; rw [if_neg (by omega)]; rfl
    rw [eb] at hb; rw [ea]
    refine ⟨_, all_ahead, ?_⟩
    rw [step_end (xs := xs) (xs.drop p) p known.getLast? rfl]
    cases hz : endsZero (xs.drop p) with
    | false => rfl
    | true =>
      exfalso
      cases hl : (if aheadOf (xs.drop p) = [] then known.getLast? else (aheadOf (xs.drop p)).getLast?) with
      | none => unfold beyondOf at hb; rw [if_pos hz, last_known hk, hl] at hb; simp at hb
      | some v => have := beyond_zero hk (fun n hn => hx n (List.mem_of_mem_drop hn)) hz hl; omega

theorem line_bad {xs known : List Int} {again : Int} {st : GSt} {p : Nat} (S : SlotOk st p known again) (hx : ∀ n ∈ xs, 0 ≤ n) (hb : beyondB xs known p again = -2) : aheadB xs known p again = [] ∧ gstep xs st = (.raise, .over) := by
  rcases S with ⟨h, rfl⟩ | ⟨h, rfl, hk⟩
  · unfold beyondB at hb; rw [if_pos h] at hb; omega
  · have ea : aheadB xs known p again = aheadOf (xs.drop p) := by unfold aheadB; rw [if_neg (by omega)]; rfl
    have eb : beyondB xs known p again = beyondOf known (xs.drop p) := by unfold beyondB; rw [if_neg (by omega)]; rfl
    rw [eb] at hb; rw [ea]
    have hse := step_end (xs := xs) (xs.drop p) p known.getLast? rfl
    cases hz : endsZero (xs.drop p) with
    | false => unfold beyondOf at hb; rw [hz] at hb; simp at hb
    | true =>
      cases hl : (if aheadOf (xs.drop p) = [] then known.getLast? else (aheadOf (xs.drop p)).getLast?) with
      | some v => have := beyond_zero hk (fun n hn => hx n (List.mem_of_mem_drop hn)) hz hl; omega
      | none =>
        have hn : aheadOf (xs.drop p) = [] := by
          by_cases q : aheadOf (xs.drop p) = []
          · exact q
          · rw [if_neg q] at hl; simp at hl; exact absurd hl q
        refine ⟨hn, ?_⟩
        rw [hz, hl, hn] at hse
        rw [if_pos hn] at hl
        rw [hl]; simpa using hse

/-- what is told where a size fits -/
inductive FitIs (k : Int) (line : List Int) (i : Nat) : Value → Prop
  | size (t : Tok) : k < 2 → FitIs k line i (.int (line.getD i 0) t)
  | yes : k = 2 → FitIs k line i (.bool true)
  | idx (t : Tok) : k = 3 → FitIs k line i (.int (i : Int) t)

/-- the first that fits -/
structure FirstFit (k thing : Int) (line : List Int) (i : Nat) : Prop where
  lt : i < line.length
  le : k ≤ 3
  lo : 0 ≤ k
  zero : k < 2 → i = 0
  hit : 2 ≤ k → line.getD i 0 = thing
  miss : 2 ≤ k → ∀ j, j < i → line.getD j 0 ≠ thing

theorem filter_first {n : Nat} {p : Int → Bool} {a : Int} {as : List Int} (h : (rangeInts 0 1 n).filter p = a :: as) : ∃ i : Nat, a = i ∧ i < n ∧ p i = true ∧ ∀ j : Nat, j < i → p j = false := by
  have e : rangeInts 0 1 n = (List.range n).map fun i : Nat => (i : Int) := rangeInts_zero_one n
  rw [e] at h
  have hm : a ∈ ((List.range n).map fun i : Nat => (i : Int)).filter p := by rw [h]; exact .head _
  obtain ⟨hm1, hp⟩ := List.mem_filter.mp hm
  obtain ⟨i, hi, rfl⟩ := List.mem_map.mp hm1
  refine ⟨i, rfl, List.mem_range.mp hi, hp, fun j hj => ?_⟩
  cases hq : p j with
  | false => rfl
  | true =>
    exfalso
    have hjm : (j : Int) ∈ ((List.range n).map fun i : Nat => (i : Int)).filter p := List.mem_filter.mpr ⟨List.mem_map.mpr ⟨j, List.mem_range.mpr (Nat.lt_trans hj (List.mem_range.mp hi)), rfl⟩, hq⟩
    have hs : (((List.range n).map fun i : Nat => (i : Int)).filter p).Pairwise (· < ·) := by
      refine List.Pairwise.filter _ ?_
      rw [List.pairwise_map]
      exact List.Pairwise.imp (fun h => by omega) List.pairwise_lt_range
    rw [h] at hs hjm
    rcases List.mem_cons.mp hjm with q | q
    · omega
    · have := List.rel_of_pairwise_cons hs q; omega

theorem filter_none {n : Nat} {p : Int → Bool} (h : (rangeInts 0 1 n).filter p = []) : ∀ j : Nat, j < n → p j = false := fun j hj => by
  have e : rangeInts 0 1 n = (List.range n).map fun i : Nat => (i : Int) := rangeInts_zero_one n
  rw [e] at h
  cases hq : p j with
  | false => rfl
  | true =>
    have : (j : Int) ∈ ((List.range n).map fun i : Nat => (i : Int)).filter p := List.mem_filter.mpr ⟨List.mem_map.mpr ⟨j, List.mem_range.mpr hj, rfl⟩, hq⟩
    rw [h] at this; cases this

theorem fit_some {kind thing beyond : Int} {ahead : List Int} {a : Int} {as : List Int} (h0 : 0 ≤ kind) (h : fit2 (fitOf kind thing (lineOf ahead beyond)) beyond = a :: as) :
    ∃ i : Nat, a = i ∧ FirstFit (kind2 kind (fitOf kind thing (lineOf ahead beyond)) beyond) thing (lineOf ahead beyond) i := by
  by_cases hc : fitOf kind thing (lineOf ahead beyond) = [] ∧ beyond > 0
  · have e2 : kind2 kind (fitOf kind thing (lineOf ahead beyond)) beyond = 0 := if_pos hc
    unfold fit2 at h; rw [if_pos hc] at h
    cases h
    rw [e2]
    refine ⟨0, rfl, ?_, by decide, by decide, fun _ => rfl, fun q => absurd q (by decide), fun q => absurd q (by decide)⟩
    unfold lineOf; rw [if_pos hc.2]; simp
  · have e2 : kind2 kind (fitOf kind thing (lineOf ahead beyond)) beyond = kind := if_neg hc
    unfold fit2 at h; rw [if_neg hc] at h
    rw [e2]
    obtain ⟨i, rfl, hlt, hp, hmin⟩ := filter_first h
    unfold fitP at hp hmin
    simp only [Bool.or_eq_true, Bool.and_eq_true, decide_eq_true_eq, beq_iff_eq, Int.toNat_natCast] at hp
    refine ⟨i, rfl, hlt, ?_, h0, fun h2 => ?_, fun h2 => ?_, fun h2 j hj => ?_⟩
    · omega
    · cases i with
      | zero => rfl
      | succ i => have := hmin 0 (by omega); simp [h2] at this
    · rcases hp with q | q
      · omega
      · exact q.2
    · have := hmin j hj
      rcases hp with q | q
      · omega
      · simp only [Bool.or_eq_false_iff, Bool.and_eq_false_iff, decide_eq_false_iff_not, beq_eq_false_iff_ne, Int.toNat_natCast] at this
        rcases this.2 with z | z
        · omega
        · exact z

theorem fit_none {kind thing beyond : Int} {ahead : List Int} (h : fit2 (fitOf kind thing (lineOf ahead beyond)) beyond = []) :
    kind2 kind (fitOf kind thing (lineOf ahead beyond)) beyond = kind ∧ ¬ beyond > 0 ∧ lineOf ahead beyond = ahead ∧ (kind < 2 → ahead = []) ∧ (kind < 4 → ∀ y ∈ ahead, y ≠ thing) := by
  by_cases hc : fitOf kind thing (lineOf ahead beyond) = [] ∧ beyond > 0
  · unfold fit2 at h; rw [if_pos hc] at h; cases h
  · have e2 : kind2 kind (fitOf kind thing (lineOf ahead beyond)) beyond = kind := if_neg hc
    unfold fit2 at h; rw [if_neg hc] at h
    have hb : ¬ beyond > 0 := fun q => hc ⟨h, q⟩
    have el : lineOf ahead beyond = ahead := if_neg hb
    refine ⟨e2, hb, el, fun h2 => ?_, fun h4 y hy e => ?_⟩
    · rw [el] at h
      cases ha : ahead with
      | nil => rfl
      | cons z zs =>
        have := filter_none h 0 (by rw [ha]; simp)
        simp [fitP, h2] at this
    · rw [el] at h
      obtain ⟨j, hj, rfl⟩ := List.getElem_of_mem hy
      have := filter_none h j hj
      unfold fitP at this
      simp only [Bool.or_eq_false_iff, Bool.and_eq_false_iff, decide_eq_false_iff_not, beq_eq_false_iff_ne, Int.toNat_natCast] at this
      rcases this.2 with z | z
      · exact z h4
      · apply z; rw [List.getD_eq_getElem?_getD, List.getElem?_eq_getElem hj]; exact e

/-- the heap without these -/
def hide (h : Heap) (X : List Addr) : Heap := { objs := h.objs.mapIdx fun i o => if i ∈ X then { o with data := .freed } else o, life := h.life }
theorem hide_get (h : Heap) (X : List Addr) (a : Addr) : (hide h X).get? a = if a ∈ X then none else h.get? a := by
  unfold hide Heap.get?
  simp only [Array.getElem?_mapIdx]
  cases e : h.objs[a]? with
  | none => simp
  | some o =>
    simp only [Option.map_some]
    by_cases ha : a ∈ X
    · simp [ha]
    · simp [ha]
theorem hide_stays (h : Heap) (X : List Addr) : (hide h X).StaysIn h := fun b o e => by
  rw [hide_get] at e
  split at e
  · cases e
  · exact e
theorem hide_in {h : Heap} {X : List Addr} {a : Addr} (ha : a ∈ X) : (hide h X).get? a = none := by rw [hide_get, if_pos ha]
theorem hide_off {h : Heap} {X : List Addr} {a : Addr} (ha : a ∉ X) : (hide h X).get? a = h.get? a := by rw [hide_get, if_neg ha]

/-- a walk that the law holds -/
structure Wv (T : Int → Tok → Prop) (h₀ : Heap) (L : Addr) (s : Shared) (a : Addr) (g : Nat) (W row : Addr) (is : List Addr) (xs : List Int) (st : GSt) : Prop where
  wk : Wk T s a g W row is xs st
  live : st ≠ .over
  bare : ∃ gs, s.gens[g]? = some gs ∧ gs.bare = true
  new : ∀ b ∈ W :: is, h₀.get? b = none
  off : ∀ b ∈ W :: is, b ∉ LC L

section
variable {prog : Program} {w : World} {A : Around} {s s₀ : Shared} {mg mb : Str → Option Value} {E : Value → Shared → Prop} {h₀ h h' : Heap} {L : Addr} {m cm : Str → Option Value} {T : Int → Tok → Prop}

theorem Lf.alive (F : Lf h₀ L mg mb h m cm) {b : Addr} (hb : b ∈ LC L) : ∃ o, h.get? b = some o := by
  have cell : ∀ {x : Str} {c : Addr}, (cellsFrom (L + 1) lawScope.names []).lookup x = some c → ∃ o, h.get? c = some o := fun hc => by
    obtain ⟨o', ho', hd⟩ := F.cl.cell _ _ hc
    exact ⟨o', ho'⟩
  unfold LC at hb
  simp only [List.mem_cons, List.not_mem_nil, or_false] at hb
  rcases hb with e | e | e | e | e | e <;> subst e
  · obtain ⟨o', es, ep, ho', _⟩ := F.fr.ns
    exact ⟨o', ho'⟩
  · exact cell (x := "pieces") rfl
  · exact cell (x := "first") rfl
  · exact cell (x := "kind") rfl
  · exact cell (x := "thing") rfl
  · exact cell (x := "line") rfl

theorem Wk.aoff {a W row : Addr} {g : Nat} {is : List Addr} {xs : List Int} {st : GSt} (V : Wk T s a g W row is xs st) (hst : st ≠ .over) : a ∉ W :: is := by
  obtain ⟨gs, _, hG⟩ := V.gs
  obtain ⟨m, hn⟩ := hG.ns hst
  obtain ⟨o, nm, qn, ho, hc, hd, _⟩ := V.obj
  intro q
  rcases List.mem_cons.mp q with e | q
  · obtain ⟨oL, es, ep, hoL, hdL, _⟩ := hn
    rw [e, hoL] at ho; cases ho; rw [hdL] at hd; cases hd
  · obtain ⟨oi, vs, hoi, _, hci⟩ := hG.fields hst a q
    rw [ho] at hoi; cases hoi; rw [hc] at hci; exact absurd hci (by decide)

theorem Lf.gen_off (F : Lf h₀ L mg mb s.heap m cm) {a : Addr} {g : Nat} (hg : s.heap.IsGen a g) : a ∉ LC L := by
  obtain ⟨o, nm, qn, ho, hc, hd, _⟩ := hg
  exact F.off ho (fun _ _ => by simp [hd]) (fun _ => by simp [hd])

theorem Wv.rd {a W row : Addr} {g : Nat} {is : List Addr} {xs : List Int} {st : GSt} (F : Lf h₀ L mg mb s.heap m cm) (V : Wv T h₀ L s a g W row is xs st) (hh : A.handled = none) (hfr : A.frames = some [lawEnv L]) (hd : A.depth < recursionLimit) :
    Rd T mg mb A (hide s.heap (L :: W :: is)) [lawEnv L] s a g W row is xs st := by
  have hLW : L ≠ W := fun q => V.off W (.head _) (by rw [← q]; exact .head _)
  refine ⟨⟨hh, hfr, hd, fun b hb => hide_in (.tail _ hb), hide_stays _ _, ?_, ?_, ?_⟩, F.b, V.wk, V.live, V.bare⟩
  · exact Heap.FunFrames.cons (L := L) (by show ScopeKind.function ≠ ScopeKind.module; decide) rfl F.fr.ns (hide_in (.head _)) trivial
  · refine hide_off fun q => ?_
    rcases List.mem_cons.mp q with e | q
    · exact F.gen_off V.wk.obj (by rw [e]; exact .head _)
    · exact V.wk.aoff V.live q
  · intro env henv q
    rw [List.mem_singleton.mp henv] at q
    exact hLW (Option.some.inj q)

/-- the walk is over; the law's frame stands -/
structure Ov (L : Addr) (g : Nat) (W : Addr) (is : List Addr) (s s' : Shared) : Prop where
  keep : KB (L :: W :: is) s.heap s'.heap
  ns : ∀ m, s.heap.Ns L m → s'.heap.Ns L m
  fin : s'.gens[g]? = some .finished
  eq : s' = { s with heap := s'.heap, toks := s'.toks, gens := s.gens.setIfInBounds g .finished }

theorem Ov.ofCh {a W row : Addr} {g : Nat} {is : List Addr} {xs : List Int} {st : GSt} {s' : Shared} (V : Wv T h₀ L s a g W row is xs st) (hf : s'.gens[g]? = some .finished) (ch : Ch g W is s s' []) : Ov L g W is s s' := by
  have hL : L ∉ W :: is := fun q => V.off L q (.head _)
  obtain ⟨⟨gs, hb, e⟩, k, _⟩ := ch
  refine ⟨fun b o hb e => k b o (fun q => hb (.tail _ q)) e, fun m hn => hn.at' fun o e => k L o hL e, hf, ?_⟩
  obtain ⟨gs₀, hgs₀, _⟩ := V.bare
  have : gs = .finished := by
    rw [e] at hf
    have hlt := (Array.getElem?_eq_some_iff.mp hgs₀).1
    simp [hlt] at hf; exact hf
  rw [this] at e; exact e

theorem Ov.ofRq {a W row : Addr} {g : Nat} {is : List Addr} {xs : List Int} {st : GSt} {s' : Shared} (V : Wv T h₀ L s a g W row is xs st) (r : Rq (hide s.heap (L :: W :: is)) W g s s') : Ov L g W is s s' := by
  have hLW : L ≠ W := fun q => V.off W (.head _) (by rw [← q]; exact .head _)
  refine ⟨fun b o hb e => r.stays b o ((hide_off hb).trans e), fun m hn => r.slots.ns hLW hn, ?_, r.eq⟩
  obtain ⟨gs₀, hgs₀, _⟩ := V.bare
  have hlt := (Array.getElem?_eq_some_iff.mp hgs₀).1
  rw [r.eq]; simp [hlt]

theorem Wv.moved {a W row : Addr} {g : Nat} {is is' : List Addr} {xs : List Int} {st st' : GSt} {s' : Shared} {base : Heap} {outer : List Env} {A' : Around} (F : Lf h₀ L mg mb s.heap m cm) (V : Wv T h₀ L s a g W row is xs st)
    (R : Rd T mg mb A' base outer s' a g W row is' xs st') (ch : Ch g W is s s' is') : Wv T h₀ L s' a g W row is' xs st' := by
  refine ⟨R.w, R.live, R.bare, fun b hb => ?_, fun b hb => ?_⟩
  · rcases List.mem_cons.mp hb with e | hb
    · rw [e]; exact V.new W (.head _)
    · rcases (ch.new b hb).2 with q | q
      · exact V.new b (.tail _ q)
      · cases e : h₀.get? b with
        | none => rfl
        | some o => have := F.fr.keep b o e; rw [q] at this; cases this
  · rcases List.mem_cons.mp hb with e | hb
    · rw [e]; exact V.off W (.head _)
    · rcases (ch.new b hb).2 with q | q
      · exact V.off b (.tail _ q)
      · intro z; obtain ⟨o, ho⟩ := F.alive z; rw [q] at ho; cases ho

theorem ys_one {xs : List Int} {st st' : GSt} {v : Int} (h : Ys xs st [v] st') : gstep xs st = (.yield v, st') := by
  cases h with
  | cons a b => cases b; exact a

theorem ask_low (F : Lf h₀ L mg mb s.heap m cm) {a W row : Addr} {g : Nat} {is : List Addr} {xs : List Int} {st : GSt} (V : Wv T h₀ L s a g W row is xs st) : ∀ b ∈ lowA, (hide s.heap (L :: W :: is)).get? b = s.heap.get? b := fun b hb => hide_off fun q => by
  rcases List.mem_cons.mp q with e | q
  · exact F.low_off L (.head _) (e ▸ hb)
  · exact (V.wk.low b q).1 hb

/-- asked, where a size fits -/
theorem ask_fit {a W row : Addr} {g : Nat} {is : List Addr} {xs known : List Int} {st : GSt} {k thing again : Int} {tk tt : Tok} {p i : Nat} {Q : Value → Shared → Prop} (K : TOk T) (hT : T thing tt) (F : Lf h₀ L mg mb s.heap m cm) (V : Wv T h₀ L s a g W row is xs st)
    (hh : A.handled = none) (hfr : A.frames = some [lawEnv L]) (hd : A.depth + 2 < recursionLimit) (hu : A.units + 5 < cLine) (S : SlotOk st p known again) (hx : ∀ n ∈ xs, 0 ≤ n)
    (hfit : FirstFit k thing (lineOf (aheadB xs known p again) (beyondB xs known p again)) i)
    (h : ∀ s' is' v, FitIs k (lineOf (aheadB xs known p again) (beyondB xs known p again)) i v → Wv T h₀ L s' a g W row is' xs (afterJ p (aheadB xs known p again) (lineOf (aheadB xs known p again) (beyondB xs known p again)) (beyondB xs known p again) i) → Ch g W is s s' is' → Q v s') :
    wpAny (model prog w) A (call (.ref 77) [.ref a, .int k tk, .int thing tt]) Q E s := by
  have Y := line_ys S hx hfit.lt
  generalize afterJ p (aheadB xs known p again) (lineOf (aheadB xs known p again) (beyondB xs known p again)) (beyondB xs known p again) i = st' at *
  generalize lineOf (aheadB xs known p again) (beyondB xs known p again) = line at *
  have R := Wv.rd F V hh hfr (by omega)
  have hget : line[i]? = some (line.getD i 0) := by rw [List.getD_eq_getElem?_getD, List.getElem?_eq_getElem hfit.lt]; rfl
  have hdl : 2 ≤ k → ∀ y ∈ (line.take (i + 1)).dropLast, y ≠ thing := fun h2 y hy => by
    have e : (line.take (i + 1)).dropLast = line.take i := by
      rw [List.dropLast_eq_take, List.take_take]; congr 1; have := hfit.lt; simp; omega
    rw [e] at hy
    obtain ⟨j, hj, rfl⟩ := List.getElem_of_mem hy
    have hj' : j < i := by simp at hj; omega
    have := hfit.miss h2 j hj'
    rw [List.getD_eq_getElem?_getD, List.getElem?_eq_getElem (by have := hfit.lt; omega)] at this
    simpa using this
  have hlast : (line.take (i + 1)).getLast? = some (line.getD i 0) := by
    rw [List.getLast?_eq_getElem?]
    have hl : (line.take (i + 1)).length - 1 = i := by have := hfit.lt; simp; omega
    rw [hl, List.getElem?_take, if_pos (by omega)]; exact hget
  refine fn_asked K hT R hd hu (ask_low F V) (fun h1 => ?_) (fun h2 => ?_) (fun h3 => ?_) (fun h4 => ?_)
  · left
    have hi := hfit.zero h1
    subst hi
    have e : line.take (0 + 1) = [line.getD 0 0] := by
      cases line with
      | nil => cases hget
      | cons z zs => rfl
    rw [e] at Y
    exact ⟨_, st', ys_one Y, fun is' s' t _ R' ch => h s' is' _ (.size t h1) (V.moved F R' ch) ch⟩
  · exact ⟨_, st', .inl ⟨Y, hdl (by omega), .inl ⟨_, hlast, hfit.hit (by omega), fun is' s' R' ch => h s' is' _ (.yes h2) (V.moved F R' ch) ch⟩⟩⟩
  · refine ⟨_, st', .inl ⟨Y, hdl (by omega), .inl ⟨_, hlast, hfit.hit (by omega), fun is' s' t' R' ch => ?_⟩⟩⟩
    have hl : (line.take (i + 1)).length - 1 = i := by have := hfit.lt; simp; omega
    rw [hl]
    exact h s' is' _ (.idx t' h3) (V.moved F R' ch) ch
  · have := hfit.le; omega

/-- asked, where the walk comes to its end -/
theorem ask_over {a W row : Addr} {g : Nat} {is : List Addr} {xs known : List Int} {st : GSt} {k thing again : Int} {tk tt : Tok} {p : Nat} {Q : Value → Shared → Prop} (K : TOk T) (hT : T thing tt) (F : Lf h₀ L mg mb s.heap m cm) (V : Wv T h₀ L s a g W row is xs st)
    (hh : A.handled = none) (hfr : A.frames = some [lawEnv L]) (hd : A.depth + 2 < recursionLimit) (hu : A.units + 5 < cLine) (S : SlotOk st p known again) (hx : ∀ n ∈ xs, 0 ≤ n)
    (hb : ¬ beyondB xs known p again > 0) (h1 : k < 2 → aheadB xs known p again = []) (h2 : k < 4 → ∀ y ∈ aheadB xs known p again, y ≠ thing)
    (h : ∀ s' v, OverIs k thing (aheadB xs known p again) (beyondB xs known p again) v → Ov L g W is s s' → Q v s') :
    wpAny (model prog w) A (call (.ref 77) [.ref a, .int k tk, .int thing tt]) Q E s := by
  have R := Wv.rd F V hh hfr (by omega)
  rcases beyond_cases (place := p) rfl S hx with q | q | q
  · exact absurd q hb
  · obtain ⟨st', Y, hst⟩ := line_stop S hx q
    have hne : beyondB xs known p again ≠ -2 := by omega
    generalize aheadB xs known p again = ahead at *
    generalize beyondB xs known p again = beyond at *
    have hdl : k < 4 → ∀ y ∈ ahead.dropLast, y ≠ thing := fun h4 y hy => h2 h4 y (List.dropLast_subset _ hy)
    refine fn_asked K hT R hd hu (ask_low F V) (fun c1 => ?_) (fun c2 => ?_) (fun c3 => ?_) (fun c4 => ?_)
    · have := h1 c1
      subst this
      cases Y
      exact .inr (.inl ⟨hst, fun s' hf ch => h s' _ (.none hne c1) (Ov.ofCh V hf ch)⟩)
    · exact ⟨_, st', .inl ⟨Y, hdl (by omega), .inr ⟨h2 (by omega), hst, fun s' hf ch => h s' _ (.no hne c2) (Ov.ofCh V hf ch)⟩⟩⟩
    · exact ⟨_, st', .inl ⟨Y, hdl (by omega), .inr ⟨h2 (by omega), hst, fun s' u r => h s' _ (.idx u hne c3) (Ov.ofRq V r)⟩⟩⟩
    · exact ⟨_, st', .inl ⟨Y, hst, fun s' t' hf ch => h s' _ (.cnt t' hne c4) (Ov.ofCh V hf ch)⟩⟩
  · obtain ⟨ha, hst⟩ := line_bad S hx q
    refine fn_asked K hT R hd hu (ask_low F V) (fun c1 => ?_) (fun c2 => ?_) (fun c3 => ?_) (fun c4 => ?_)
    · exact .inr (.inr ⟨hst, fun s' u r => h s' _ (.bad u q) (Ov.ofRq V r)⟩)
    · exact ⟨[], st, .inr ⟨hst, fun s' u r => h s' _ (.bad u q) (Ov.ofRq V r)⟩⟩
    · exact ⟨[], st, .inr ⟨hst, fun s' u r => h s' _ (.bad u q) (Ov.ofRq V r)⟩⟩
    · exact ⟨[], st, .inr ⟨hst, fun s' u r => h s' _ (.bad u q) (Ov.ofRq V r)⟩⟩
end

/-- what is told and what is due: alike but for the marks -/
inductive Same2 : Value → Value → Prop
  | int (n : Int) (t u : Tok) : Same2 (.int n t) (.int n u)
  | bool (b : Bool) : Same2 (.bool b) (.bool b)
  | str (x : Str) (t u : Tok) : Same2 (.str x t) (.str x u)
  | none : Same2 .none .none

section
variable {prog : Program} {w : World} {A : Around} {s s₀ : Shared} {mg mb : Str → Option Value} {E : Value → Shared → Prop} {h₀ h h' : Heap} {L : Addr} {m cm : Str → Option Value} {T : Int → Tok → Prop}

theorem Same2.ne {v u : Value} (S : Same2 v u) {Q : Value → Shared → Prop} (h : Q (.bool false) s) : wpAny (model prog w) A (compareOp .NotEq v u) Q E s := by
  cases S with
  | int n t u => exact PyProof.Rows.ne_int (by simpa using h)
  | bool b => exact PyProof.Rows.ne_bool (by simpa using h)
  | str x t u => exact PyProof.Rows.ne_str (by simpa using h)
  | none => exact EqNone.ne_none_none h

def isB : Value → Bool
  | .bool _ => true
  | _ => false
theorem Same2.isB {v u : Value} (S : Same2 v u) : isB v = isB u := by cases S <;> rfl
theorem Same2.isi {v u : Value} (S : Same2 v u) {Q : Value → Shared → Prop} (h : ∀ tk, Q (.bool (Mine.isB v)) { s with toks := tk }) : wpAny (model prog w) A (call (.builtin "isinstance") [v, .type "bool"]) Q E s := by
  cases S with
  | int n t u => exact IsiPair.int_bool (h _)
  | bool b => exact IsiPair.bool_bool (h s.toks)
  | str x t u => exact IsiPair.str_bool (h _)
  | none => exact IsiPair.NoneType_bool (h _)
theorem Same2.symm {v u : Value} (S : Same2 v u) : Same2 u v := by
  cases S with
  | int n t u => exact .int n u t
  | bool b => exact .bool b
  | str x t u => exact .str x u t
  | none => exact .none

theorem st_cmp {v u : Value} {Q : Flow → Shared → Prop} (F : Lf h₀ L mg mb s.heap m cm) (S : Same2 v u) (hv : m "told" = some v) (hu : m "due" = some u) (h : ∀ tk, Q .next { s with toks := tk }) :
    wpAny (model prog w) A (exec (nth turn 10) (lawEnv L)) Q E s := by
  show wpAny _ _ (exec (.If (.BoolOp .Or [.Compare (.Name "told" _) [.NotEq] [.Name "due" _] _, .Compare (.Call (.Name "isinstance" _) [.Name "told" _, .Name "bool" _] [] _) [.NotEq] [.Call (.Name "isinstance" _) [.Name "due" _, .Name "bool" _] [] _] _] _) [.Return (some (.Constant (.bool false) _ _)) _] [] _) _) _ _ _
  refine wpAny_If (isTrue_or (wpAny_isTrue_Compare1 (ll F hv (ll F hu (S.ne (wpAny_truthy_bool ?_))))))
  rw [if_neg (by decide)]
  refine isTrue_or (wpAny_isTrue_Compare1 (Call_ (ldB (v := .builtin "isinstance") (env := lawEnv L) F.b PyProof.Rows.boot_isinstance (PyProof.Rows.callWith_builtin1 (args_cons (ll F hv (args_cons (ldB (v := .type "bool") (env := lawEnv L) F.b PyProof.Rows.boot_bool (args_nil (S.isi fun tk => ?_))))))))))
  refine Call_ (ldB (v := .builtin "isinstance") (env := lawEnv L) (s := { s with toks := tk }) F.b PyProof.Rows.boot_isinstance (PyProof.Rows.callWith_builtin1 (args_cons (ll (s := { s with toks := tk }) F hu (args_cons (ldB (v := .type "bool") (env := lawEnv L) (s := { s with toks := tk }) F.b PyProof.Rows.boot_bool (args_nil (S.symm.isi fun tk' => ?_))))))))
  refine PyProof.Rows.ne_bool (wpAny_truthy_bool ?_)
  rw [S.isB, if_neg (by simp)]
  refine isTrue_or_nil ?_
  rw [if_neg (by decide)]
  exact wpAny_execs_nil (h tk')

theorem st_states {x : Int} {t : Tok} {sts t0 t1 tn : Addr} {Q : Flow → Shared → Prop} (D : Mid h₀ L mg mb s₀ s m cm) (hx : m "x" = some (.int x t)) (hs : m "states" = some (.ref sts)) (hn : m "state" = some (.ref tn))
    (hl : s.heap.PlainList sts [Value.ref t0, .ref t1].toArray)
    (h : ∀ s' sts', Mid h₀ L mg mb s₀ s' (upd "states" (.ref sts') m) cm → KB (LC L) s.heap s'.heap → s'.heap.PlainList sts' (if x.fmod 2 = 0 then [Value.ref tn, .ref t1] else [Value.ref t0, .ref tn]).toArray → s.heap.get? sts' = none → Q .next s') :
    wpAny (model prog w) A (exec (nth turn 11) (lawEnv L)) Q E s := by
  show wpAny _ _ (exec (.Assign [.Name "states" _] (.IfExp (.Compare (.BinOp (.Name "x" _) .Mod (.Constant (.int 2) _ _) _) [.Eq] [.Constant (.int 0) _ _] _) (.List [.Name "state" _, .Subscript (.Name "states" _) (.Constant (.int 1) _ _) _] _) (.List [.Subscript (.Name "states" _) (.Constant (.int 0) _ _) _, .Name "state" _] _) _) _) _) _ _ _
  have two : ∀ {a b : Addr} {s₁ : Shared}, Mid h₀ L mg mb s₀ s₁ m cm → Gro s s₁ → [Value.ref a, .ref b] = (if x.fmod 2 = 0 then [Value.ref tn, .ref t1] else [Value.ref t0, .ref tn]) →
      wpAny (model prog w) A (newList [.ref a, .ref b]) (fun v s₁ => ∃ m cm, Mid h₀ L mg mb s₀ s₁ m cm ∧ ∀ s', Mid h₀ L mg mb s₀ s' (fun y => if y = "states" then some v else m y) cm → KB (LC L) s₁.heap s'.heap → Q .next s') E s₁ := by
    intro a b s₁ D₁ g₁ e
    refine wpAny_newList ⟨m, cm, D₁.push (tk := s₁.toks), fun s' D' k' => ?_⟩ (by show 2 ≤ sizeLine; decide)
    have hL : (s₁.heap.push { cls := .type "list", data := .seq ([Value.ref a, .ref b] : List Value).toArray }).PlainList s₁.heap.objs.size ([Value.ref a, .ref b] : List Value).toArray := ⟨0, Heap.get?_push_size _ rfl⟩
    rw [← e] at h
    refine h s' s₁.heap.objs.size D' (fun b o hb eb => k' b o hb (Heap.get?_push_of_some _ (g₁.kp b o eb))) (k'.list hL ((D₁.push (tk := s₁.toks)).list_off hL)) (g₁.dead (get?_size _))
  refine Mid.asg D (wpAny_IfExp (wpAny_isTrue_Compare1 (wpAny_BinOp (ll D.lf hx (wpAny_Constant_int (mod_int (by decide) (wpAny_Constant_int (PyProof.Rows.eq_int (wpAny_truthy_bool ?_)))))))))
  by_cases h0 : x.fmod 2 = 0
  · rw [if_pos (by simpa using h0)]
    refine List_ (args_cons (ll D.lf hn (args_cons (Subscript_ (ll D.lf hs (wpAny_Constant_int (item_listL (l := [Value.ref t0, .ref t1]) (x := .ref t1) (PL.isList hl) (by decide) (by decide) rfl (args_nil ?_))))))))
    exact two (D.toks) Gro.toks (by rw [if_pos h0])
  · rw [if_neg (by simpa using h0)]
    refine List_ (args_cons (Subscript_ (ll D.lf hs (wpAny_Constant_int (item_listL (l := [Value.ref t0, .ref t1]) (x := .ref t0) (PL.isList hl) (by decide) (by decide) rfl (args_cons (ll D.lf hn (args_nil ?_))))))))
    exact two (D.toks) Gro.toks (by rw [if_neg h0])
end

/-- one of the law's two records, and the walk behind it -/
structure SD where
  tup : Addr
  a : Addr
  g : Nat
  W : Addr
  is : List Addr
  st : GSt
  place : Nat
  known : List Int
  again : Int

structure Sl (T : Int → Tok → Prop) (h₀ : Heap) (L row : Addr) (xs : List Int) (s : Shared) (d : SD) : Prop where
  tup : ∃ tp ta k kvs, IsTup s.heap d.tup #[.ref d.a, .int (d.place : Int) tp, .ref k, .int d.again ta] ∧ k ≠ row ∧ s.heap.PlainList k kvs.toArray ∧ IntsAre kvs d.known
  wv : Wv T h₀ L s d.a d.g d.W row d.is xs d.st
  ok : SlotOk d.st d.place d.known d.again
  kl : d.known.length ≤ 1

/-- lists, tuples and walks lie off X -/
structure Typ (X : List Addr) (h : Heap) : Prop where
  seq : ∀ b o its n, h.get? b = some o → o.data = .seq its n → b ∉ X
  gen : ∀ b g, h.IsGen b g → b ∉ X

section
variable {prog : Program} {w : World} {A : Around} {s s' s₀ : Shared} {mg mb : Str → Option Value} {E : Value → Shared → Prop} {h₀ h h' : Heap} {L row : Addr} {m cm : Str → Option Value} {T : Int → Tok → Prop}

theorem Wv.kbx {a W : Addr} {g : Nat} {is : List Addr} {xs xs' : List Int} {st : GSt} {X : List Addr} (V : Wv T h₀ L s a g W row is xs st) (k : KB X s.heap s'.heap) (ha : a ∉ X) (hW : ∀ b ∈ W :: is, b ∉ X) (hg : s'.gens[g]? = s.gens[g]?)
    (hrow : ∃ vs : List Value, s'.heap.IsList row vs.toArray ∧ IntsAre vs xs' ∧ ∀ n t, Value.int n t ∈ vs → T n t) : Wv T h₀ L s' a g W row is xs' st := by
  obtain ⟨o, nm, qn, ho, r⟩ := V.wk.obj
  obtain ⟨gs, hgs, hG⟩ := V.wk.gs
  exact ⟨⟨⟨o, nm, qn, k _ _ ha ho, r⟩, ⟨gs, hg.trans hgs, hG.keep fun b hb o e => k b o (hW b hb) e⟩, V.wk.low, hrow⟩, V.live, let ⟨gs, e, b⟩ := V.bare; ⟨gs, hg.trans e, b⟩, V.new, V.off⟩

theorem Wv.kb {a W : Addr} {g : Nat} {is : List Addr} {xs : List Int} {st : GSt} {X : List Addr} (V : Wv T h₀ L s a g W row is xs st) (k : KB X s.heap s'.heap) (ha : a ∉ X) (hr : row ∉ X) (hW : ∀ b ∈ W :: is, b ∉ X) (hg : s'.gens[g]? = s.gens[g]?) : Wv T h₀ L s' a g W row is xs st := by
  refine V.kbx k ha hW hg ?_
  obtain ⟨vs, ⟨o, ho, r⟩, hi⟩ := V.wk.row
  exact ⟨vs, ⟨o, k _ _ hr ho, r⟩, hi⟩

theorem plain_ne_tup {b t : Addr} {its its' : Array Value} (hb : h.PlainList b its) (ht : IsTup h t its') : t ≠ b := fun q => by
  obtain ⟨n, hb⟩ := hb
  obtain ⟨o, ho, hc, _⟩ := ht
  rw [q, hb] at ho; cases ho
  exact absurd (show Value.type "list" = Value.type "tuple" from hc) (by decide)

theorem plain_ne_gen {b a : Addr} {g : Nat} {its : Array Value} (hb : h.PlainList b its) (hG : h.IsGen a g) : a ≠ b := fun q => by
  obtain ⟨o, nm, qn, ho, hc, hd, _⟩ := hG
  obtain ⟨n, hr⟩ := hb
  rw [q, hr] at ho; cases ho
  exact absurd (show Value.type "list" = Value.type "generator" from hc) (by decide)

theorem Sl.kbx {xs xs' : List Int} {X : List Addr} {d : SD} {rvs : Array Value} (V : Sl T h₀ L row xs s d) (k : KB (row :: X) s.heap s'.heap) (t : Typ X s.heap) (hrl : s.heap.PlainList row rvs) (hW : ∀ b ∈ d.W :: d.is, b ∉ X) (hg : s'.gens[d.g]? = s.gens[d.g]?)
    (hrow : ∃ vs : List Value, s'.heap.IsList row vs.toArray ∧ IntsAre vs xs' ∧ ∀ n t, Value.int n t ∈ vs → T n t) : Sl T h₀ L row xs' s' d := by
  obtain ⟨tp, ta, kk, kvs, ht, hkr, hk, hki⟩ := V.tup
  have two : ∀ {b : Addr}, b ≠ row → b ∉ X → b ∉ row :: X := fun h1 h2 q => (List.mem_cons.mp q).elim h1 h2
  refine ⟨⟨tp, ta, kk, kvs, ?_, hkr, ?_, hki⟩, V.wv.kbx k (two (plain_ne_gen hrl V.wv.wk.obj) (t.gen _ _ V.wv.wk.obj)) (fun b hb => two (V.wv.wk.low b hb).2 (hW b hb)) hg hrow, V.ok, V.kl⟩
  · have hne := plain_ne_tup hrl ht
    obtain ⟨o, ho, hc, n, hd⟩ := ht
    exact ⟨o, k _ _ (two hne (t.seq _ _ _ _ ho hd)) ho, hc, n, hd⟩
  · obtain ⟨n, ho⟩ := hk
    exact ⟨n, k _ _ (two hkr (t.seq _ _ _ _ ho rfl)) ho⟩

theorem Lf.typ (F : Lf h₀ L mg mb h m cm) : Typ (LC L) h :=
  ⟨fun b o its n ho hd => F.off ho (fun _ _ => by simp [hd]) (fun _ => by simp [hd]), fun b g ⟨o, nm, qn, ho, hc, hd, _⟩ => F.off ho (fun _ _ => by simp [hd]) (fun _ => by simp [hd])⟩
theorem Wv.typ {a W : Addr} {g : Nat} {is : List Addr} {xs : List Int} {st : GSt} (V : Wv T h₀ L s a g W row is xs st) : Typ (W :: is) s.heap := by
  obtain ⟨gs, _, hG⟩ := V.wk.gs
  obtain ⟨mW, oW, es, ep, hoW, hdW, _⟩ := hG.ns V.live
  refine ⟨fun b o its n ho hd q => ?_, fun b g hg q => ?_⟩
  · rcases List.mem_cons.mp q with e | q
    · rw [e, hoW] at ho; cases ho; rw [hdW] at hd; cases hd
    · obtain ⟨oi, vs, hoi, hdi, _⟩ := hG.fields V.live b q
      rw [ho] at hoi; cases hoi; rw [hd] at hdi; cases hdi
  · obtain ⟨o, nm, qn, ho, hc, hd, _⟩ := hg
    rcases List.mem_cons.mp q with e | q
    · rw [e, hoW] at ho; cases ho; rw [hdW] at hd; cases hd
    · obtain ⟨oi, vs, hoi, hdi, hci⟩ := hG.fields V.live b q
      rw [ho] at hoi; cases hoi; rw [hc] at hci; exact absurd hci (by decide)
theorem Typ.app {X Y : List Addr} (a : Typ X h) (b : Typ Y h) : Typ (X ++ Y) h :=
  ⟨fun x o its n ho hd q => (List.mem_append.mp q).elim (a.seq x o its n ho hd) (b.seq x o its n ho hd), fun x g hG q => (List.mem_append.mp q).elim (a.gen x g hG) (b.gen x g hG)⟩
theorem Typ.list {X : List Addr} {b : Addr} {its : Array Value} (t : Typ X h) (k : KB X h h') (hb : h.PlainList b its) : h'.PlainList b its :=
  let ⟨n, ho⟩ := hb; ⟨n, k _ _ (t.seq _ _ _ _ ho rfl) ho⟩
theorem Typ.tup {X : List Addr} {b : Addr} {its : Array Value} (t : Typ X h) (k : KB X h h') (hb : IsTup h b its) : IsTup h' b its :=
  let ⟨o, ho, hc, n, hd⟩ := hb; ⟨o, k _ _ (t.seq _ _ _ _ ho hd) ho, hc, n, hd⟩

/-- what the asking leaves -/
structure Aft (h₀ : Heap) (L : Addr) (mg mb : Str → Option Value) (g : Nat) (W : Addr) (is : List Addr) (s s' : Shared) (m cm : Str → Option Value) : Prop where
  lf : Lf h₀ L mg mb s'.heap m cm
  keep : KB (LC L ++ W :: is) s.heap s'.heap
  eq : ∃ gs : GenState, gs.bare = true ∧ s' = { s with heap := s'.heap, toks := s'.toks, gens := s.gens.setIfInBounds g gs }

theorem Lf.ofCh {a W : Addr} {g : Nat} {is is' : List Addr} {xs : List Int} {st : GSt} (F : Lf h₀ L mg mb s.heap m cm) (V : Wv T h₀ L s a g W row is xs st) (ch : Ch g W is s s' is') : Lf h₀ L mg mb s'.heap m cm :=
  F.kb ch.keep fun b hb => ⟨V.off b hb, V.new b hb⟩

theorem Lf.ofOv {a W : Addr} {g : Nat} {is : List Addr} {xs : List Int} {st : GSt} (F : Lf h₀ L mg mb s.heap m cm) (V : Wv T h₀ L s a g W row is xs st) (o : Ov L g W is s s') : Lf h₀ L mg mb s'.heap m cm := by
  have old : ∀ b o, h₀.get? b = some o → b ∉ L :: W :: is := fun b o e q => by
    rcases List.mem_cons.mp q with q | q
    · exact F.old e (by rw [q]; exact .head _)
    · rw [V.new b q] at e; cases e
  refine ⟨⟨o.ns _ F.fr.ns, fun b ob e => o.keep b ob (old b ob e) (F.fr.keep b ob e), F.fr.above⟩, ⟨fun n c e => ?_, F.cl.apart, F.cl.above⟩, F.b.kb o.keep fun b hb hl => ?_, F.low⟩
  · obtain ⟨oc, ho, hd⟩ := F.cl.cell n c e
    refine ⟨oc, o.keep c oc (fun q => ?_) ho, hd⟩
    rcases List.mem_cons.mp q with q | q
    · exact Nat.ne_of_gt (F.cl.above n c (mem_of_lookup e)) q
    · exact V.off c q (cell_addr e)
  · rcases List.mem_cons.mp hb with q | q
    · exact F.low_off L (.head _) (q ▸ hl)
    · exact (V.wk.low b q).1 hl

/-- told = _law_asked(walk, kind, thing) -/
theorem st_told {v2 : Value} {ahead : List Int} {beyond kind thing : Int} {tt : Tok} {fit : List Int} {m₀ cm₀ : Str → Option Value} {a W : Addr} {g : Nat} {is : List Addr} {Q : Flow → Shared → Prop} {R : Shared → Value → Prop}
    (P : Pre h₀ L mg mb s₀ s m₀ cm₀ m cm (.ref a) v2 ahead beyond kind fit) (hth : cm₀ "thing" = some (.int thing tt))
    (ask : ∀ tk, wpAny (model prog w) A (call (.ref 77) [.ref a, .int kind tk, .int thing tt]) (fun v s' => (Lf h₀ L mg mb s'.heap m cm ∧ KB (L :: W :: is) s.heap s'.heap ∧ (∃ gs : GenState, gs.bare = true ∧ s' = { s with heap := s'.heap, toks := s'.toks, gens := s.gens.setIfInBounds g gs })) ∧ R s' v) E s)
    (h : ∀ s₁ s' v, R s₁ v → Aft h₀ L mg mb g W is s s' (upd "told" v m) cm → KB (LC L) s₁.heap s'.heap → s'.gens = s₁.gens → Lf h₀ L mg mb s₁.heap m cm → Q .next s') :
    wpAny (model prog w) A (exec (nth turn 8) (lawEnv L)) Q E s := by
  obtain ⟨tk, hk⟩ := P.kd
  have F := P.mid.lf
  show wpAny _ _ (exec (.Assign [.Name "told" _] (.Call (.Name "_law_asked" _) [.Name "walk" _, .Name "kind" _, .Name "thing" _] [] _) _) _) _ _ _
  refine wpAny_Assign_Name (callByName (i := 12) F.b.g (F.b.fns (12, 77, 76) (by decide)) rfl (args_cons (ll F P.walk (args_cons (lc F hk (args_cons (lc F (P.thing.trans hth) (args_nil ⟨fun o q => q, ?_⟩))))))))
  refine wpAny_mono (ask tk) (fun v s₁ hq => ?_) fun _ _ e => e
  obtain ⟨⟨F₁, k₁, gs, hb, e₁⟩, hR⟩ := hq
  refine F₁.mid.st fun s' D' k' => ?_
  refine h s₁ s' v hR ⟨D'.lf, fun b o hb e => ?_, ⟨gs, hb, ?_⟩⟩ k' (by rw [D'.eq]) F₁
  · have h1 : b ∉ LC L := fun q => hb (List.mem_append_left _ q)
    have h2 : b ∉ W :: is := fun q => hb (List.mem_append_right _ q)
    exact k' b o h1 (k₁ b o (fun q => (List.mem_cons.mp q).elim (fun e => h1 (by rw [e]; exact .head _)) h2) e)
  · rw [D'.eq, e₁]
end

def nineIf : Stmt := nth turn 9
def fitIf : Stmt := nth (ifBody nineIf) 2

theorem FitIs.same {k : Int} {line : List Int} {i : Nat} {v u : Value} (a : FitIs k line i v) (b : FitIs k line i u) : Same2 v u := by
  cases a with
  | size t h1 => cases b with
    | size u h2 => exact .int _ _ _
    | yes h2 => omega
    | idx u h2 => omega
  | yes h1 => cases b with
    | size u h2 => omega
    | yes h2 => exact .bool _
    | idx u h2 => omega
  | idx t h1 => cases b with
    | size u h2 => omega
    | yes h2 => omega
    | idx u h2 => exact .int _ _ _

section
variable {prog : Program} {w : World} {A : Around} {s s' s₀ : Shared} {mg mb : Str → Option Value} {E : Value → Shared → Prop} {h₀ h h' : Heap} {L row : Addr} {m cm : Str → Option Value} {T : Int → Tok → Prop}

/-- a record of four, made anew, and stored as «state» -/
theorem st_tuple4 {v1 v2 v3 v4 : Value} {R : Shared → Prop} (D : Mid h₀ L mg mb s₀ s m cm)
    (h : ∀ s' tn, Mid h₀ L mg mb s₀ s' (upd "state" (.ref tn) m) cm → KB (LC L) s.heap s'.heap → IsTup s'.heap tn #[v1, v2, v3, v4] → s.heap.get? tn = none → R s') :
    wpAny (model prog w) A (newTuple [v1, v2, v3, v4]) (fun v s₁ => ∃ m cm, Mid h₀ L mg mb s₀ s₁ m cm ∧ ∀ s', Mid h₀ L mg mb s₀ s' (fun y => if y = "state" then some v else m y) cm → KB (LC L) s₁.heap s'.heap → R s') E s := by
  refine wpAny_newTuple ⟨m, cm, D.push (tk := s.toks), fun s' D' k' => ?_⟩
  have hT : IsTup (s.heap.push { cls := .type "tuple", data := .seq ([v1, v2, v3, v4] : List Value).toArray }) s.heap.objs.size #[v1, v2, v3, v4] := ⟨_, Heap.get?_push_size _ rfl, rfl, 0, rfl⟩
  refine h s' s.heap.objs.size D' (fun b o hb eb => k' b o hb (Heap.get?_push_of_some _ eb)) ?_ (get?_size _)
  obtain ⟨o, ho, r⟩ := hT
  exact ⟨o, k' _ _ (Mid.tup_off (D.push (tk := s.toks)) ⟨o, ho, r⟩) ho, r⟩

theorem nine_fit {a : Addr} {k beyond : Int} {place i : Nat} {tk tb tp : Tok} {fi Ln Ah : Addr} {fvs lvs avs : List Value} {as ahead line : List Int} {Q : Flow → Shared → Prop} (F : Lf h₀ L mg mb s.heap m cm) (hu : A.units + 64 < cLine)
    (hfi : m "fit" = some (.ref fi)) (hF : s.heap.PlainList fi fvs.toArray) (hFi : IntsAre fvs ((i : Int) :: as))
    (hln : cm "line" = some (.ref Ln)) (hL : s.heap.PlainList Ln lvs.toArray) (hLi : IntsAre lvs line) (hi : i < line.length)
    (hah : m "ahead" = some (.ref Ah)) (hA : s.heap.PlainList Ah avs.toArray) (hAi : IntsAre avs ahead) (hz : ahead.length ≤ 1000) (hlz : line.length ≤ 1001)
    (hb : m "beyond" = some (.int beyond tb)) (hk : cm "kind" = some (.int k tk)) (hk0 : 0 ≤ k) (hk3 : k ≤ 3) (hw : m "walk" = some (.ref a)) (hpl : m "place" = some (.int (place : Int) tp))
    (h : ∀ s' m' u tn kk kvs tp' ta', Mid h₀ L mg mb s s' m' cm → (∀ y : Str, y ≠ "spot" → y ≠ "due" → y ≠ "state" → m' y = m y) → m' "due" = some u → FitIs k line i u → m' "state" = some (.ref tn) →
      IsTup s'.heap tn #[.ref a, .int ((if i < ahead.length then place + i + 1 else place : Nat) : Int) tp', .ref kk, .int (if i < ahead.length then 0 else beyond) ta'] → s'.heap.PlainList kk kvs.toArray → IntsAre kvs (if i < ahead.length then [line.getD i 0] else []) → s.heap.get? kk = none → Q .next s') :
    wpAny (model prog w) A (exec (nth turn 9) (lawEnv L)) Q E s := by
  have lf : fvs.length = as.length + 1 := by rw [hFi.length]; rfl
  have ll' : lvs.length = line.length := hLi.length
  have la : avs.length = ahead.length := hAi.length
  have D := F.mid
  show wpAny _ _ (exec (.If (.Compare (.Name "fit" _) [.NotEq] [.List [] _] _) (nth (ifBody nineIf) 0 :: nth (ifBody nineIf) 1 :: [nth (ifBody nineIf) 2]) (ifElse nineIf) _) _) _ _ _
  refine wpAny_If (wpAny_isTrue_Compare1 (ll F hfi (List_ (args_nil (wpAny_newList (ke_ne_ints (xs := fvs) (ys := []) (ns := (i : Int) :: as) (ms := []) (PL.isList (PL.at hF fun o e => Heap.get?_push_of_some _ e)) ⟨_, Heap.get?_push_size _ rfl, rfl, 0, rfl⟩ hFi .nil hu (wpAny_truthy_bool ?_)) (by decide))))))
  rw [if_pos (by simp)]
  have D₁ := D.push (tk := s.toks) (o := { cls := .type "list", data := .seq ([] : List Value).toArray })
  have g₁ : Gro s { s with heap := s.heap.push { cls := .type "list", data := .seq ([] : List Value).toArray } } := Gro.push
  have hF₁ := PL.at hF fun o e => g₁.kp fi o e
  have hL₁ := PL.at hL fun o e => g₁.kp Ln o e
  have hA₁ := PL.at hA fun o e => g₁.kp Ah o e
  generalize { s with heap := s.heap.push { cls := .type "list", data := .seq ([] : List Value).toArray } } = s₁ at D₁ g₁ hF₁ hL₁ hA₁
  obtain ⟨t0, ht0⟩ := hFi.get 0 (i : Int) rfl
  refine wpAny_execs_cons ?_
  show wpAny _ _ (exec (.Assign [.Name "spot" _] (.Subscript (.Name "fit" _) (.Constant (.int 0) _ _) _) _) _) _ _ _
  refine Mid.asg D₁ (Subscript_ (ll D₁.lf hfi (wpAny_Constant_int (item_listL (l := fvs) (x := .int (i : Int) t0) (PL.isList hF₁) (by decide) (by decide) ht0 ⟨m, cm, D₁.toks, fun s₂ D₂ k₂ => ?_⟩))))
  have hL₂ := k₂.list hL₁ (D₁.list_off hL₁)
  have hA₂ := k₂.list hA₁ (D₁.list_off hA₁)
  have hsp : (fun y => if y = ("spot" : Str) then some (Value.int (i : Int) t0) else m y) "spot" = some (.int (i : Int) t0) := if_pos rfl
  obtain ⟨tl, htl⟩ := hLi.get i (line.getD i 0) (by rw [List.getD_eq_getElem?_getD, List.getElem?_eq_getElem hi]; rfl)
  refine wpAny_execs_cons ?_
  show wpAny _ _ (exec (.Assign [.Name "due" _] (.Subscript (.Tuple [.Subscript (.Name "line" _) (.Name "spot" _) _, .Subscript (.Name "line" _) (.Name "spot" _) _, .Constant (.bool true) _ _, .Name "spot" _] _ _) (.Name "kind" _) _) _) _) _ _ _
  refine Mid.asg D₂ (Subscript_ (Tuple_ (args_cons (Subscript_ (lc D₂.lf hln (ll D₂.lf hsp (item_listL (l := lvs) (x := .int (line.getD i 0) tl) (PL.isList hL₂) (by omega) (by omega) htl (args_cons (Subscript_ (lc D₂.lf hln (ll D₂.lf hsp (item_listL (l := lvs) (x := .int (line.getD i 0) tl) (PL.isList hL₂) (by omega) (by omega) htl (args_cons (wpAny_Constant_bool (args_cons (ll D₂.lf hsp (args_nil (wpAny_newTuple ?_))))))))))))))))))
  have D₃ := D₂.push (tk := s₂.toks) (o := { cls := .type "tuple", data := .seq ([Value.int (line.getD i 0) tl, Value.int (line.getD i 0) tl, Value.bool true, Value.int (i : Int) t0] : List Value).toArray })
  refine lc D₃.lf hk ?_
  obtain ⟨u, hu4, hfu⟩ : ∃ u, [Value.int (line.getD i 0) tl, Value.int (line.getD i 0) tl, Value.bool true, Value.int (i : Int) t0][k.toNat]? = some u ∧ FitIs k line i u := by
    have : k = 0 ∨ k = 1 ∨ k = 2 ∨ k = 3 := by omega
    rcases this with q | q | q | q <;> subst q
    · exact ⟨_, rfl, .size _ (by decide)⟩
    · exact ⟨_, rfl, .size _ (by decide)⟩
    · exact ⟨_, rfl, .yes rfl⟩
    · exact ⟨_, rfl, .idx _ rfl⟩
  refine kba_turn (value' := PySem.Expr.Name "_" ⟨0, 0, 0, 0⟩) (fun _ => rfl) (item_tupleL (l := [Value.int (line.getD i 0) tl, Value.int (line.getD i 0) tl, Value.bool true, Value.int (i : Int) t0]) (j := k.toNat) (x := u) ⟨_, Heap.get?_push_size _ rfl, rfl, 0, rfl⟩ (by omega) (by omega) ?_ hu4 ⟨_, cm, D₃, fun s₄ D₄ k₄ => ?_⟩)
  · unfold seqIndex?; simp; omega
  have hA₃ := PL.at hA₂ fun o e => Heap.get?_push_of_some { cls := .type "tuple", data := .seq ([Value.int (line.getD i 0) tl, Value.int (line.getD i 0) tl, Value.bool true, Value.int (i : Int) t0] : List Value).toArray } e
  have hL₃ := PL.at hL₂ fun o e => Heap.get?_push_of_some { cls := .type "tuple", data := .seq ([Value.int (line.getD i 0) tl, Value.int (line.getD i 0) tl, Value.bool true, Value.int (i : Int) t0] : List Value).toArray } e
  have hA₄ := k₄.list hA₃ (D₃.list_off hA₃)
  have hL₄ := k₄.list hL₃ (D₃.list_off hL₃)
  have k04 : KB (LC L) s.heap s₄.heap := fun b o hb e => k₄ b o hb (Heap.get?_push_of_some _ (k₂ b o hb (g₁.kp b o e)))
  have hsame : ∀ y : Str, y ≠ "spot" → y ≠ "due" → (fun y => if y = ("due" : Str) then some u else (fun y => if y = ("spot" : Str) then some (Value.int (i : Int) t0) else m y) y) y = m y := fun y h1 h2 => (if_neg h2).trans (if_neg h1)
  have hdue : (fun y => if y = ("due" : Str) then some u else (fun y => if y = ("spot" : Str) then some (Value.int (i : Int) t0) else m y) y) "due" = some u := if_pos rfl
  have hsp₄ : (fun y => if y = ("due" : Str) then some u else (fun y => if y = ("spot" : Str) then some (Value.int (i : Int) t0) else m y) y) "spot" = some (.int (i : Int) t0) := (if_neg (by decide)).trans (if_pos rfl)
  generalize (fun y => if y = ("due" : Str) then some u else (fun y => if y = ("spot" : Str) then some (Value.int (i : Int) t0) else m y) y) = m₄ at D₄ hsame hdue hsp₄
  have hah₄ := (hsame "ahead" (by decide) (by decide)).trans hah
  have hw₄ := (hsame "walk" (by decide) (by decide)).trans hw
  have hpl₄ := (hsame "place" (by decide) (by decide)).trans hpl
  have hb₄ := (hsame "beyond" (by decide) (by decide)).trans hb
  have dead4 : ∀ {b : Addr}, b ∉ LC L → s₄.heap.get? b = none → s.heap.get? b = none := fun {b} hb hd => by
    cases e : s.heap.get? b with
    | none => rfl
    | some o => have := k04 b o hb e; rw [hd] at this; cases this
  refine wpAny_execs_cons ?_
  show wpAny _ _ (exec (.If (.Compare (.Name "spot" _) [.Lt] [.Call (.Name "len" _) [.Name "ahead" _] [] _] _) [nth (ifBody fitIf) 0] [nth (ifElse fitIf) 0] _) _) _ _ _
  refine wpAny_If (wpAny_isTrue_Compare1 (ll D₄.lf hsp₄ (Call_ (ldB (v := .builtin "len") (env := lawEnv L) D₄.lf.b PySem.boot_len (PyProof.Rows.callWith_builtin1 (args_cons (ll D₄.lf hah₄ (args_nil (len_list (PL.isList hA₄) (by simp; omega) (wpAny_lt_int (wpAny_truthy_bool ?_)))))))))))
  have hsz : (avs.toArray.size : Int) = (ahead.length : Int) := by simp [la]
  rw [hsz]
  have D₅ := D₄.toks (tk := s₄.toks + 1 + 1)
  by_cases hc : i < ahead.length
  · rw [if_pos (by simp; omega)]
    refine wpAny_execs_cons ?_
    show wpAny _ _ (exec (.Assign [.Name "state" _] (.Tuple [.Name "walk" _, .BinOp (.BinOp (.Name "place" _) .Add (.Name "spot" _) _) .Add (.Constant (.int 1) _ _) _, .List [.Subscript (.Name "line" _) (.Name "spot" _) _] _, .Constant (.int 0) _ _] _ _) _) _) _ _ _
    refine Mid.asg D₅ (Tuple_ (args_cons (ll D₅.lf hw₄ (args_cons (wpAny_BinOp (wpAny_BinOp (ll D₅.lf hpl₄ (ll D₅.lf hsp₄ (wpAny_add_int (wpAny_Constant_int (wpAny_add_int (args_cons (List_ (args_cons (Subscript_ ?_)))))))))))))))
    refine lc (D₅.toks).lf hln (ll (D₅.toks).lf hsp₄ (item_listL (l := lvs) (x := .int (line.getD i 0) tl) (PL.isList hL₄) (by omega) (by omega) htl (args_nil (one_list fun s₆ kk g₆ hkk hnk => args_cons (wpAny_Constant_int (args_nil ?_))))))
    have D₆ := (D₅.toks).gro g₆
    have D₆' := D₆.toks (tk := s₆.toks + 1)
    refine st_tuple4 D₆' fun s₇ tn D₇ k₇ hT _ => ?_
    have hkk₇ := k₇.list hkk (D₆.list_off hkk)
    obtain ⟨tp', ta', hT'⟩ : ∃ tp' ta', IsTup s₇.heap tn #[.ref a, .int ((if i < ahead.length then place + i + 1 else place : Nat) : Int) tp', .ref kk, .int (if i < ahead.length then 0 else beyond) ta'] := by
      have e : ((place + i + 1 : Nat) : Int) = (place : Int) + (i : Int) + 1 := by omega
      rw [if_pos hc, if_pos hc, e]
      exact ⟨_, _, hT⟩
    refine wpAny_execs_nil (wpAny_execs_nil (h s₇ _ u tn kk _ tp' ta' D₇ (fun y h1 h2 h3 => (if_neg h3).trans (hsame y h1 h2)) ((if_neg (by decide)).trans hdue) hfu (if_pos rfl) hT' hkk₇ ?_ ?_))
    · rw [if_pos hc]; exact .cons _ _ .nil
    · refine dead4 (fun q => ?_) hnk
      obtain ⟨o, ho⟩ := D₄.lf.alive q
      have : s₄.heap.get? kk = none := hnk
      rw [this] at ho; cases ho
  · rw [if_neg (by simp; omega)]
    refine wpAny_execs_cons ?_
    show wpAny _ _ (exec (.Assign [.Name "state" _] (.Tuple [.Name "walk" _, .Name "place" _, .List [] _, .Name "beyond" _] _ _) _) _) _ _ _
    refine Mid.asg D₅ (Tuple_ (args_cons (ll D₅.lf hw₄ (args_cons (ll D₅.lf hpl₄ (args_cons (List_ (args_nil (wpAny_newList ?_ (by decide))))))))))
    have D₆ := D₅.push (tk := s₄.toks + 1 + 1) (o := { cls := .type "list", data := .seq ([] : List Value).toArray })
    refine args_cons (ll D₆.lf hb₄ (args_nil (st_tuple4 D₆ fun s₇ tn D₇ k₇ hT _ => ?_)))
    have hkk : (s₄.heap.push { cls := .type "list", data := .seq ([] : List Value).toArray }).PlainList s₄.heap.objs.size ([] : List Value).toArray := ⟨0, Heap.get?_push_size _ rfl⟩
    have hkk₇ := k₇.list hkk (D₆.list_off hkk)
    obtain ⟨tp', ta', hT'⟩ : ∃ tp' ta', IsTup s₇.heap tn #[.ref a, .int ((if i < ahead.length then place + i + 1 else place : Nat) : Int) tp', .ref s₄.heap.objs.size, .int (if i < ahead.length then 0 else beyond) ta'] := by
      rw [if_neg hc, if_neg hc]
      exact ⟨_, _, hT⟩
    refine wpAny_execs_nil (wpAny_execs_nil (h s₇ _ u tn _ [] tp' ta' D₇ (fun y h1 h2 h3 => (if_neg h3).trans (hsame y h1 h2)) ((if_neg (by decide)).trans hdue) hfu (if_pos rfl) hT' hkk₇ ?_ ?_))
    · rw [if_neg hc]; exact .nil
    · refine dead4 (fun q => ?_) (get?_size _)
      obtain ⟨o, ho⟩ := D₄.lf.alive q
      exact Nat.lt_irrefl _ (Heap.lt_size ho)
end

theorem OverIs.same {k thing b : Int} {ahead : List Int} {v u : Value} (x : OverIs k thing ahead b v) (y : OverIs k thing ahead b u) : Same2 v u := by
  cases x with
  | bad t h => cases y with
    | bad u h' => exact .str _ _ _
    | none h' h1 => exact absurd h h'
    | no h' h1 => exact absurd h h'
    | idx u h' h1 => exact absurd h h'
    | cnt u h' h1 => exact absurd h h'
  | none h h1 => cases y with
    | bad u h' => exact absurd h' h
    | none h' h2 => exact .none
    | no h' h2 => omega
    | idx u h' h2 => omega
    | cnt u h' h2 => omega
  | no h h1 => cases y with
    | bad u h' => exact absurd h' h
    | none h' h2 => omega
    | no h' h2 => exact .bool _
    | idx u h' h2 => omega
    | cnt u h' h2 => omega
  | idx t h h1 => cases y with
    | bad u h' => exact absurd h' h
    | none h' h2 => omega
    | no h' h2 => omega
    | idx u h' h2 => exact .str _ _ _
    | cnt u h' h2 => omega
  | cnt t h h1 => cases y with
    | bad u h' => exact absurd h' h
    | none h' h2 => omega
    | no h' h2 => omega
    | idx u h' h2 => omega
    | cnt u h' h2 => exact .int _ _ _

section
variable {prog : Program} {w : World} {A : Around} {s s' s₀ : Shared} {mg mb : Str → Option Value} {E : Value → Shared → Prop} {h₀ h h' : Heap} {L row : Addr} {m cm : Str → Option Value} {T : Int → Tok → Prop}

theorem nine_over {a : Addr} {g : Nat} {k thing beyond : Int} {tk tt tb : Tok} {fi Ah : Addr} {fvs avs : List Value} {ahead : List Int} {Q : Flow → Shared → Prop} (F : Lf h₀ L mg mb s.heap m cm) (hh : A.handled = none) (hd : A.depth < recursionLimit) (hu : A.units + 64 < cLine)
    (hfi : m "fit" = some (.ref fi)) (hF : s.heap.PlainList fi fvs.toArray) (hFi : IntsAre fvs ([] : List Int))
    (hah : m "ahead" = some (.ref Ah)) (hA : s.heap.PlainList Ah avs.toArray) (hAi : IntsAre avs ahead)
    (hb : m "beyond" = some (.int beyond tb)) (hk : cm "kind" = some (.int k tk)) (hth : cm "thing" = some (.int thing tt)) (hw : m "walk" = some (.ref a)) (hr : m "row" = some (.ref row))
    (hG : s.heap.IsGen a g) (hfin : s.gens[g]? = some .finished)
    (h : ∀ (s₄ s' : Shared) m' u tn kk a₂ L₂ tp' ta', Lf h₀ L mg mb s'.heap m' cm → KB (LC L) s.heap s₄.heap → KB (LC L) s₄.heap s'.heap → s'.gens = s₄.gens → s₄ = { s with heap := s₄.heap, toks := s₄.toks, gens := s.gens.push (.fresh (.func giBody (giEnv L₂))) } → s' = { s₄ with heap := s'.heap, toks := s'.toks } →
      s₄.heap.IsGen a₂ s.gens.size → (∃ mw, s₄.heap.Ns L₂ mw ∧ mw "grouping" = some (.ref row)) → s.heap.get? L₂ = none → L₂ ∉ LC L → (∃ mx, Lf h₀ L mg mb s₄.heap mx cm) →
      (∀ y : Str, y ≠ "due" → y ≠ "state" → m' y = m y) → m' "due" = some u → OverIs k thing ahead beyond u → m' "state" = some (.ref tn) →
      IsTup s'.heap tn #[.ref a₂, .int 0 tp', .ref kk, .int 0 ta'] → s'.heap.PlainList kk ([] : List Value).toArray → s.heap.get? kk = none → Q .next s') :
    wpAny (model prog w) A (exec (nth turn 9) (lawEnv L)) Q E s := by
  have D := F.mid
  show wpAny _ _ (exec (.If (.Compare (.Name "fit" _) [.NotEq] [.List [] _] _) (ifBody nineIf) (nth (ifElse nineIf) 0 :: nth (ifElse nineIf) 1 :: [nth (ifElse nineIf) 2]) _) _) _ _ _
  refine wpAny_If (wpAny_isTrue_Compare1 (ll F hfi (List_ (args_nil (wpAny_newList (ke_ne_ints (xs := fvs) (ys := []) (ns := []) (ms := []) (PL.isList (PL.at hF fun o e => Heap.get?_push_of_some _ e)) ⟨_, Heap.get?_push_size _ rfl, rfl, 0, rfl⟩ hFi .nil hu (wpAny_truthy_bool ?_)) (by decide))))))
  rw [if_neg (by simp)]
  have g₁ : Gro s { s with heap := s.heap.push { cls := .type "list", data := .seq ([] : List Value).toArray } } := Gro.push
  have D₁ := D.gro g₁
  have hA₁ := PL.at hA fun o e => g₁.kp Ah o e
  generalize { s with heap := s.heap.push { cls := .type "list", data := .seq ([] : List Value).toArray } } = s₁ at D₁ g₁ hA₁
  refine wpAny_execs_cons ?_
  show wpAny _ _ (exec (.Assign [.Name "due" _] (.Call (.Name "_law_over" _) [.Name "kind" _, .Name "thing" _, .Name "ahead" _, .Name "beyond" _] [] _) _) _) _ _ _
  refine Mid.asg D₁ (callByName (i := 13) D₁.lf.b.g (D₁.lf.b.fns (13, 84, 83) (by decide)) rfl (args_cons (lc D₁.lf hk (args_cons (lc D₁.lf hth (args_cons (ll D₁.lf hah (args_cons (ll D₁.lf hb (args_nil ⟨fun o q => q, ?_⟩))))))))))
  refine fn_over D₁.lf.b hd hA₁ hAi fun s₂ u g₂ hov => ⟨m, cm, D₁.gro g₂, fun s₃ D₃ k₃ => ?_⟩
  have k03 : KB (LC L) s.heap s₃.heap := fun b o hb e => k₃ b o hb (g₂.kp b o (g₁.kp b o e))
  have hdue : (fun y => if y = ("due" : Str) then some u else m y) "due" = some u := if_pos rfl
  have hsame : ∀ y : Str, y ≠ "due" → (fun y => if y = ("due" : Str) then some u else m y) y = m y := fun y hy => if_neg hy
  generalize (fun y => if y = ("due" : Str) then some u else m y) = m₃ at D₃ hdue hsame
  have hG₃ : s₃.heap.IsGen a g := by
    have hoff := F.typ.gen _ _ hG
    obtain ⟨o, nm, qn, ho, r⟩ := hG
    exact ⟨o, nm, qn, k03 _ _ hoff ho, r⟩
  have hfin₃ : s₃.gens[g]? = some .finished := by rw [D₃.eq]; exact hfin
  refine wpAny_execs_cons ?_
  show wpAny _ _ (exec (.If (.Compare (.Call (.Name "next" _) [.Name "walk" _, .Constant .none _ _] [] _) [.IsNot] [.Constant .none _ _] _) [.Return (some (.Constant (.bool false) _ _)) _] [] _) _) _ _ _
  refine wpAny_If (wpAny_isTrue_Compare1 (Call_ (ldB (v := .builtin "next") (env := lawEnv L) D₃.lf.b PyProof.Rows.boot_next (PyProof.Rows.callWith_builtin1 (args_cons (ll D₃.lf ((hsame _ (by decide)).trans hw) (args_cons (wpAny_Constant_none (args_nil (next_dflt hG₃ (next_over (A := A.in1) hh hG₃ hfin₃ fun hp kp => ?_)))))))))))
  have g₃ : Gro s₃ { s₃ with heap := hp } := ⟨hp, s₃.toks, rfl, fun b o e => kp b o (by simp) e⟩
  have D₄ := D₃.gro g₃
  refine wpAny_Constant_none (wpAny_isNot_self rfl (wpAny_truthy_bool ?_))
  rw [if_neg (by decide)]
  refine wpAny_execs_nil (wpAny_execs_cons ?_)
  generalize { s₃ with heap := hp } = s₃' at D₄ g₃
  show wpAny _ _ (exec (.Assign [.Name "state" _] (.Tuple [.Call (.Name "_grouping_intervals" _) [.Name "row" _] [] _, .Constant (.int 0) _ _, .List [] _, .Constant (.int 0) _ _] _ _) _) _) _ _ _
  refine wpAny_Assign_Name (Tuple_ (args_cons (callByName (i := 2) D₄.lf.b.g (D₄.lf.b.fns (2, 21, 20) (by decide)) rfl (args_cons (ll D₄.lf ((hsame _ (by decide)).trans hr) (args_nil ⟨fun o q => q, fn_walk D₄.lf.b hd fun s₅ a₂ L₂ N => ?_⟩))))))
  have F₅ : Lf h₀ L mg mb s₅.heap m₃ cm := D₄.lf.keeps N.keep
  refine args_cons (wpAny_Constant_int (args_cons (List_ (args_nil (wpAny_newList (args_cons (wpAny_Constant_int (args_nil (wpAny_newTuple ?_)))) (by decide))))))
  have k04 : KB (LC L) s.heap s₃'.heap := fun b o hb e => g₃.kp b o (k03 b o hb e)
  have k05 : KB (LC L) s.heap s₅.heap := fun b o hb e => N.keep b o (k04 b o hb e)
  have D₅ := F₅.mid
  have D₆ := (D₅.push (tk := s₅.toks + 1) (o := { cls := .type "list", data := .seq ([] : List Value).toArray }))
  have D₇ := D₆.grow (tk := s₅.toks + 1 + 1) fun b o e => Heap.get?_push_of_some { cls := .type "tuple", data := .seq ([.ref a₂, .int 0 s₅.toks, .ref s₅.heap.objs.size, .int 0 (s₅.toks + 1)] : List Value).toArray } e
  refine D₇.st fun s₈ D₈ k₈ => ?_
  have dead : ∀ {b : Addr}, b ∉ LC L → s₃'.heap.get? b = none → s.heap.get? b = none := fun {b} hb hd => by
    cases e : s.heap.get? b with
    | none => rfl
    | some o => have := k04 b o hb e; rw [hd] at this; cases this
  have hL₂ : L₂ ∉ LC L := fun q => by
    obtain ⟨o, ho⟩ := D₄.lf.alive q
    rw [N.newL] at ho; cases ho
  have hkk : (s₅.heap.push { cls := .type "list", data := .seq ([] : List Value).toArray }).PlainList s₅.heap.objs.size ([] : List Value).toArray := ⟨0, Heap.get?_push_size _ rfl⟩
  have hkk₇ := PL.at hkk fun o e => Heap.get?_push_of_some { cls := .type "tuple", data := .seq ([.ref a₂, .int 0 s₅.toks, .ref s₅.heap.objs.size, .int 0 (s₅.toks + 1)] : List Value).toArray } e
  have hT : IsTup ((s₅.heap.push { cls := .type "list", data := .seq ([] : List Value).toArray }).push { cls := .type "tuple", data := .seq ([.ref a₂, .int 0 s₅.toks, .ref s₅.heap.objs.size, .int 0 (s₅.toks + 1)] : List Value).toArray }) (s₅.heap.push { cls := .type "list", data := .seq ([] : List Value).toArray }).objs.size #[.ref a₂, .int 0 s₅.toks, .ref s₅.heap.objs.size, .int 0 (s₅.toks + 1)] := ⟨_, Heap.get?_push_size _ rfl, rfl, 0, rfl⟩
  have hT₈ := D₇.lf.typ.tup k₈ hT
  have hkk₈ := k₈.list hkk₇ (D₇.list_off hkk₇)
  have gg : s₃'.gens = s.gens := by
    have := D₄.eq
    rw [this]
  refine wpAny_execs_nil (h s₅ s₈ _ u _ _ a₂ L₂ _ _ D₈.lf k05 (fun b o hb e => k₈ b o hb (Heap.get?_push_of_some _ (Heap.get?_push_of_some _ e))) (by rw [D₈.eq]) ?_ (by rw [D₈.eq]) ?_ N.ns (dead hL₂ N.newL) hL₂ ⟨_, F₅⟩ (fun y h1 h2 => (if_neg h2).trans (hsame y h1)) ((if_neg (by decide)).trans hdue) hov (if_pos rfl) hT₈ hkk₈ ?_)
  · rw [N.eq, D₄.eq]
  · rw [← gg]; exact N.gen
  · refine dead (fun q => ?_) ?_
    · obtain ⟨o, ho⟩ := F₅.alive q
      exact Nat.lt_irrefl _ (Heap.lt_size ho)
    · cases e : s₃'.heap.get? s₅.heap.objs.size with
      | none => rfl
      | some o => exact absurd (Heap.lt_size (N.keep _ _ e)) (Nat.lt_irrefl _)
end

/-- what an asking turn does to the record it asks -/
structure Res (T : Int → Tok → Prop) (h₀ : Heap) (L row : Addr) (mg mb : Str → Option Value) (xs : List Int) (d : SD) (s s' : Shared) (m' cm' : Str → Option Value) (d' : SD) : Prop where
  lf : Lf h₀ L mg mb s'.heap m' cm'
  keep : KB (LC L ++ d.W :: d.is) s.heap s'.heap
  eq : s' = { s with heap := s'.heap, toks := s'.toks, gens := s'.gens }
  gens : ∀ g', g' ≠ d.g → g' < s.gens.size → s'.gens[g']? = s.gens[g']?
  bare : AllBare s.gens → AllBare s'.gens
  slot : Sl T h₀ L row xs s' d'
  new : ∀ b ∈ d'.W :: d'.is, b ∈ d.W :: d.is ∨ s.heap.get? b = none
  gnew : d'.g = d.g ∨ d'.g = s.gens.size

section
variable {prog : Program} {w : World} {A : Around} {s s' s₀ : Shared} {mg mb : Str → Option Value} {E : Value → Shared → Prop} {h₀ h h' : Heap} {L row : Addr} {m cm : Str → Option Value} {T : Int → Tok → Prop}

theorem bare_set {gs : Array GenState} {g : Nat} {x : GenState} (h : AllBare gs) (hb : x.bare = true) : AllBare (gs.setIfInBounds g x) := fun y hy => by
  rcases Array.mem_or_eq_of_mem_setIfInBounds hy with q | q
  · exact h y q
  · rw [q]; exact hb
theorem bare_push {gs : Array GenState} {x : GenState} (h : AllBare gs) (hb : x.bare = true) : AllBare (gs.push x) := fun y hy => by
  rcases Array.mem_push.mp hy with q | q
  · exact h y q
  · rw [q]; exact hb

theorem Res.mid {xs : List Int} {d d' : SD} {s₁ : Shared} {m₁ cm₁ : Str → Option Value} (R : Res T h₀ L row mg mb xs d s s₁ m cm d') {rvs : Array Value} (hrl : s₁.heap.PlainList row rvs) (D : Mid h₀ L mg mb s₁ s' m₁ cm₁) : Res T h₀ L row mg mb xs d s s' m₁ cm₁ d' := by
  refine ⟨D.lf, fun b o hb e => D.kp b o (fun q => hb (List.mem_append_left _ q)) (R.keep b o hb e), ?_, ?_, ?_, ?_, R.new, R.gnew⟩
  · rw [D.eq, R.eq]
  · rw [D.eq]; exact R.gens
  · rw [D.eq]; exact R.bare
  · refine R.slot.kbx (X := LC L) (D.kp.mono fun x q => .tail _ q) R.lf.typ hrl R.slot.wv.off (by rw [D.eq]) ?_
    obtain ⟨vs, ⟨o, ho, r⟩, hi⟩ := R.slot.wv.wk.row
    refine ⟨vs, ⟨o, D.kp _ _ (fun q => ?_) ho, r⟩, hi⟩
    obtain ⟨n, hr⟩ := hrl
    exact R.lf.typ.seq _ _ _ _ hr rfl q

/-- the turn's last two statements -/
theorem turn_end {x : Int} {t : Tok} {sts t0 t1 : Addr} {xs : List Int} {d d' : SD} {v u : Value} {rvs : Array Value} {s₁ : Shared} {Q : Flow → Shared → Prop} (R : Res T h₀ L row mg mb xs d s s₁ m cm d') (hrl : s₁.heap.PlainList row rvs)
    (hv : m "told" = some v) (hu : m "due" = some u) (S : Same2 v u) (hx : m "x" = some (.int x t)) (hs : m "states" = some (.ref sts)) (hl : s₁.heap.PlainList sts [Value.ref t0, .ref t1].toArray) (hn : m "state" = some (.ref d'.tup))
    (h : ∀ s' sts', Res T h₀ L row mg mb xs d s s' (upd "states" (.ref sts') m) cm d' → s'.heap.PlainList sts' (if x.fmod 2 = 0 then [Value.ref d'.tup, .ref t1] else [Value.ref t0, .ref d'.tup]).toArray → sts' ≠ row → Q .next s') :
    wpAny (model prog w) A (execs [nth turn 10, nth turn 11] (lawEnv L)) Q E s₁ := by
  refine wpAny_execs_cons (st_cmp R.lf S hv hu fun tk => ?_)
  have D := (R.lf.mid (s := s₁)).toks (tk := tk)
  refine wpAny_execs_cons (st_states D hx hs hn hl fun s' sts' D' k' hL' hdead => wpAny_execs_nil (h s' sts' (R.mid hrl D') hL' fun q => ?_))
  obtain ⟨n, hr⟩ := hrl
  rw [q, hr] at hdead; cases hdead

theorem aheadB_pos {xs known : List Int} {p : Nat} {again : Int} (hx : ∀ n ∈ xs, 0 ≤ n) : ∀ n ∈ aheadB xs known p again, 0 < n := fun n hn => by
  unfold aheadB at hn
  split at hn
  · cases hn
  · exact aheadOf_pos (fun n hn => hx n (List.mem_of_mem_drop hn)) n hn

theorem slot_after {place i : Nat} {ahead : List Int} {beyond : Int} (hp : ∀ n ∈ ahead, 0 < n) (hi : i < (lineOf ahead beyond).length) :
    SlotOk (afterJ place ahead (lineOf ahead beyond) beyond i) (if i < ahead.length then place + i + 1 else place) (if i < ahead.length then [(lineOf ahead beyond).getD i 0] else []) (if i < ahead.length then 0 else beyond) := by
  unfold afterJ
  by_cases hc : i < ahead.length
  · rw [if_pos hc, if_pos hc, if_pos hc, if_pos hc]
    refine .inr ⟨rfl, rfl, .inr ⟨_, rfl, ?_⟩⟩
    have : (lineOf ahead beyond).getD i 0 = ahead[i] := by
      unfold lineOf
      split
      · rw [List.getD_eq_getElem?_getD, List.getElem?_append_left hc, List.getElem?_eq_getElem hc]; rfl
      · rw [List.getD_eq_getElem?_getD, List.getElem?_eq_getElem hc]; rfl
    rw [this]
    exact hp _ (List.getElem_mem _)
  · rw [if_neg hc, if_neg hc, if_neg hc, if_neg hc]
    refine .inl ⟨?_, rfl⟩
    by_cases hb : beyond > 0
    · exact hb
    · unfold lineOf at hi; rw [if_neg hb] at hi; exact absurd hi hc

/-- an asking turn, where a size fits -/
theorem turn_fit {x kind thing : Int} {t tt tp : Tok} {sts t0 t1 : Addr} {xs as : List Int} {a0 : Int} {d : SD} {rvs : List Value} {m₀ cm₀ : Str → Option Value} {s₁ : Shared} {Q : Flow → Shared → Prop} (K : TOk T) (hT : T thing tt) (F₀ : Lf h₀ L mg mb s.heap m₀ cm₀)
    (hh : A.handled = none) (hfr : A.frames = some [lawEnv L]) (hd : A.depth + 2 < recursionLimit) (hu : A.units + 80 < cLine) (hz : xs.length ≤ 800) (hx : ∀ n ∈ xs, 0 ≤ n)
    (S : Sl T h₀ L row xs s d) (hrl : s.heap.PlainList row rvs.toArray) (hk0 : 0 ≤ kind)
    (P : Pre h₀ L mg mb s s₁ m₀ cm₀ m cm (.ref d.a) (.int (d.place : Int) tp) (aheadB xs d.known d.place d.again) (beyondB xs d.known d.place d.again)
        (kind2 kind (fitOf kind thing (lineOf (aheadB xs d.known d.place d.again) (beyondB xs d.known d.place d.again))) (beyondB xs d.known d.place d.again))
        (fit2 (fitOf kind thing (lineOf (aheadB xs d.known d.place d.again) (beyondB xs d.known d.place d.again))) (beyondB xs d.known d.place d.again)))
    (hfit : fit2 (fitOf kind thing (lineOf (aheadB xs d.known d.place d.again) (beyondB xs d.known d.place d.again))) (beyondB xs d.known d.place d.again) = a0 :: as)
    (hth : cm₀ "thing" = some (.int thing tt)) (hxm : m₀ "x" = some (.int x t)) (hs : m₀ "states" = some (.ref sts)) (hl : s.heap.PlainList sts [Value.ref t0, .ref t1].toArray)
    (h : ∀ s' m' cm' d' sts', Res T h₀ L row mg mb xs d s s' m' cm' d' → (∀ y ∈ stable, y ≠ "states" → m' y = m₀ y) → m' "states" = some (.ref sts') → s'.heap.PlainList sts' (if x.fmod 2 = 0 then [Value.ref d'.tup, .ref t1] else [Value.ref t0, .ref d'.tup]).toArray → sts' ≠ row → Q .next s') :
    wpAny (model prog w) A (execs [nth turn 8, nth turn 9, nth turn 10, nth turn 11] (lawEnv L)) Q E s₁ := by
  obtain ⟨i, rfl, hF⟩ := fit_some hk0 hfit
  have F₁ := P.mid.lf
  have hrow_off : row ∉ LC L := F₀.mid.list_off hrl
  have hgens₁ : s₁.gens = s.gens := by rw [P.mid.eq]
  have V₁ : Wv T h₀ L s₁ d.a d.g d.W row d.is xs d.st := S.wv.kb P.mid.kp (F₀.typ.gen _ _ S.wv.wk.obj) hrow_off S.wv.off (by rw [hgens₁])
  have hpos := aheadB_pos (known := d.known) (p := d.place) (again := d.again) hx
  have la := aheadB_len xs d.known d.place d.again
  have lnl := lineOf_len (aheadB xs d.known d.place d.again) (beyondB xs d.known d.place d.again)
  have hslot := slot_after (place := d.place) hpos hF.lt
  have ask := fun (tk : Tok) (Q' : Value → Shared → Prop) hq => ask_fit (prog := prog) (w := w) (A := A) (E := E) (tk := tk) (Q := Q') K hT F₁ V₁ hh hfr hd (by omega) S.ok hx hF hq
  obtain ⟨fi, fvs, hfi, hfl, hfI⟩ := P.ft
  obtain ⟨Ln, lvs, hln, hll, hlI⟩ := P.lin
  obtain ⟨Ah, avs, hah, hal, haI⟩ := P.ah
  obtain ⟨tb, hby⟩ := P.bey
  rw [hfit] at hfI
  generalize hK2 : kind2 kind (fitOf kind thing (lineOf (aheadB xs d.known d.place d.again) (beyondB xs d.known d.place d.again))) (beyondB xs d.known d.place d.again) = k at *
  generalize hlin : lineOf (aheadB xs d.known d.place d.again) (beyondB xs d.known d.place d.again) = line at *
  generalize afterJ d.place (aheadB xs d.known d.place d.again) line (beyondB xs d.known d.place d.again) i = st' at *
  generalize aheadB xs d.known d.place d.again = ahead at *
  generalize beyondB xs d.known d.place d.again = beyond at *
  refine wpAny_execs_cons (st_told (W := d.W) (g := d.g) (is := d.is) (R := fun s' v => ∃ is', FitIs k line i v ∧ Wv T h₀ L s' d.a d.g d.W row is' xs st' ∧ Ch d.g d.W d.is s₁ s' is') P hth (fun tk => ask tk _ fun s' is' v hf V' ch => ⟨⟨F₁.ofCh V₁ ch, ch.keep.mono fun x q => .tail _ q, ?_⟩, is', hf, V', ch⟩) fun s₂ s₈ v hR aft k₂₈ hg₂₈ F₂ => ?_)
  · obtain ⟨gs, hb, e⟩ := ch.eq
    exact ⟨gs, hb, e⟩
  obtain ⟨is', hfv, V₂, ch⟩ := hR
  have F₈ := aft.lf
  have V₈ : Wv T h₀ L s₈ d.a d.g d.W row is' xs st' := V₂.kb k₂₈ (F₂.typ.gen _ _ V₂.wk.obj) hrow_off V₂.off (by rw [hg₂₈])
  have ty₁ : Typ (LC L ++ d.W :: d.is) s₁.heap := F₁.typ.app V₁.typ
  have hfl₈ := ty₁.list aft.keep hfl
  have hll₈ := ty₁.list aft.keep hll
  have hal₈ := ty₁.list aft.keep hal
  refine wpAny_execs_cons (nine_fit F₈ (by omega) ((if_neg (by decide)).trans hfi) hfl₈ hfI hln hll₈ hlI hF.lt ((if_neg (by decide)).trans hah) hal₈ haI (by omega) (by omega) ((if_neg (by decide)).trans hby) (P.kd.choose_spec) hF.lo hF.le ((if_neg (by decide)).trans P.walk) ((if_neg (by decide)).trans P.place) fun s₉ m₉ u tn kk kvs tp' ta' D₉ hm₉ hdue hfu hst hT₉ hkk hki hdead => ?_)
  have hst9 : ∀ y ∈ stable, y ≠ ("told" : Str) ∧ y ≠ ("spot" : Str) ∧ y ≠ ("due" : Str) ∧ y ≠ ("state" : Str) := by decide
  have hsame : ∀ y ∈ stable, m₉ y = m₀ y := fun y hy => by
    obtain ⟨h1, h2, h3, h4⟩ := hst9 y hy
    exact (hm₉ y h2 h3 h4).trans ((if_neg h1).trans (P.same y hy))
  have V₉ : Wv T h₀ L s₉ d.a d.g d.W row is' xs st' := V₈.kb D₉.kp (F₈.typ.gen _ _ V₈.wk.obj) hrow_off V₈.off (by rw [D₉.eq])
  have ty₀ : Typ (LC L) s.heap := F₀.typ
  have hrl₁ := ty₀.list P.mid.kp hrl
  have hrl₈ := ty₁.list aft.keep hrl₁
  have hrl₉ := F₈.typ.list D₉.kp hrl₈
  have hl₁ := ty₀.list P.mid.kp hl
  have hl₈ := ty₁.list aft.keep hl₁
  have hl₉ := F₈.typ.list D₉.kp hl₈
  have k19 : KB (LC L ++ d.W :: d.is) s₁.heap s₉.heap := fun b o hb e => D₉.kp b o (fun q => hb (List.mem_append_left _ q)) (aft.keep b o hb e)
  obtain ⟨gs, hgb, hge⟩ := aft.eq
  have hgens : s₉.gens = s.gens.setIfInBounds d.g gs := by rw [D₉.eq]; show s₈.gens = _; rw [hge]; show s₁.gens.setIfInBounds d.g gs = _; rw [hgens₁]
  have hkr : kk ≠ row := fun q => by
    obtain ⟨n, hr⟩ := hrl₈
    rw [q, hr] at hdead; cases hdead
  have R : Res T h₀ L row mg mb xs d s s₉ m₉ cm ⟨tn, d.a, d.g, d.W, is', st', if i < ahead.length then d.place + i + 1 else d.place, if i < ahead.length then [line.getD i 0] else [], if i < ahead.length then 0 else beyond⟩ := by
    refine ⟨D₉.lf, fun b o hb e => k19 b o hb (P.mid.kp b o (fun q => hb (List.mem_append_left _ q)) e), ?_, fun g' hg' _ => ?_, fun hb => ?_, ⟨⟨tp', ta', kk, kvs, hT₉, hkr, hkk, hki⟩, V₉, hslot, ?_⟩, fun b hb => ?_, .inl rfl⟩
    · rw [D₉.eq, hge, P.mid.eq]
    · rw [hgens]; simp [Ne.symm hg']
    · rw [hgens]; exact bare_set hb hgb
    · show (if i < ahead.length then [line.getD i 0] else []).length ≤ 1
      split <;> simp
    · rcases List.mem_cons.mp hb with q | q
      · exact .inl (by rw [q]; exact .head _)
      · rcases (ch.new b q).2 with z | z
        · exact .inl (.tail _ z)
        · right
          cases e : s.heap.get? b with
          | none => rfl
          | some o =>
            by_cases hbL : b ∈ LC L
            · obtain ⟨o', ho'⟩ := F₁.alive hbL
              rw [z] at ho'; cases ho'
            · have := P.mid.kp b o hbL e
              rw [z] at this; cases this
  refine turn_end (t0 := t0) (t1 := t1) R hrl₉ ((hm₉ _ (by decide) (by decide) (by decide)).trans (if_pos rfl)) hdue (hfv.same hfu) ((hsame _ (by decide)).trans hxm) ((hsame _ (by decide)).trans hs) hl₉ hst fun s' sts' R' hL' hne => ?_
  exact h s' _ _ _ sts' R' (fun y hy hne' => (if_neg hne').trans (hsame y hy)) (if_pos rfl) hL' hne
end

section
variable {prog : Program} {w : World} {A : Around} {s s' s₀ : Shared} {mg mb : Str → Option Value} {E : Value → Shared → Prop} {h₀ h h' : Heap} {L row : Addr} {m cm : Str → Option Value} {T : Int → Tok → Prop}

/-- an asking turn, where the walk comes to its end -/
theorem turn_over {x kind thing : Int} {t tt tp : Tok} {sts t0 t1 : Addr} {xs : List Int} {d : SD} {rvs : List Value} {m₀ cm₀ : Str → Option Value} {s₁ : Shared} {Q : Flow → Shared → Prop} (K : TOk T) (hT : T thing tt) (F₀ : Lf h₀ L mg mb s.heap m₀ cm₀)
    (hh : A.handled = none) (hfr : A.frames = some [lawEnv L]) (hd : A.depth + 2 < recursionLimit) (hu : A.units + 80 < cLine) (hx : ∀ n ∈ xs, 0 ≤ n)
    (S : Sl T h₀ L row xs s d) (hrl : s.heap.PlainList row rvs.toArray) (hri : IntsAre rvs xs) (hrT : ∀ n t, Value.int n t ∈ rvs → T n t) (hr0 : m₀ "row" = some (.ref row))
    (P : Pre h₀ L mg mb s s₁ m₀ cm₀ m cm (.ref d.a) (.int (d.place : Int) tp) (aheadB xs d.known d.place d.again) (beyondB xs d.known d.place d.again)
        (kind2 kind (fitOf kind thing (lineOf (aheadB xs d.known d.place d.again) (beyondB xs d.known d.place d.again))) (beyondB xs d.known d.place d.again))
        (fit2 (fitOf kind thing (lineOf (aheadB xs d.known d.place d.again) (beyondB xs d.known d.place d.again))) (beyondB xs d.known d.place d.again)))
    (hfit : fit2 (fitOf kind thing (lineOf (aheadB xs d.known d.place d.again) (beyondB xs d.known d.place d.again))) (beyondB xs d.known d.place d.again) = [])
    (hth : cm₀ "thing" = some (.int thing tt)) (hxm : m₀ "x" = some (.int x t)) (hs : m₀ "states" = some (.ref sts)) (hl : s.heap.PlainList sts [Value.ref t0, .ref t1].toArray)
    (h : ∀ s' m' cm' d' sts', Res T h₀ L row mg mb xs d s s' m' cm' d' → (∀ y ∈ stable, y ≠ "states" → m' y = m₀ y) → m' "states" = some (.ref sts') → s'.heap.PlainList sts' (if x.fmod 2 = 0 then [Value.ref d'.tup, .ref t1] else [Value.ref t0, .ref d'.tup]).toArray → sts' ≠ row → Q .next s') :
    wpAny (model prog w) A (execs [nth turn 8, nth turn 9, nth turn 10, nth turn 11] (lawEnv L)) Q E s₁ := by
  obtain ⟨hK2, hb0, hlin, h1, h2⟩ := fit_none hfit
  have F₁ := P.mid.lf
  have hrow_off : row ∉ LC L := F₀.mid.list_off hrl
  have hgens₁ : s₁.gens = s.gens := by rw [P.mid.eq]
  have V₁ : Wv T h₀ L s₁ d.a d.g d.W row d.is xs d.st := S.wv.kb P.mid.kp (F₀.typ.gen _ _ S.wv.wk.obj) hrow_off S.wv.off (by rw [hgens₁])
  have ask := fun (tk : Tok) (Q' : Value → Shared → Prop) hq => ask_over (prog := prog) (w := w) (A := A) (E := E) (k := kind) (tk := tk) (Q := Q') K hT F₁ V₁ hh hfr hd (by omega) S.ok hx hb0 h1 h2 hq
  obtain ⟨fi, fvs, hfi, hfl, hfI⟩ := P.ft
  obtain ⟨Ah, avs, hah, hal, haI⟩ := P.ah
  obtain ⟨tb, hby⟩ := P.bey
  rw [hfit] at hfI
  rw [hK2] at P
  generalize aheadB xs d.known d.place d.again = ahead at *
  generalize beyondB xs d.known d.place d.again = beyond at *
  refine wpAny_execs_cons (st_told (W := d.W) (g := d.g) (is := d.is) (R := fun s' v => OverIs kind thing ahead beyond v ∧ Ov L d.g d.W d.is s₁ s') P hth (fun tk => ask tk _ fun s' v hov o => ⟨⟨F₁.ofOv V₁ o, o.keep, .finished, rfl, o.eq⟩, hov, o⟩) fun s₂ s₈ v hR aft k₂₈ hg₂₈ F₂ => ?_)
  obtain ⟨hov, o⟩ := hR
  have F₈ := aft.lf
  have ty₁ : Typ (LC L ++ d.W :: d.is) s₁.heap := F₁.typ.app V₁.typ
  have hfl₈ := ty₁.list aft.keep hfl
  have hal₈ := ty₁.list aft.keep hal
  have ty₀ : Typ (LC L) s.heap := F₀.typ
  have hrl₁ := ty₀.list P.mid.kp hrl
  have hrl₈ := ty₁.list aft.keep hrl₁
  have hG₈ : s₈.heap.IsGen d.a d.g := by
    have hoff := ty₁.gen _ _ V₁.wk.obj
    obtain ⟨oa, nm, qn, ho, r⟩ := V₁.wk.obj
    exact ⟨oa, nm, qn, aft.keep _ _ hoff ho, r⟩
  have hst9 : ∀ y ∈ stable, y ≠ ("told" : Str) ∧ y ≠ ("due" : Str) ∧ y ≠ ("state" : Str) := by decide
  refine wpAny_execs_cons (nine_over (row := row) F₈ hh (by omega) (by omega) ((if_neg (by decide)).trans hfi) hfl₈ hfI ((if_neg (by decide)).trans hah) hal₈ haI ((if_neg (by decide)).trans hby) (P.kd.choose_spec) (P.thing.trans hth) ((if_neg (by decide)).trans P.walk) ((if_neg (by decide)).trans ((P.same "row" (by decide)).trans hr0))
    hG₈ (by rw [hg₂₈]; exact o.fin) fun sA s₉ m₉ u tn kk a₂ L₂ tp' ta' F₉ k8A kA9 hgA heA he9 hGA hnA hLd hLoff hFA hm₉ hdue hov' hst hT₉ hkk hkd => ?_)
  have hsame : ∀ y ∈ stable, m₉ y = m₀ y := fun y hy => by
    obtain ⟨h1, h2, h3⟩ := hst9 y hy
    exact (hm₉ y h2 h3).trans ((if_neg h1).trans (P.same y hy))
  obtain ⟨mx, FA⟩ := hFA
  have hrlA := F₈.typ.list k8A hrl₈
  have hrl₉ := FA.typ.list kA9 hrlA
  have hgens₈ : s₈.gens = s.gens.setIfInBounds d.g .finished := by rw [hg₂₈, o.eq]; show s₁.gens.setIfInBounds d.g .finished = _; rw [hgens₁]
  have hsz₈ : s₈.gens.size = s.gens.size := by rw [hgens₈]; simp
  have hgensA : sA.gens = (s.gens.setIfInBounds d.g .finished).push (.fresh (.func giBody (giEnv L₂))) := by rw [heA]; show s₈.gens.push _ = _; rw [hgens₈]
  have nV : Wv T h₀ L sA a₂ s₈.gens.size L₂ row [] xs (.at 0 none) := by
    refine ⟨⟨hGA, ⟨_, ?_, rfl, rfl, rfl, hnA⟩, fun b hb => ?_, ⟨rvs, PL.isList hrlA, hri, hrT⟩⟩, nofun, ⟨.fresh (.func giBody (giEnv L₂)), ?_, rfl⟩, fun b hb => ?_, fun b hb => ?_⟩
    · rw [hgensA, hsz₈, show s.gens.size = (s.gens.setIfInBounds d.g .finished).size by simp]; exact Array.getElem?_push_size
    · rw [List.mem_singleton.mp hb]
      refine ⟨fun q => ?_, fun q => ?_⟩
      · obtain ⟨ob, ho⟩ := F₈.b.alive _ q
        rw [hLd] at ho; cases ho
      · obtain ⟨n, hr⟩ := hrl₈
        rw [← q, hLd] at hr; cases hr
    · rw [hgensA, hsz₈, show s.gens.size = (s.gens.setIfInBounds d.g .finished).size by simp]; exact Array.getElem?_push_size
    · rw [List.mem_singleton.mp hb]
      exact F₈.mid.dead hLd
    · rw [List.mem_singleton.mp hb]; exact hLoff
  have V₉ : Wv T h₀ L s₉ a₂ s₈.gens.size L₂ row [] xs (.at 0 none) := nV.kb kA9 (FA.typ.gen _ _ nV.wk.obj) hrow_off nV.off (by rw [hgA])
  have hl₁ := ty₀.list P.mid.kp hl
  have hl₈ := ty₁.list aft.keep hl₁
  have hl₉ := FA.typ.list kA9 (F₈.typ.list k8A hl₈)
  have hkr : kk ≠ row := fun q => by
    obtain ⟨n, hr⟩ := hrl₈
    rw [q, hr] at hkd; cases hkd
  have R : Res T h₀ L row mg mb xs d s s₉ m₉ cm ⟨tn, a₂, s₈.gens.size, L₂, [], .at 0 none, 0, [], 0⟩ := by
    refine ⟨F₉, fun b ob hb e => ?_, ?_, fun g' hg' hlt => ?_, fun hb => ?_, ⟨⟨tp', ta', kk, [], hT₉, hkr, hkk, .nil⟩, V₉, .inr ⟨rfl, rfl, .inl rfl⟩, by simp⟩, fun b hb => ?_, .inr hsz₈⟩
    · have hbL : b ∉ LC L := fun q => hb (List.mem_append_left _ q)
      exact kA9 b ob hbL (k8A b ob hbL (aft.keep b ob hb (P.mid.kp b ob hbL e)))
    · obtain ⟨gs, _, hge⟩ := aft.eq
      rw [he9, heA, hge, P.mid.eq]
    · rw [hgA, hgensA, Array.getElem?_push, if_neg (by simp; omega)]; simp [Ne.symm hg']
    · rw [hgA, hgensA]; exact bare_push (bare_set hb rfl) rfl
    · have hb' : b = L₂ := List.mem_singleton.mp hb
      rw [hb']
      by_cases hw : L₂ ∈ d.W :: d.is
      · exact .inl hw
      · right
        cases e : s.heap.get? L₂ with
        | none => rfl
        | some ob =>
          have := aft.keep _ ob (fun q => (List.mem_append.mp q).elim hLoff hw) (P.mid.kp _ ob hLoff e)
          rw [hLd] at this; cases this
  refine turn_end (t0 := t0) (t1 := t1) R hrl₉ ((hm₉ _ (by decide) (by decide)).trans (if_pos rfl)) hdue (hov.same hov') ((hsame _ (by decide)).trans hxm) ((hsame _ (by decide)).trans hs) hl₉ hst fun s' sts' R' hL' hne => ?_
  exact h s' _ _ _ sts' R' (fun y hy hne' => (if_neg hne').trans (hsame y hy)) (if_pos rfl) hL' hne
end

/-- what holds between the turns: the names, the row, the plain list, the two records -/
structure IV where
  m : Str → Option Value
  cm : Str → Option Value
  pl : Addr
  sts : Addr
  pvs : List Value
  rvs : List Value
  xs : List Int
  d0 : SD
  d1 : SD

def SD.foot (d : SD) : List Addr := d.W :: d.is
def IV.foot (v : IV) : List Addr := v.d0.foot ++ v.d1.foot

structure Inv (T : Int → Tok → Prop) (mg mb : Str → Option Value) (h₀ : Heap) (L row ths : Addr) (tvs : List Value) (z : Nat) (s : Shared) (v : IV) : Prop where
  lf : Lf h₀ L mg mb s.heap v.m v.cm
  nths : v.m "things" = some (.ref ths)
  nrow : v.m "row" = some (.ref row)
  npl : v.m "plain" = some (.ref v.pl)
  nsts : v.m "states" = some (.ref v.sts)
  ths : IsTup s.heap ths tvs.toArray
  rl : s.heap.PlainList row v.rvs.toArray
  ri : IntsAre v.rvs v.xs
  rT : ∀ n t, Value.int n t ∈ v.rvs → T n t
  plr : v.pl ≠ row
  pl : s.heap.PlainList v.pl v.pvs.toArray
  pi : IntsAre v.pvs v.xs
  nn : ∀ n ∈ v.xs, 0 ≤ n
  len : v.xs.length ≤ z
  stsr : v.sts ≠ row
  sl : s.heap.PlainList v.sts [Value.ref v.d0.tup, .ref v.d1.tup].toArray
  s0 : Sl T h₀ L row v.xs s v.d0
  s1 : Sl T h₀ L row v.xs s v.d1
  gne : v.d0.g ≠ v.d1.g
  dis : ∀ b ∈ v.d0.foot, b ∉ v.d1.foot
  bare : AllBare s.gens

structure Chg (L row : Addr) (s : Shared) (v : IV) (s' : Shared) (v' : IV) : Prop where
  keep : KB (row :: (LC L ++ v.foot)) s.heap s'.heap
  new : ∀ b ∈ v'.foot, b ∈ v.foot ∨ s.heap.get? b = none
  eq : s' = { s with heap := s'.heap, toks := s'.toks, gens := s'.gens }

section
variable {prog : Program} {w : World} {A : Around} {s s' s₀ : Shared} {mg mb : Str → Option Value} {E : Value → Shared → Prop} {h₀ h h' : Heap} {L row ths : Addr} {tvs : List Value} {z : Nat} {v : IV} {m cm : Str → Option Value} {T : Int → Tok → Prop}

/-- only the law's names have changed -/
theorem Inv.names (I : Inv T mg mb h₀ L row ths tvs z s v) (D : Mid h₀ L mg mb s s' m cm) (hm : ∀ y ∈ stable, y ≠ "x" → m y = v.m y) : Inv T mg mb h₀ L row ths tvs z s' { v with m := m, cm := cm } := by
  have ty := I.lf.typ
  have hg : s'.gens = s.gens := by rw [D.eq]
  have hr := ty.list D.kp I.rl
  have hrow : ∃ vs : List Value, s'.heap.IsList row vs.toArray ∧ IntsAre vs v.xs ∧ ∀ n t, Value.int n t ∈ vs → T n t := ⟨v.rvs, PL.isList hr, I.ri, I.rT⟩
  exact ⟨D.lf, (hm _ (by decide) (by decide)).trans I.nths, (hm _ (by decide) (by decide)).trans I.nrow, (hm _ (by decide) (by decide)).trans I.npl, (hm _ (by decide) (by decide)).trans I.nsts, ty.tup D.kp I.ths, hr, I.ri, I.rT, I.plr, ty.list D.kp I.pl, I.pi, I.nn, I.len, I.stsr, ty.list D.kp I.sl,
    I.s0.kbx (D.kp.mono fun x q => .tail _ q) ty I.rl I.s0.wv.off (by rw [hg]) hrow, I.s1.kbx (D.kp.mono fun x q => .tail _ q) ty I.rl I.s1.wv.off (by rw [hg]) hrow, I.gne, I.dis, hg ▸ I.bare⟩

theorem Chg.names {v : IV} {s : Shared} (D : Mid h₀ L mg mb s s' m cm) : Chg L row s v s' { v with m := m, cm := cm } :=
  ⟨D.kp.mono fun x q => .tail _ (List.mem_append_left _ q), fun b hb => .inl hb, by rw [D.eq]⟩

theorem Sl.alive {xs : List Int} {d : SD} (S : Sl T h₀ L row xs s d) {b : Addr} (hb : b ∈ d.foot) : ∃ o, s.heap.get? b = some o := by
  obtain ⟨gs, _, hG⟩ := S.wv.wk.gs
  rcases List.mem_cons.mp hb with e | hb
  · obtain ⟨mW, oW, es, ep, hoW, _⟩ := hG.ns S.wv.live
    exact ⟨oW, e ▸ hoW⟩
  · obtain ⟨oi, vs, hoi, _⟩ := hG.fields S.wv.live b hb
    exact ⟨oi, hoi⟩

theorem Chg.trans {s₁ s₂ s₃ : Shared} {v₁ v₂ v₃ : IV} (a : Chg L row s₁ v₁ s₂ v₂) (b : Chg L row s₂ v₂ s₃ v₃) (hal : ∀ x ∈ row :: LC L, ∃ o, s₂.heap.get? x = some o) : Chg L row s₁ v₁ s₃ v₃ := by
  have back : ∀ x, x ∉ row :: (LC L ++ v₁.foot) → (∃ o, s₁.heap.get? x = some o) → x ∉ row :: (LC L ++ v₂.foot) := fun x hx ⟨o, ho⟩ q => by
    rcases List.mem_cons.mp q with q | q
    · exact hx (by rw [q]; exact .head _)
    · rcases List.mem_append.mp q with q | q
      · exact hx (.tail _ (List.mem_append_left _ q))
      · rcases a.new x q with z | z
        · exact hx (.tail _ (List.mem_append_right _ z))
        · rw [ho] at z; cases z
  refine ⟨fun x o hx ho => b.keep x o (back x hx ⟨o, ho⟩) (a.keep x o hx ho), fun x hx => ?_, by rw [b.eq, a.eq]⟩
  rcases b.new x hx with q | q
  · exact a.new x q
  · by_cases hf : x ∈ v₁.foot
    · exact .inl hf
    · right
      cases e : s₁.heap.get? x with
      | none => rfl
      | some o =>
        exfalso
        by_cases hX : x ∈ row :: (LC L ++ v₁.foot)
        · rcases List.mem_cons.mp hX with z | z
          · obtain ⟨o', ho'⟩ := hal x (by rw [z]; exact .head _)
            rw [q] at ho'; cases ho'
          · rcases List.mem_append.mp z with z | z
            · obtain ⟨o', ho'⟩ := hal x (.tail _ z)
              rw [q] at ho'; cases ho'
            · exact hf z
        · have := a.keep x o hX e
          rw [q] at this; cases this

theorem Inv.alive (I : Inv T mg mb h₀ L row ths tvs z s v) : ∀ x ∈ row :: LC L, ∃ o, s.heap.get? x = some o := fun x hx => by
  rcases List.mem_cons.mp hx with q | q
  · obtain ⟨n, hr⟩ := I.rl
    exact ⟨_, q ▸ hr⟩
  · exact I.lf.alive q
theorem Inv.footAlive (I : Inv T mg mb h₀ L row ths tvs z s v) : ∀ x ∈ v.foot, ∃ o, s.heap.get? x = some o := fun x hx => by
  rcases List.mem_append.mp hx with q | q
  · exact I.s0.alive q
  · exact I.s1.alive q

/-- the record that was not asked -/
theorem Res.other {xs : List Int} {d d' o : SD} {rvs : List Value} {m₀ cm₀ : Str → Option Value} (F : Lf h₀ L mg mb s.heap m₀ cm₀) (R : Res T h₀ L row mg mb xs d s s' m cm d') (S : Sl T h₀ L row xs s d) (O : Sl T h₀ L row xs s o) (hrl : s.heap.PlainList row rvs.toArray) (hri : IntsAre rvs xs) (hrT : ∀ n t, Value.int n t ∈ rvs → T n t)
    (hg : o.g ≠ d.g) (hdis : ∀ b ∈ o.foot, b ∉ d.foot) : Sl T h₀ L row xs s' o ∧ o.g ≠ d'.g ∧ (∀ b ∈ o.foot, b ∉ d'.foot) := by
  have ty : Typ (LC L ++ d.W :: d.is) s.heap := F.typ.app S.wv.typ
  obtain ⟨gs, hgs, _⟩ := O.wv.wk.gs
  have hlt : o.g < s.gens.size := (Array.getElem?_eq_some_iff.mp hgs).1
  refine ⟨O.kbx (R.keep.mono fun x q => .tail _ q) ty hrl (fun b hb q => ?_) (R.gens _ hg hlt) ⟨rvs, PL.isList (ty.list R.keep hrl), hri, hrT⟩, ?_, fun b hb q => ?_⟩
  · rcases List.mem_append.mp q with q | q
    · exact O.wv.off b hb q
    · exact hdis b hb q
  · rcases R.gnew with e | e
    · rw [e]; exact hg
    · rw [e]; omega
  · rcases R.new b q with z | z
    · exact hdis b hb z
    · obtain ⟨ob, ho⟩ := O.alive hb
      rw [z] at ho; cases ho

theorem turn_ok {x : Int} {t : Tok} {Q : Flow → Shared → Prop} (K : TOk T) (hthi : IntsAre tvs things) (hthT : ∀ n t, Value.int n t ∈ tvs → T n t) (hr0 : h₀.get? row = none) (hh : A.handled = none) (hfr : A.frames = some [lawEnv L]) (hd : A.depth + 2 < recursionLimit) (hu : A.units + 80 < cLine) (hz : z ≤ 700)
    (I : Inv T mg mb h₀ L row ths tvs z s v) (hx : v.m "x" = some (.int x t))
    (h : ∀ s' v' f, (f = .next ∨ f = .cont) → Inv T mg mb h₀ L row ths tvs (z + 1) s' v' → Chg L row s v s' v' → Q f s') :
    wpAny (model prog w) A (execs turn (lawEnv L)) Q E s := by
  have D := I.lf.mid (s := s)
  rw [show turn = nth turn 0 :: nth turn 1 :: nth turn 2 :: nth turn 3 :: nth turn 4 :: nth turn 5 :: nth turn 6 :: nth turn 7 :: [nth turn 8, nth turn 9, nth turn 10, nth turn 11] from rfl]
  refine wpAny_execs_cons (st_kind D hx fun s₁ u₁ D₁ k₁ => ?_)
  refine wpAny_execs_cons (st_thing (T := T) (ths := ths) (tvs := tvs) D₁ hx I.nths (I.lf.typ.tup D₁.kp I.ths) hthi hthT fun s₂ u₂ hT₂ D₂ k₂ => ?_)
  have hk : (fun y => if y = ("thing" : Str) then some (Value.int (thingOf x) u₂) else (fun y => if y = ("kind" : Str) then some (Value.int (kindOf x) u₁) else v.cm y) y) "kind" = some (.int (kindOf x) u₁) := (if_neg (by decide)).trans (if_pos rfl)
  have hth : (fun y => if y = ("thing" : Str) then some (Value.int (thingOf x) u₂) else (fun y => if y = ("kind" : Str) then some (Value.int (kindOf x) u₁) else v.cm y) y) "thing" = some (.int (thingOf x) u₂) := if_pos rfl
  have D₂' : Mid h₀ L mg mb s s₂ v.m (fun y => if y = ("thing" : Str) then some (Value.int (thingOf x) u₂) else (fun y => if y = ("kind" : Str) then some (Value.int (kindOf x) u₁) else v.cm y) y) := D₂
  generalize (fun y => if y = ("thing" : Str) then some (Value.int (thingOf x) u₂) else (fun y => if y = ("kind" : Str) then some (Value.int (kindOf x) u₁) else v.cm y) y) = cm₂ at D₂' hk hth
  clear D₂
  have I₂ := I.names D₂' fun y _ _ => rfl
  have C₂ : Chg L row s v s₂ { v with m := v.m, cm := cm₂ } := Chg.names D₂'
  have hk0 := kindOf_lo x
  have hthnn : 0 ≤ thingOf x := by
    unfold thingOf
    have : ∀ n ∈ things, 0 ≤ n := by decide
    cases e : things[((x.fdiv 16).fmod 6).toNat]? with
    | none => exact Int.le_refl _
    | some n => exact this n (List.mem_of_getElem? e)
  refine wpAny_execs_cons ?_
  show wpAny _ _ (exec (.If (.Compare (.Name "kind" _) [.Gt] [.Constant (.int 4) _ _] _) edBody [] _) _) _ _ _
  refine wpAny_If (wpAny_isTrue_Compare1 (lc I₂.lf hk (wpAny_Constant_int (gt_int (wpAny_truthy_bool ?_)))))
  have D₃ := (I₂.lf.mid (s := s₂)).toks (tk := s₂.toks + 1)
  have I₃ := I₂.names D₃ fun y _ _ => rfl
  have C₃ : Chg L row s v { s₂ with toks := s₂.toks + 1 } { v with m := v.m, cm := cm₂ } := C₂.trans (Chg.names D₃) I₂.alive
  clear D₃ C₂ I₂
  generalize { s₂ with toks := s₂.toks + 1 } = s₃ at I₃ C₃ ⊢
  by_cases hk4 : kindOf x > 4
  · rw [if_pos (by simpa using hk4)]
    refine st_edit (T := T) I₃.lf hh (by omega) (by omega) hx hk hth hT₂ I₃.npl I₃.nrow I₃.pl I₃.pi I₃.rl I₃.ri I₃.rT hr0 (by have := I₃.len; show v.xs.length ≤ 900; have : v.xs.length ≤ z := this; omega) fun s' xs' hmem hlen ed => ?_
    obtain ⟨m', pl', pvs', vs', F', hm', hpl', hne', hplv', hpi', hrv', hri', hrT'⟩ := ed.out
    have ty := I₃.lf.typ
    have ke : KB (row :: LC L) s₃.heap s'.heap := ed.keep
    have hg : s'.gens = s₃.gens := by rw [ed.eq]
    have hrow : ∃ vs : List Value, s'.heap.IsList row vs.toArray ∧ IntsAre vs xs' ∧ ∀ n t, Value.int n t ∈ vs → T n t := ⟨vs', PL.isList hrv', hri', hrT'⟩
    have two : ∀ {b : Addr}, b ≠ row → b ∉ LC L → b ∉ row :: LC L := fun h1 h2 q => (List.mem_cons.mp q).elim h1 h2
    have hths : IsTup s'.heap ths tvs.toArray := by
      have hne := plain_ne_tup I₃.rl I₃.ths
      obtain ⟨o, ho, hc, n, hd⟩ := I₃.ths
      exact ⟨o, ke _ _ (two hne (ty.seq _ _ _ _ ho hd)) ho, hc, n, hd⟩
    have hsl : s'.heap.PlainList v.sts [Value.ref v.d0.tup, .ref v.d1.tup].toArray := by
      obtain ⟨n, ho⟩ := I₃.sl
      exact ⟨n, ke _ _ (two I₃.stsr (ty.seq _ _ _ _ ho rfl)) ho⟩
    have I' : Inv T mg mb h₀ L row ths tvs (z + 1) s' ⟨m', cm₂, pl', v.sts, pvs', vs', xs', v.d0, v.d1⟩ :=
      ⟨F', (hm' _ (by decide) (by decide)).trans I₃.nths, (hm' _ (by decide) (by decide)).trans I₃.nrow, hpl', (hm' _ (by decide) (by decide)).trans I₃.nsts, hths, hrv', hri', hrT', hne', hplv', hpi', fun n hn => (hmem n hn).elim (I₃.nn n) (fun e => e ▸ hthnn), Nat.le_trans hlen (Nat.succ_le_succ I₃.len), I₃.stsr, hsl,
        I₃.s0.kbx ke ty I₃.rl I₃.s0.wv.off (by rw [hg]) hrow, I₃.s1.kbx ke ty I₃.rl I₃.s1.wv.off (by rw [hg]) hrow, I₃.gne, I₃.dis, hg ▸ I₃.bare⟩
    have C' : Chg L row s₃ { v with m := v.m, cm := cm₂ } s' ⟨m', cm₂, pl', v.sts, pvs', vs', xs', v.d0, v.d1⟩ :=
      ⟨ke.mono fun b q => (List.mem_cons.mp q).elim (fun e => by rw [e]; exact .head _) fun q => .tail _ (List.mem_append_left _ q), fun b hb => .inl hb, by rw [ed.eq]⟩
    exact h s' _ .cont (.inr rfl) I' (C₃.trans C' I₃.alive)
  rw [if_neg (by simpa using hk4)]
  refine wpAny_execs_nil ?_
  have hzl : v.xs.length ≤ 800 := by have : v.xs.length ≤ z := I₃.len; omega
  have lo : 0 ≤ x.fmod 2 := Int.fmod_nonneg_of_pos _ (by decide)
  have hi : x.fmod 2 < 2 := Int.fmod_lt_of_pos _ (by decide)
  -- the asking, of whichever record
  have main : ∀ (d : SD), Sl T h₀ L row v.xs s₃ d → d.tup = (if x.fmod 2 = 0 then v.d0.tup else v.d1.tup) →
      (∀ s' m' cm' d' sts', Res T h₀ L row mg mb v.xs d s₃ s' m' cm' d' → (∀ y ∈ stable, y ≠ "states" → m' y = v.m y) → m' "states" = some (.ref sts') → s'.heap.PlainList sts' (if x.fmod 2 = 0 then [Value.ref d'.tup, .ref v.d1.tup] else [Value.ref v.d0.tup, .ref d'.tup]).toArray → sts' ≠ row → Q .next s') →
      wpAny (model prog w) A (execs (nth turn 3 :: nth turn 4 :: nth turn 5 :: nth turn 6 :: nth turn 7 :: [nth turn 8, nth turn 9, nth turn 10, nth turn 11]) (lawEnv L)) Q E s₃ := by
    intro d S htup hq
    obtain ⟨tp, ta, kk, kvs, ht, hkr, hkl, hki⟩ := S.tup
    refine st_pre (I₃.lf.mid (s := s₃)) hh (by omega) hu (x := x) (t := t) hx I₃.nsts I₃.sl htup ht hk hth I₃.npl I₃.pl I₃.pi hkl hki (by omega) hzl (by have := S.kl; omega) fun s₄ m₄ cm₄ P => ?_
    cases hf : fit2 (fitOf (kindOf x) (thingOf x) (lineOf (aheadB v.xs d.known d.place d.again) (beyondB v.xs d.known d.place d.again))) (beyondB v.xs d.known d.place d.again) with
    | cons a0 as => exact turn_fit (row := row) (d := d) K hT₂ I₃.lf hh hfr hd hu hzl I₃.nn S I₃.rl hk0 P hf hth hx I₃.nsts I₃.sl hq
    | nil => exact turn_over (row := row) (d := d) K hT₂ I₃.lf hh hfr hd hu I₃.nn S I₃.rl I₃.ri I₃.rT I₃.nrow P hf hth hx I₃.nsts I₃.sl hq
  by_cases h0 : x.fmod 2 = 0
  · refine main v.d0 I₃.s0 (by rw [if_pos h0]) fun s' m' cm' d' sts' R hm' hst' hl' hne' => ?_
    rw [if_pos h0] at hl'
    obtain ⟨O, hg, hdis⟩ := R.other I₃.lf I₃.s0 I₃.s1 I₃.rl I₃.ri I₃.rT (Ne.symm I₃.gne) (fun b hb q => I₃.dis b q hb)
    have ty : Typ (LC L ++ v.d0.W :: v.d0.is) s₃.heap := I₃.lf.typ.app I₃.s0.wv.typ
    have I' : Inv T mg mb h₀ L row ths tvs (z + 1) s' ⟨m', cm', v.pl, sts', v.pvs, v.rvs, v.xs, d', v.d1⟩ :=
      ⟨R.lf, (hm' _ (by decide) (by decide)).trans I₃.nths, (hm' _ (by decide) (by decide)).trans I₃.nrow, (hm' _ (by decide) (by decide)).trans I₃.npl, hst', ty.tup R.keep I₃.ths, ty.list R.keep I₃.rl, I₃.ri, I₃.rT, I₃.plr, ty.list R.keep I₃.pl, I₃.pi, I₃.nn, Nat.le_succ_of_le I₃.len, hne', hl', R.slot, O, Ne.symm hg, fun b hb q => hdis b q hb, R.bare I₃.bare⟩
    refine h s' _ .next (.inl rfl) I' (C₃.trans ⟨R.keep.mono fun b q => ?_, fun b hb => ?_, R.eq⟩ I₃.alive)
    · rcases List.mem_append.mp q with q | q
      · exact .tail _ (List.mem_append_left _ q)
      · exact .tail _ (List.mem_append_right _ (List.mem_append_left _ q))
    · rcases List.mem_append.mp hb with q | q
      · exact (R.new b q).imp (fun z => List.mem_append_left _ z) id
      · exact .inl (List.mem_append_right _ q)
  · refine main v.d1 I₃.s1 (by rw [if_neg h0]) fun s' m' cm' d' sts' R hm' hst' hl' hne' => ?_
    rw [if_neg h0] at hl'
    obtain ⟨O, hg, hdis⟩ := R.other I₃.lf I₃.s1 I₃.s0 I₃.rl I₃.ri I₃.rT I₃.gne I₃.dis
    have ty : Typ (LC L ++ v.d1.W :: v.d1.is) s₃.heap := I₃.lf.typ.app I₃.s1.wv.typ
    have I' : Inv T mg mb h₀ L row ths tvs (z + 1) s' ⟨m', cm', v.pl, sts', v.pvs, v.rvs, v.xs, v.d0, d'⟩ :=
      ⟨R.lf, (hm' _ (by decide) (by decide)).trans I₃.nths, (hm' _ (by decide) (by decide)).trans I₃.nrow, (hm' _ (by decide) (by decide)).trans I₃.npl, hst', ty.tup R.keep I₃.ths, ty.list R.keep I₃.rl, I₃.ri, I₃.rT, I₃.plr, ty.list R.keep I₃.pl, I₃.pi, I₃.nn, Nat.le_succ_of_le I₃.len, hne', hl', O, R.slot, hg, hdis, R.bare I₃.bare⟩
    refine h s' _ .next (.inl rfl) I' (C₃.trans ⟨R.keep.mono fun b q => ?_, fun b hb => ?_, R.eq⟩ I₃.alive)
    · rcases List.mem_append.mp q with q | q
      · exact .tail _ (List.mem_append_left _ q)
      · exact .tail _ (List.mem_append_right _ (List.mem_append_right _ q))
    · rcases List.mem_append.mp hb with q | q
      · exact .inl (List.mem_append_left _ q)
      · exact (R.new b q).imp (fun z => List.mem_append_right _ z) id
end

/-- written ints, each with the next mark -/
def marked (t : Nat) : List Int → List Value
  | [] => []
  | n :: ns => .int n t :: marked (t + 1) ns
theorem marked_ints : ∀ (ns : List Int) (t : Nat), IntsAre (marked t ns) ns
  | [], _ => .nil
  | n :: ns, t => .cons n t (marked_ints ns (t + 1))
inductive CInts : List PySem.Expr → List Int → Prop
  | nil : CInts [] []
  | cons {n : Int} {k : Nat} {p : Pos} {es : List PySem.Expr} {ns : List Int} : CInts es ns → CInts (.Constant (.int n) k p :: es) (n :: ns)
theorem ev_cints {M : Model} {A : Around} {E : Value → Shared → Prop} {env : Env} {pos : Pos} {es : List PySem.Expr} {ns : List Int} (c : CInts es ns) : ∀ {s : Shared} {Q : List Value → Shared → Prop},
    Q (marked s.toks ns) { s with toks := s.toks + ns.length } → wpAny M A (spliced (backTo pos (starEach es env))) Q E s := by
  induction c with
  | nil => intro s Q h; exact args_nil h
  | cons c ih =>
    rename_i n k p es ns
    intro s Q h
    refine args_cons (wpAny_Constant_int (ih ?_))
    have e : s.toks + (n :: ns).length = s.toks + 1 + ns.length := by simp; omega
    rw [e] at h
    exact h

section
variable {prog : Program} {w : World} {A : Around} {s s' s₀ : Shared} {mg mb : Str → Option Value} {E : Value → Shared → Prop} {h₀ h h' : Heap} {L row ths : Addr} {tvs : List Value} {z : Nat} {v : IV} {m cm : Str → Option Value} {T : Int → Tok → Prop}

/-- something apart from all has changed -/
theorem Inv.touch {X : List Addr} {tk : Nat} (I : Inv T mg mb h₀ L row ths tvs z s v) (k : KB X s.heap h') (ty : Typ X s.heap) (hX : ∀ b ∈ X, b ∉ LC L ∧ h₀.get? b = none) (hf : ∀ b ∈ v.foot, b ∉ X) : Inv T mg mb h₀ L row ths tvs z { s with heap := h', toks := tk } v := by
  have hr := ty.list k I.rl
  have hrow : ∃ vs : List Value, h'.IsList row vs.toArray ∧ IntsAre vs v.xs ∧ ∀ n t, Value.int n t ∈ vs → T n t := ⟨v.rvs, PL.isList hr, I.ri, I.rT⟩
  exact ⟨I.lf.kb k hX, I.nths, I.nrow, I.npl, I.nsts, ty.tup k I.ths, hr, I.ri, I.rT, I.plr, ty.list k I.pl, I.pi, I.nn, I.len, I.stsr, ty.list k I.sl,
    I.s0.kbx (s' := { s with heap := h', toks := tk }) (k.mono fun x q => .tail _ q) ty I.rl (fun b hb => hf b (List.mem_append_left _ hb)) rfl hrow, I.s1.kbx (s' := { s with heap := h', toks := tk }) (k.mono fun x q => .tail _ q) ty I.rl (fun b hb => hf b (List.mem_append_right _ hb)) rfl hrow, I.gne, I.dis, I.bare⟩

theorem iter_typ {I : Addr} {Tl : Addr} {j : Nat} (hi : h.IsListIter I Tl j) : Typ [I] h := by
  obtain ⟨o, ho, hc, hd⟩ := hi
  refine ⟨fun b ob its n hb hdb q => ?_, fun b g hg q => ?_⟩
  · rw [List.mem_singleton.mp q, ho] at hb; cases hb; rw [hd] at hdb; cases hdb
  · obtain ⟨ob, nm, qn, hb, hcb, hdb, _⟩ := hg
    rw [List.mem_singleton.mp q, ho] at hb; cases hb; rw [hc] at hcb; exact absurd hcb (by decide)

theorem slice_1_25 (vs : List Value) : slicePick vs.toArray (some (1 : Int)) (some (25 : Int)) none = ((vs.drop (min 1 vs.length)).take (min 25 vs.length - min 1 vs.length)).toArray := by
  rw [slicePick_plain]
  have e1 : clipAt vs.length (1 : Int) = min 1 vs.length := clipAt_nat _ 1
  have e2 : clipAt vs.length (25 : Int) = min 25 vs.length := clipAt_nat _ 25
  simp only [Option.elim, List.size_toArray, e1, e2]

/-- the loop's list -/
theorem ev_scripts {scr : Addr} {svs : List Value} {ns : List Int} {Q : Value → Shared → Prop} (D : Mid h₀ L mg mb s₀ s m cm) (hs : m "script" = some (.ref scr)) (hl : s.heap.IsList scr svs.toArray) (hi : IntsAre svs ns) (hz : svs.length ≤ 63)
    (h : ∀ s' c its js, Mid h₀ L mg mb s₀ s' m cm → Gro s s' → s'.heap.PlainList c its.toArray → IntsAre its js → js.length ≤ 100 → s.heap.get? c = none → Q (.ref c) s') :
    wpAny (model prog w) A (eval (forIter lawFor) (lawEnv L)) Q E s := by
  show wpAny _ _ (eval (.BinOp (.Subscript (.Name "script" _) (.Slice (some (.Constant (.int 1) _ _)) (some (.Constant (.int 25) _ _)) none _) _) .Add (.List _ _) _) _) _ _ _
  refine wpAny_BinOp (wpAny_Subscript_list_slice (ll D.lf hs (wpAny_evalPart_some (wpAny_Constant_int (wpAny_evalPart_some (wpAny_Constant_int ⟨scr, svs.toArray, some 1, some 25, rfl, hl, by simp; unfold sizeLine; omega, .int _ _, .int _ _, ?_⟩))))))
  rw [slice_1_25]
  have hsl : IntsAre ((svs.drop (min 1 svs.length)).take (min 25 svs.length - min 1 svs.length)) ((ns.drop (min 1 svs.length)).take (min 25 svs.length - min 1 svs.length)) := ints_take (ints_drop hi _) _
  have hlen : ((ns.drop (min 1 svs.length)).take (min 25 svs.length - min 1 svs.length)).length ≤ 25 := by simp; omega
  generalize (svs.drop (min 1 svs.length)).take (min 25 svs.length - min 1 svs.length) = avs at hsl
  generalize (ns.drop (min 1 svs.length)).take (min 25 svs.length - min 1 svs.length) = js at hsl hlen
  have g₁ : Gro s { s with heap := (s.heap.push { cls := .type "slice", data := .fields #[.int 1 s.toks, .int 25 (s.toks + 1), .none] }).push { cls := .type "list", data := .seq avs.toArray }, toks := s.toks + 1 + 1 } := ⟨_, _, rfl, fun b o e => Heap.get?_push_of_some _ (Heap.get?_push_of_some _ e)⟩
  have hA : ((s.heap.push { cls := .type "slice", data := .fields #[.int 1 s.toks, .int 25 (s.toks + 1), .none] }).push { cls := .type "list", data := .seq avs.toArray }).PlainList (s.heap.objs.size + 1) avs.toArray := ⟨0, by
    have := Heap.get?_push_size (s.heap.push { cls := .type "slice", data := .fields #[.int 1 s.toks, .int 25 (s.toks + 1), .none] }) (o := { cls := .type "list", data := .seq avs.toArray }) rfl
    rw [Heap.size_push] at this; exact this⟩
  show wpAny _ _ (eval (.List _ _) (lawEnv L)) _ _ { s with heap := (s.heap.push { cls := .type "slice", data := .fields #[.int 1 s.toks, .int 25 (s.toks + 1), .none] }).push { cls := .type "list", data := .seq avs.toArray }, toks := s.toks + 1 + 1 }
  have D₁ := D.gro g₁
  have hA₁' : ({ s with heap := (s.heap.push { cls := .type "slice", data := .fields #[.int 1 s.toks, .int 25 (s.toks + 1), .none] }).push { cls := .type "list", data := .seq avs.toArray }, toks := s.toks + 1 + 1 } : Shared).heap.PlainList (s.heap.objs.size + 1) avs.toArray := hA
  generalize { s with heap := (s.heap.push { cls := .type "slice", data := .fields #[.int 1 s.toks, .int 25 (s.toks + 1), .none] }).push { cls := .type "list", data := .seq avs.toArray }, toks := s.toks + 1 + 1 } = s₁ at g₁ D₁ hA₁' ⊢
  have hA₁ : s₁.heap.PlainList (s.heap.objs.size + 1) avs.toArray := hA₁'
  refine List_ ?_
  refine ev_cints (ns := [0, 330, 39, 78, 21, 492, 8, 1, 74, 4, 26, 170, 22, 0, 12, 0]) ?c ?d
  case c => repeat constructor
  refine wpAny_newList ?_ (by show 16 ≤ sizeLine; decide)
  have g₂ : ∀ (vs : List Value) (tk : Nat), Gro s₁ { s₁ with heap := s₁.heap.push { cls := .type "list", data := .seq vs.toArray }, toks := tk } := fun vs tk => ⟨_, _, rfl, fun b o e => Heap.get?_push_of_some _ e⟩
  have fin : ∀ (vs : List Value) (tk : Nat), IntsAre vs [0, 330, 39, 78, 21, 492, 8, 1, 74, 4, 26, 170, 22, 0, 12, 0] →
      wpAny (model prog w) A (binaryOp .Add (.ref (s.heap.objs.size + 1)) (.ref s₁.heap.objs.size)) Q E { s₁ with heap := s₁.heap.push { cls := .type "list", data := .seq vs.toArray }, toks := tk } := by
    intro vs tk hv
    have lv := hv.length
    have la := hsl.length
    refine sum_lists (PL.at hA₁ fun o e => Heap.get?_push_of_some _ e) ⟨0, Heap.get?_push_size _ rfl⟩ (by rw [lv, la]; simp; omega) fun s₃ c g₃ hc hdead => ?_
    have G : Gro s s₃ := (g₁.trans (g₂ vs tk)).trans g₃
    refine h s₃ c _ _ (D.gro G) G hc (hsl.append hv) ?_ ((g₁.trans (g₂ vs tk)).dead hdead)
    simp; omega
  exact fin _ _ (marked_ints _ _)

/-- the law's loop -/
theorem st_for {scr : Addr} {svs : List Value} {ns : List Int} {Q : Flow → Shared → Prop} (K : TOk T) (hthi : IntsAre tvs things) (hthT : ∀ n t, Value.int n t ∈ tvs → T n t) (hr0 : h₀.get? row = none) (hh : A.handled = none) (hfr : A.frames = some [lawEnv L]) (hd : A.depth + 2 < recursionLimit) (hu : A.units + 80 < cLine)
    (I : Inv T mg mb h₀ L row ths tvs 5 s v) (hs : v.m "script" = some (.ref scr)) (hl : s.heap.IsList scr svs.toArray) (hi : IntsAre svs ns) (hz : svs.length ≤ 63)
    (h : ∀ s' v' z', Inv T mg mb h₀ L row ths tvs z' s' v' → s' = { s with heap := s'.heap, toks := s'.toks, gens := s'.gens } → Q .next s') :
    wpAny (model prog w) A (exec lawFor (lawEnv L)) Q E s := by
  show wpAny _ _ (exec (.For (.Name "x" _) (forIter lawFor) turn [] _) _) _ _ _
  refine wpAny_For (ev_scripts (I.lf.mid (s := s)) hs hl hi hz fun s₁ Tl its js D₁ g₁ hT hji hjz hdead => ?_)
  have I₁ := I.names D₁ fun y _ _ => rfl
  have ht1 : Tl ≠ row := ne_new I.rl hdead
  refine wpAny_pyIter_list (PL.isList hT) ?_
  generalize hIt : s₁.heap.objs.size = It
  have hpush : (s₁.heap.push { cls := .type "list_iterator", data := .fields #[.ref Tl, .int 0 0] }).get? It = some { cls := .type "list_iterator", data := .fields #[.ref Tl, .int 0 0] } := by rw [← hIt]; exact Heap.get?_push_size _ rfl
  have D₂ := (I₁.lf.mid (s := s₁)).push (tk := s₁.toks) (o := { cls := .type "list_iterator", data := .fields #[.ref Tl, .int 0 0] })
  have I₂ := I₁.names D₂ fun y _ _ => rfl
  have hItd : s₁.heap.get? It = none := by rw [← hIt]; exact get?_size _
  have hItf : It ∉ v.foot := fun q => by
    obtain ⟨o, ho⟩ := I₁.footAlive It q
    rw [hItd] at ho; cases ho
  have hItl : It ∉ row :: LC L := fun q => by
    obtain ⟨o, ho⟩ := I₁.alive It q
    rw [hItd] at ho; cases ho
  have hIt0 : h₀.get? It = none := D₁.dead hItd
  have hT₂ : (s₁.heap.push { cls := .type "list_iterator", data := .fields #[.ref Tl, .int 0 0] }).PlainList Tl its.toArray := PL.at hT fun o e => Heap.get?_push_of_some _ e
  have hlen := hji.length
  refine codeAny_forLoop (fun n s₃ => ∃ j v', n = js.length - j ∧ j ≤ js.length ∧ Inv T mg mb h₀ L row ths tvs (5 + j) s₃ v' ∧ s₃.heap.IsListIter It Tl j ∧ s₃.heap.PlainList Tl its.toArray ∧ It ∉ v'.foot ∧ s₃ = { s with heap := s₃.heap, toks := s₃.toks, gens := s₃.gens }) (fun n s₃ hJ => ?_) js.length
    ⟨0, _, rfl, Nat.zero_le _, I₂, ⟨_, hpush, rfl, rfl⟩, hT₂, hItf, ?_⟩
  · obtain ⟨j, v', rfl, hj, I₃, hit, hT₃, hf₃, he₃⟩ := hJ
    have tyI := iter_typ hit
    cases hx : js[j]? with
    | none =>
      refine wpAny_pyNext_list_end hh hit (PL.isList hT₃) (by have : js.length ≤ j := List.getElem?_eq_none_iff.mp hx; simp; omega) fun h' hx' => ?_
      refine wpAny_execs_nil (h _ v' (5 + j) (I₃.touch (X := [It]) (h' := h') (tk := s₃.toks) (fun b o hb e => hx' b o (fun q => hb (by rw [q]; exact .head _)) e) tyI (fun b hb => ?_) (fun b hb q => hf₃ (List.mem_singleton.mp q ▸ hb))) ?_)
      · rw [List.mem_singleton.mp hb]
        exact ⟨fun q => hItl (.tail _ q), hIt0⟩
      · rw [he₃]
    | some x =>
      obtain ⟨t, ht⟩ := hji.get j x hx
      have hlt : j < js.length := (List.getElem?_eq_some_iff.mp hx).1
      refine wpAny_pyNext_list_item hit (PL.isList hT₃) (x := .int x t) (by simpa using ht) fun h' hit' hs' => ?_
      have kI : KB [It] s₃.heap h' := KB.of_same hs'
      have I₄ : Inv T mg mb h₀ L row ths tvs (5 + j) { s₃ with heap := h' } v' := I₃.touch (X := [It]) (h' := h') (tk := s₃.toks) kI tyI (fun b hb => by
        rw [List.mem_singleton.mp hb]
        exact ⟨fun q => hItl (.tail _ q), hIt0⟩) (fun b hb q => hf₃ (List.mem_singleton.mp q ▸ hb))
      have hT₄ : h'.PlainList Tl its.toArray := tyI.list kI hT₃
      refine wpAny_assign_Name ((I₄.lf.mid (s := { s₃ with heap := h' })).st fun s₅ D₅ k₅ => ?_)
      have I₅ := I₄.names D₅ fun y _ hy => if_neg hy
      refine turn_ok K hthi hthT hr0 hh hfr hd hu (by omega) I₅ (x := x) (t := t) (show (fun y => if y = (Str.ofString "x") then some (Value.int x t) else v'.m y) "x" = some (.int x t) from if_pos rfl) fun s₆ v₆ f hfl I₆ C₆ => ?_
      have hoff : It ∉ row :: (LC L ++ v'.foot) := fun q => by
        rcases List.mem_cons.mp q with q | q
        · exact hItl (by rw [q]; exact .head _)
        · exact (List.mem_append.mp q).elim (fun q => hItl (.tail _ q)) hf₃
      have hit₅ : s₅.heap.IsListIter It Tl (j + 1) := by
        obtain ⟨o, ho, r⟩ := hit'
        exact ⟨o, k₅ _ _ (fun q => hItl (.tail _ q)) ho, r⟩
      have hit₆ : s₆.heap.IsListIter It Tl (j + 1) := by
        obtain ⟨o, ho, r⟩ := hit₅
        exact ⟨o, C₆.keep _ _ hoff ho, r⟩
      have hT₅ : s₅.heap.PlainList Tl its.toArray := k₅.list hT₄ (I₄.lf.mid.list_off hT₄)
      have hT₆ : s₆.heap.PlainList Tl its.toArray := by
        have t0 := I₅.lf.typ.app (I₅.s0.wv.typ.app I₅.s1.wv.typ)
        obtain ⟨n, ho⟩ := hT₅
        refine ⟨n, C₆.keep _ _ (fun q => ?_) ho⟩
        rcases List.mem_cons.mp q with q | q
        · exact ht1 q
        · exact t0.seq _ _ _ _ ho rfl q
      have hf₆ : It ∉ v₆.foot := fun q => by
        rcases C₆.new It q with z | z
        · exact hf₃ z
        · obtain ⟨o, ho, _⟩ := hit₅
          rw [ho] at z; cases z
      have done : ∃ m, m < js.length - j ∧ ∃ j' v', m = js.length - j' ∧ j' ≤ js.length ∧ Inv T mg mb h₀ L row ths tvs (5 + j') s₆ v' ∧ s₆.heap.IsListIter It Tl j' ∧ s₆.heap.PlainList Tl its.toArray ∧ It ∉ v'.foot ∧ s₆ = { s with heap := s₆.heap, toks := s₆.toks, gens := s₆.gens } :=
        ⟨js.length - (j + 1), by omega, j + 1, v₆, rfl, by omega, I₆, hit₆, hT₆, hf₆, by rw [C₆.eq, D₅.eq, he₃]⟩
      rcases hfl with e | e <;> rw [e] <;> exact done
  · show _ = _
    rw [D₁.eq]
end

def pieces : List Int := [1, 2, 3, 2, 1, 126, 0, 127]

theorem marked_mem : ∀ {ns : List Int} {k : Nat} {n : Int} {t : Tok}, Value.int n t ∈ marked k ns → ∃ i, ns[i]? = some n ∧ @Eq Nat t (k + i)
  | [], _, _, _, h => nomatch h
  | m :: ns, k, n, t, h => by
    rcases List.mem_cons.mp h with e | h
    · cases e; exact ⟨0, rfl, rfl⟩
    · obtain ⟨i, hi, e⟩ := marked_mem h
      exact ⟨i + 1, by simpa using hi, by omega⟩

/-- the law's own constants, each with its mark -/
def TT (k0 k1 : Nat) (n : Int) (t : Tok) : Prop := Value.int n t ∈ marked k0 pieces ∨ Value.int n t ∈ marked k1 things

theorem TT.ok {k0 k1 : Nat} (h0 : 1 ≤ k0) (h1 : k0 + 8 ≤ k1) : TOk (TT k0 k1) := by
  have idx : ∀ {n : Int} {t : Tok}, TT k0 k1 n t → (∃ i, pieces[i]? = some n ∧ @Eq Nat t (k0 + i)) ∨ (∃ i, things[i]? = some n ∧ @Eq Nat t (k1 + i)) := fun h => h.imp marked_mem marked_mem
  have lp : ∀ {i : Nat} {n : Int}, pieces[i]? = some n → i < 8 := fun h => (List.getElem?_eq_some_iff.mp h).1
  refine ⟨fun {p t} h => ?_, fun {p t} h => ?_, fun {p q t} hp hq => ?_⟩
  · rcases idx h with ⟨i, _, e⟩ | ⟨i, _, e⟩
    · exact fun q => absurd (e.symm.trans q) (by omega)
    · exact fun q => absurd (e.symm.trans q) (by omega)
  · have sp : ∀ n ∈ pieces, smallInt n = true := by decide
    have st : ∀ n ∈ things, smallInt n = true := by decide
    rcases idx h with ⟨i, e, _⟩ | ⟨i, e, _⟩
    · exact sp _ (List.mem_of_getElem? e)
    · exact st _ (List.mem_of_getElem? e)
  · rcases idx hp with ⟨i, ei, e⟩ | ⟨i, ei, e⟩ <;> rcases idx hq with ⟨j, ej, e'⟩ | ⟨j, ej, e'⟩
    · have : i = j := by have : k0 + i = k0 + j := e.symm.trans e'; omega
      subst this; rw [ei] at ej; exact Option.some.inj ej
    · have := lp ei; have : k0 + i = k1 + j := e.symm.trans e'; omega
    · have := lp ej; have : k1 + i = k0 + j := e.symm.trans e'; omega
    · have : i = j := by have : k1 + i = k1 + j := e.symm.trans e'; omega
      subst this; rw [ei] at ej; exact Option.some.inj ej

section
variable {prog : Program} {w : World} {A : Around} {s s' s₀ : Shared} {mg mb : Str → Option Value} {E : Value → Shared → Prop} {h₀ h h' : Heap} {L row ths : Addr} {tvs : List Value} {z : Nat} {v : IV} {m cm : Str → Option Value} {T : Int → Tok → Prop}

theorem Mid.tupKeep {b : Addr} {its : Array Value} (D : Mid h₀ L mg mb s₀ s m cm) (k : KB (LC L) s.heap h') (hb : IsTup s.heap b its) : IsTup h' b its := D.lf.typ.tup k hb

theorem Mid.stcT {x : Str} {c : Addr} {v : Value} {Q : Unit → Shared → Prop} (D : Mid h₀ L mg mb s₀ s m cm)
    (h : ∀ s', Mid h₀ L mg mb s₀ s' m (fun y => if y = x then some v else cm y) → KB (LC L) s.heap s'.heap → s'.toks = s.toks → Q () s')
    (hc : (cellsFrom (L + 1) lawScope.names []).lookup x = some c := by rfl) (hl : (lawEnv L).kindOf x = some .cell := by rfl) : wpAny (model prog w) A (storeName (lawEnv L) x v) Q E s := by
  have hLc : L < c := D.lf.cl.above x c (mem_of_lookup hc)
  have hcL := cell_addr hc
  refine wpAny_storeName_cell rfl hl hc (D.lf.cl.cell x c hc) fun h' hv hs => h _ ⟨⟨⟨D.lf.fr.ns.sameBut hs (Nat.ne_of_lt hLc), fun b o e => ?_, D.lf.fr.above⟩, ⟨fun n c' e => ?_, D.lf.cl.apart, D.lf.cl.above⟩, ?_, D.lf.low⟩, fun b o hb e => ?_, by rw [D.eq]⟩ (fun b o hb e => ?_) rfl
  · exact hs.extBut b o (fun q => D.lf.old e (q ▸ hcL)) (D.lf.fr.keep b o e)
  · by_cases hn : n = x
    · subst hn; rw [hc] at e; cases e; simpa using hv
    · have hcc : c' ≠ c := fun q => hn (name_of_addr D.lf.cl.apart (mem_of_lookup e) (q ▸ mem_of_lookup hc))
      simpa [hn] using (D.lf.cl.cell n c' e).sameBut hs hcc
  · exact D.lf.b.kb (X := LC L) (fun b o hb e => hs.extBut b o (fun q => hb (q ▸ hcL)) e) D.lf.low_off
  · exact hs.extBut b o (fun q => hb (q ▸ hcL)) (D.kp b o hb e)
  · exact hs.extBut b o (fun q => hb (q ▸ hcL)) e

theorem st_pieces {Q : Flow → Shared → Prop} (D : Mid h₀ L mg mb s₀ s m cm)
    (h : ∀ s' pc, Mid h₀ L mg mb s₀ s' m (fun y => if y = "pieces" then some (.ref pc) else cm y) → KB (LC L) s.heap s'.heap → @LE.le Nat _ (s.toks + 8) s'.toks → IsTup s'.heap pc (marked s.toks pieces).toArray → Q .next s') :
    wpAny (model prog w) A (exec (nth lawBody 0) (lawEnv L)) Q E s := by
  show wpAny _ _ (exec (.Assign [.Name "pieces" _] (.Tuple _ _ _) _) _) _ _ _
  refine wpAny_Assign_Name (Tuple_ ?_)
  refine ev_cints (ns := pieces) ?c ?d
  case c => repeat constructor
  refine wpAny_newTuple ?_ (by show 8 ≤ sizeLine; decide)
  have D₁ := D.push (tk := s.toks + 8) (o := { cls := .type "tuple", data := .seq (marked s.toks pieces).toArray })
  have hT : IsTup (s.heap.push { cls := .type "tuple", data := .seq (marked s.toks pieces).toArray }) s.heap.objs.size (marked s.toks pieces).toArray := ⟨_, Heap.get?_push_size _ rfl, rfl, 0, rfl⟩
  exact D₁.stcT fun s' D' k' ht => h s' _ D' (fun b o hb e => k' b o hb (Heap.get?_push_of_some _ e)) (Nat.le_of_eq ht.symm) (D₁.lf.typ.tup k' hT)

theorem st_things {Q : Flow → Shared → Prop} (D : Mid h₀ L mg mb s₀ s m cm)
    (h : ∀ s' ths, Mid h₀ L mg mb s₀ s' (fun y => if y = "things" then some (.ref ths) else m y) cm → KB (LC L) s.heap s'.heap → IsTup s'.heap ths (marked s.toks things).toArray → Q .next s') :
    wpAny (model prog w) A (exec (nth lawBody 1) (lawEnv L)) Q E s := by
  show wpAny _ _ (exec (.Assign [.Name "things" _] (.Tuple _ _ _) _) _) _ _ _
  refine wpAny_Assign_Name (Tuple_ ?_)
  refine ev_cints (ns := things) ?c ?d
  case c => repeat constructor
  refine wpAny_newTuple ?_ (by show 6 ≤ sizeLine; decide)
  have D₁ := D.push (tk := s.toks + 6) (o := { cls := .type "tuple", data := .seq (marked s.toks things).toArray })
  have hT : IsTup (s.heap.push { cls := .type "tuple", data := .seq (marked s.toks things).toArray }) s.heap.objs.size (marked s.toks things).toArray := ⟨_, Heap.get?_push_size _ rfl, rfl, 0, rfl⟩
  exact D₁.st fun s' D' k' => h s' _ D' (fun b o hb e => k' b o hb (Heap.get?_push_of_some _ e)) (D₁.lf.typ.tup k' hT)

theorem st_first {scr : Addr} {svs : List Value} {ns : List Int} {Q : Flow → Shared → Prop} (D : Mid h₀ L mg mb s₀ s m cm) (hu : A.units + 64 < cLine) (hs : m "script" = some (.ref scr)) (hl : s.heap.IsList scr svs.toArray) (hi : IntsAre svs ns)
    (h : ∀ s' n t, Mid h₀ L mg mb s₀ s' m (fun y => if y = "first" then some (.int n t) else cm y) → KB (LC L) s.heap s'.heap → Q .next s') :
    wpAny (model prog w) A (exec (nth lawBody 2) (lawEnv L)) Q E s := by
  show wpAny _ _ (exec (.Assign [.Name "first" _] (.IfExp (.Compare (.Name "script" _) [.NotEq] [.List [] _] _) (.Subscript (.Name "script" _) (.Constant (.int 0) _ _) _) (.Constant (.int 0) _ _) _) _) _) _ _ _
  refine Mid.asgc D (wpAny_IfExp (wpAny_isTrue_Compare1 (ll D.lf hs (List_ (args_nil (wpAny_newList (ke_ne_ints (xs := svs) (ys := []) (ns := ns) (ms := []) (hl.push _) ⟨_, Heap.get?_push_size _ rfl, rfl, 0, rfl⟩ hi .nil hu (wpAny_truthy_bool ?_)) (by decide)))))))
  have D₁ := D.push (tk := s.toks) (o := { cls := .type "list", data := .seq ([] : List Value).toArray })
  have D₂ := D.push (tk := s.toks + 1) (o := { cls := .type "list", data := .seq ([] : List Value).toArray })
  cases hi with
  | nil =>
    rw [if_neg (by simp)]
    exact wpAny_Constant_int ⟨m, cm, D₂, fun s' D' k' => h s' _ _ D' fun b o hb e => k' b o hb (Heap.get?_push_of_some _ e)⟩
  | cons n t hr =>
    rw [if_pos (by simp)]
    refine Subscript_ (ll D₁.lf hs (wpAny_Constant_int (item_listL (x := .int n t) (hl.push _) (by decide) (by decide) rfl ⟨m, cm, D₂, fun s' D' k' => h s' _ _ D' fun b o hb e => k' b o hb (Heap.get?_push_of_some _ e)⟩)))
end

def plainScope : Scope := compScope (asgVal (nth lawBody 3))
def plainCl (L : Addr) : List (Str × Addr) := [("pieces", L + 1), ("first", L + 1 + 1)]
theorem plain_clos (L : Addr) : closureFor plainScope (lawEnv L) = pure (plainCl L) := rfl

theorem paired_mem {α β : Type} {F : α → β → Prop} : ∀ {as : List α} {bs : List β}, Paired F as bs → as.length = bs.length ∧ ∀ b ∈ bs, ∃ a ∈ as, F a b
  | _, _, .nil => ⟨rfl, fun _ h => nomatch h⟩
  | _, _, .cons hf hr => by
    obtain ⟨hl, hm⟩ := paired_mem hr
    refine ⟨by simp [hl], fun b hb => ?_⟩
    rcases List.mem_cons.mp hb with e | hb
    · exact ⟨_, .head _, e ▸ hf⟩
    · obtain ⟨a, ha, hF⟩ := hm b hb
      exact ⟨a, .tail _ ha, hF⟩

theorem ints_of_all : ∀ {vs : List Value}, (∀ v ∈ vs, ∃ n t, v = Value.int n t) → ∃ xs, IntsAre vs xs
  | [], _ => ⟨[], .nil⟩
  | v :: vs, h => by
    obtain ⟨n, t, e⟩ := h v (.head _)
    obtain ⟨xs, hx⟩ := ints_of_all fun v hv => h v (.tail _ hv)
    exact ⟨n :: xs, e ▸ .cons n t hx⟩
theorem ints_mem : ∀ {vs : List Value} {xs : List Int}, IntsAre vs xs → ∀ n ∈ xs, ∃ t, Value.int n t ∈ vs
  | _, _, .nil, n, h => nomatch h
  | _, _, .cons m t hr, n, h => by
    rcases List.mem_cons.mp h with e | h
    · exact ⟨t, by rw [e]; exact .head _⟩
    · obtain ⟨t', ht'⟩ := ints_mem hr n h
      exact ⟨t', .tail _ ht'⟩

section
variable {prog : Program} {w : World} {A : Around} {s s' s₀ : Shared} {mg mb : Str → Option Value} {E : Value → Shared → Prop} {h₀ h h' : Heap} {L row ths : Addr} {tvs : List Value} {z : Nat} {v : IV} {m cm : Str → Option Value} {T : Int → Tok → Prop}

theorem st_plain {k0 : Nat} {pc : Addr} {fst : Int} {tf : Tok} {Q : Flow → Shared → Prop} (D : Mid h₀ L mg mb s₀ s m cm) (hh : A.handled = none)
    (hp : cm "pieces" = some (.ref pc)) (hP : IsTup s.heap pc (marked k0 pieces).toArray) (hf : cm "first" = some (.int fst tf))
    (h : ∀ s' pl pvs xs, Mid h₀ L mg mb s₀ s' (upd "plain" (.ref pl) m) cm → KB (LC L) s.heap s'.heap → s'.heap.PlainList pl pvs.toArray → IntsAre pvs xs → xs.length = 5 → (∀ n t, Value.int n t ∈ pvs → Value.int n t ∈ marked k0 pieces) → Q .next s') :
    wpAny (model prog w) A (exec (nth lawBody 3) (lawEnv L)) Q E s := by
  show wpAny _ _ (exec (.Assign [.Name "plain" _] (.ListComp (.Subscript (.Name "pieces" _) (.BinOp (.BinOp (.Name "first" _) .FloorDiv (.BinOp (.Constant (.int 8) _ _) .Pow (.Name "k" _) _) _) .Mod (.Constant (.int 8) _ _) _) _) [⟨.Name "k" _, .Call (.Name "range" _) [.Constant (.int 5) _ _] [] _, [], 0⟩] plainScope _) _) _) _ _ _
  refine comp_range (h₀ := h₀) (mg := mg) (mb := mb) (s₀ := s₀) (m := m) (cm := cm) (cl := plainCl L) (fun _ => true) (fun _ y => y ∈ marked k0 pieces) rfl (plain_clos L) (by decide) rfl (by decide) rfl rfl hh ?_
  refine Call_ (ldB (v := .type "range") (env := lawEnv L) D.lf.b PyProof.Rows.boot_range (PyProof.Rows.callWith_type1 (args_cons (wpAny_Constant_int (args_nil ?_)))))
  refine call_range_1 ⟨_, 5, _, _, _, rfl, IsRange.new .., by decide, D.grow fun _ _ e => Heap.get?_push_of_some _ e, ?_, ?_, ?_⟩
  · intro C a v s₂ m₂ E' hC ha hv hn hm hk₂
    exact wpAny_tests_nil ⟨rfl, ⟨_, _, rfl, fun _ _ e => e⟩⟩
  · intro C a v s₂ m₂ E' hC ha hv _ hn hm hk₂
    obtain ⟨h1, h2⟩ := mem_rangeInts ha
    obtain ⟨t, rfl⟩ := hv
    have hk' : ∀ b o, s.heap.get? b = some o → s₂.heap.get? b = some o := fun b o e => hk₂ b o (Heap.get?_push_of_some _ e)
    have X := D.lf.cl.keeps hk'
    have hP₂ : IsTup s₂.heap pc (marked k0 pieces).toArray := IsTup.at hP fun o e => hk' _ o e
    have hpow : (8 : Int) ^ a.toNat ≠ 0 ∧ ((8 : Int) ^ a.toNat).natAbs < 2 ^ 30 := by
      have : a = 0 ∨ a = 1 ∨ a = 2 ∨ a = 3 ∨ a = 4 := by omega
      rcases this with e | e | e | e | e <;> subst e <;> decide
    refine Subscript_ (lcc (scope := plainScope) (cl := plainCl L) (C := C) X hp (wpAny_BinOp (wpAny_BinOp (lcc (scope := plainScope) (cl := plainCl L) (C := C) X hf (wpAny_BinOp (wpAny_Constant_int (ldL (env := compEnvC plainScope (plainCl L) C (lawEnv L)) hn (v := .int a t) hm (pow_int_small h1 (by omega) (by decide) (floordiv_int hpow.1 (wpAny_Constant_int (mod_int (by decide) ?_)) (.inl (noPy _ hpow.2)))))))))))
    have lo : 0 ≤ (fst.fdiv (8 ^ a.toNat)).fmod 8 := Int.fmod_nonneg_of_pos _ (by decide)
    have hi : (fst.fdiv (8 ^ a.toNat)).fmod 8 < 8 := Int.fmod_lt_of_pos _ (by decide)
    have hlen : (marked k0 pieces).length = 8 := rfl
    have hlt : ((fst.fdiv (8 ^ a.toNat)).fmod 8).toNat < (marked k0 pieces).length := by omega
    refine item_tupleL (l := marked k0 pieces) (j := ((fst.fdiv (8 ^ a.toNat)).fmod 8).toNat) (x := (marked k0 pieces)[((fst.fdiv (8 ^ a.toNat)).fmod 8).toNat]) hP₂ (by omega) (by omega) ?_ (List.getElem?_eq_getElem hlt) ⟨List.getElem_mem _, ⟨_, _, rfl, fun _ _ e => e⟩⟩
    unfold seqIndex?; rw [hlen]; simp; omega
  · intro D' ys s' D₂ k₂ _ hpl hpair
    obtain ⟨hlen, hmem⟩ := paired_mem hpair
    have hall : ∀ y ∈ ys, y ∈ marked k0 pieces := fun y hy => let ⟨_, _, hF⟩ := hmem y hy; hF
    obtain ⟨xs, hxs⟩ := ints_of_all fun y hy => (marked_ints pieces k0).all y (hall y hy)
    refine h s' D' ys xs D₂ (fun b o hb e => k₂ b o hb (Heap.get?_push_of_some _ e)) hpl hxs ?_ fun n t hn => hall _ hn
    rw [← hxs.length, ← hlen]; rfl

theorem st_row {pl : Addr} {pvs : List Value} {Q : Flow → Shared → Prop} (D : Mid h₀ L mg mb s₀ s m cm) (hp : m "plain" = some (.ref pl)) (hP : s.heap.PlainList pl pvs.toArray) (hz : pvs.length ≤ 1000)
    (h : ∀ s' row, Mid h₀ L mg mb s₀ s' (upd "row" (.ref row) m) cm → KB (LC L) s.heap s'.heap → s'.heap.PlainList row pvs.toArray → s.heap.get? row = none → Q .next s') :
    wpAny (model prog w) A (exec (nth lawBody 4) (lawEnv L)) Q E s := by
  obtain ⟨n, hP⟩ := hP
  show wpAny _ _ (exec (.Assign [.Name "row" _] (.Call (.Name "list" _) [.Name "plain" _] [] _) _) _) _ _ _
  refine Mid.asg D (Call_ (ldB (v := .type "list") (env := lawEnv L) D.lf.b PyProof.Rows.boot_list (PyProof.Rows.callWith_type1 (args_cons (ll D.lf hp (args_nil (call_list_seq pl (T := "list") (.inl rfl) hP rfl rfl (fun h' c' hk hS => ?_) (by simp; unfold sizeLine; omega))))))))
  have D₁ := D.grow (tk := s.toks) hk
  have hR : h'.PlainList s.heap.objs.size pvs.toArray := ⟨c', hS⟩
  exact ⟨m, cm, D₁, fun s' D' k' => h s' _ D' (fun b o hb e => k' b o hb (hk b o e)) (k'.list hR (D₁.list_off hR)) (get?_size _)⟩
end

section
variable {prog : Program} {w : World} {A : Around} {s s' s₀ : Shared} {mg mb : Str → Option Value} {E : Value → Shared → Prop} {h₀ h h' : Heap} {L row ths : Addr} {tvs : List Value} {z : Nat} {v : IV} {m cm : Str → Option Value} {T : Int → Tok → Prop}

/-- a new record -/
structure NewRec (T : Int → Tok → Prop) (h₀ : Heap) (L row : Addr) (mg mb : Str → Option Value) (m cm : Str → Option Value) (xs : List Int) (s s' : Shared) (d : SD) : Prop where
  lf : Lf h₀ L mg mb s'.heap m cm
  kp : ∀ b o, s.heap.get? b = some o → s'.heap.get? b = some o
  eq : s' = { s with heap := s'.heap, toks := s'.toks, gens := s'.gens }
  gens : ∃ gs : GenState, gs.bare = true ∧ s'.gens = s.gens.push gs
  slot : Sl T h₀ L row xs s' d
  g : d.g = s.gens.size
  dead : ∀ b ∈ d.foot, s.heap.get? b = none

theorem ev_rec {p1 p2 p3 p4 p5 p6 p7 : Pos} {k1 k2 k3 : Nat} {xs : List Int} {rvs : List Value} {Q : Value → Shared → Prop} (F : Lf h₀ L mg mb s.heap m cm) (hd : A.depth < recursionLimit)
    (hr : m "row" = some (.ref row)) (hrl : s.heap.PlainList row rvs.toArray) (hri : IntsAre rvs xs) (hrT : ∀ n t, Value.int n t ∈ rvs → T n t)
    (h : ∀ s' d, NewRec T h₀ L row mg mb m cm xs s s' d → Q (.ref d.tup) s') :
    wpAny (model prog w) A (eval (.Tuple [.Call (.Name "_grouping_intervals" p1) [.Name "row" p2] [] p3, .Constant (.int 0) k1 p4, .List [] p5, .Constant (.int 0) k2 p6] k3 p7) (lawEnv L)) Q E s := by
  refine Tuple_ (args_cons (callByName (i := 2) F.b.g (F.b.fns (2, 21, 20) (by decide)) rfl (args_cons (ll F hr (args_nil ⟨fun o q => q, fn_walk F.b hd fun s₅ a₂ L₂ N => ?_⟩)))))
  have F₅ : Lf h₀ L mg mb s₅.heap m cm := F.keeps N.keep
  refine args_cons (wpAny_Constant_int (args_cons (List_ (args_nil (wpAny_newList (args_cons (wpAny_Constant_int (args_nil (wpAny_newTuple ?_)))) (by decide))))))
  have hL₂ : L₂ ∉ LC L := fun q => by
    obtain ⟨o, ho⟩ := F.alive q
    rw [N.newL] at ho; cases ho
  have kU : ∀ b o, s₅.heap.get? b = some o → ((s₅.heap.push { cls := .type "list", data := .seq ([] : List Value).toArray }).push { cls := .type "tuple", data := .seq ([.ref a₂, .int 0 s₅.toks, .ref s₅.heap.objs.size, .int 0 (s₅.toks + 1)] : List Value).toArray }).get? b = some o := fun b o e => Heap.get?_push_of_some _ (Heap.get?_push_of_some _ e)
  have hkk : (s₅.heap.push { cls := .type "list", data := .seq ([] : List Value).toArray }).PlainList s₅.heap.objs.size ([] : List Value).toArray := ⟨0, Heap.get?_push_size _ rfl⟩
  have hkk₇ := PL.at hkk fun o e => Heap.get?_push_of_some { cls := .type "tuple", data := .seq ([.ref a₂, .int 0 s₅.toks, .ref s₅.heap.objs.size, .int 0 (s₅.toks + 1)] : List Value).toArray } e
  have hT : IsTup ((s₅.heap.push { cls := .type "list", data := .seq ([] : List Value).toArray }).push { cls := .type "tuple", data := .seq ([.ref a₂, .int 0 s₅.toks, .ref s₅.heap.objs.size, .int 0 (s₅.toks + 1)] : List Value).toArray }) (s₅.heap.push { cls := .type "list", data := .seq ([] : List Value).toArray }).objs.size #[.ref a₂, .int 0 s₅.toks, .ref s₅.heap.objs.size, .int 0 (s₅.toks + 1)] := ⟨_, Heap.get?_push_size _ rfl, rfl, 0, rfl⟩
  have hg₅ : s₅.gens = s.gens.push (.fresh (.func giBody (giEnv L₂))) := by rw [N.eq]
  have hrl₅ := PL.at hrl fun o e => N.keep _ o e
  have hkr : s₅.heap.objs.size ≠ row := fun q => by
    obtain ⟨n, e⟩ := hrl₅
    exact absurd (Heap.lt_size e) (by rw [q]; exact Nat.lt_irrefl _)
  have nV : Wv T h₀ L s₅ a₂ s.gens.size L₂ row [] xs (.at 0 none) := by
    refine ⟨⟨N.gen, ⟨_, ?_, rfl, rfl, rfl, N.ns⟩, fun b hb => ?_, ⟨rvs, PL.isList hrl₅, hri, hrT⟩⟩, nofun, ⟨.fresh (.func giBody (giEnv L₂)), ?_, rfl⟩, fun b hb => ?_, fun b hb => ?_⟩
    · rw [hg₅]; exact Array.getElem?_push_size
    · rw [List.mem_singleton.mp hb]
      refine ⟨fun q => ?_, fun q => ?_⟩
      · obtain ⟨ob, ho⟩ := F.b.alive _ q
        rw [N.newL] at ho; cases ho
      · obtain ⟨n, hr⟩ := hrl
        rw [← q, N.newL] at hr; cases hr
    · rw [hg₅]; exact Array.getElem?_push_size
    · rw [List.mem_singleton.mp hb]
      exact (F.mid (s := s)).dead N.newL
    · rw [List.mem_singleton.mp hb]; exact hL₂
  refine h _ ⟨(s₅.heap.push { cls := .type "list", data := .seq ([] : List Value).toArray }).objs.size, a₂, s.gens.size, L₂, [], .at 0 none, 0, [], 0⟩ ⟨F₅.keeps kU, fun b o e => kU b o (N.keep b o e), by rw [N.eq], ⟨_, rfl, hg₅⟩, ⟨⟨_, _, _, [], hT, hkr, hkk₇, .nil⟩, ?_, .inr ⟨rfl, rfl, .inl rfl⟩, by simp⟩, rfl, fun b hb => ?_⟩
  · exact nV.kb (X := []) (fun b o _ e => kU b o e) (by simp) (by simp) (by simp) rfl
  · rw [List.mem_singleton.mp hb]; exact N.newL

theorem Sl.grow {xs : List Int} {d : SD} {rvs : List Value} (S : Sl T h₀ L row xs s d) (hrl : s.heap.PlainList row rvs.toArray) (hri : IntsAre rvs xs) (hrT : ∀ n t, Value.int n t ∈ rvs → T n t) (k : ∀ b o, s.heap.get? b = some o → s'.heap.get? b = some o) (hg : s'.gens[d.g]? = s.gens[d.g]?) : Sl T h₀ L row xs s' d :=
  S.kbx (X := []) (fun b o _ e => k b o e) ⟨fun _ _ _ _ _ _ => by simp, fun _ _ _ => by simp⟩ hrl (by simp) hg ⟨rvs, PL.isList (PL.at hrl fun o e => k _ o e), hri, hrT⟩

theorem st_inits {pl : Addr} {pvs rvs : List Value} {xs : List Int} {Q : Flow → Shared → Prop} (F : Lf h₀ L mg mb s.heap m cm) (hd : A.depth < recursionLimit)
    (hth : m "things" = some (.ref ths)) (hT : IsTup s.heap ths tvs.toArray) (hr : m "row" = some (.ref row)) (hrl : s.heap.PlainList row rvs.toArray) (hri : IntsAre rvs xs) (hrT : ∀ n t, Value.int n t ∈ rvs → T n t)
    (hp : m "plain" = some (.ref pl)) (hpr : pl ≠ row) (hP : s.heap.PlainList pl pvs.toArray) (hpi : IntsAre pvs xs) (hnn : ∀ n ∈ xs, 0 ≤ n) (hz : xs.length ≤ z) (hb : AllBare s.gens)
    (h : ∀ s' v, Inv T mg mb h₀ L row ths tvs z s' v → (∀ y : Str, y ≠ "states" → v.m y = m y) → (∀ b o, h₀.get? b = some o → s'.heap.get? b = some o) → s' = { s with heap := s'.heap, toks := s'.toks, gens := s'.gens } → Q .next s') :
    wpAny (model prog w) A (exec (nth lawBody 5) (lawEnv L)) Q E s := by
  show wpAny _ _ (exec (.Assign [.Name "states" _] (.List [.Tuple [.Call (.Name "_grouping_intervals" _) [.Name "row" _] [] _, .Constant (.int 0) _ _, .List [] _, .Constant (.int 0) _ _] _ _, .Tuple [.Call (.Name "_grouping_intervals" _) [.Name "row" _] [] _, .Constant (.int 0) _ _, .List [] _, .Constant (.int 0) _ _] _ _] _) _) _) _ _ _
  refine wpAny_Assign_Name (List_ (args_cons (ev_rec (T := T) (xs := xs) F hd hr hrl hri hrT fun s₁ d0 N0 => args_cons (ev_rec (T := T) (xs := xs) N0.lf hd hr (PL.at hrl fun o e => N0.kp _ o e) hri hrT fun s₂ d1 N1 => args_nil (wpAny_newList ?_ (by show 2 ≤ sizeLine; decide))))))
  have k02 : ∀ b o, s.heap.get? b = some o → s₂.heap.get? b = some o := fun b o e => N1.kp b o (N0.kp b o e)
  have D₃ := (N1.lf.mid (s := s₂)).push (tk := s₂.toks) (o := { cls := .type "list", data := .seq ([Value.ref d0.tup, .ref d1.tup] : List Value).toArray })
  have kU : ∀ b o, s₂.heap.get? b = some o → (s₂.heap.push { cls := .type "list", data := .seq ([Value.ref d0.tup, .ref d1.tup] : List Value).toArray }).get? b = some o := fun b o e => Heap.get?_push_of_some _ e
  obtain ⟨gs0, hb0, hg0⟩ := N0.gens
  obtain ⟨gs1, hb1, hg1⟩ := N1.gens
  have hrl₁ := PL.at hrl fun o e => N0.kp _ o e
  have hrl₂ := PL.at hrl fun o e => k02 _ o e
  have hd0g : s₂.gens[d0.g]? = s₁.gens[d0.g]? := by
    rw [hg1, Array.getElem?_push, if_neg]
    rw [N0.g, hg0]; simp
  have S0 : Sl T h₀ L row xs s₂ d0 := N0.slot.grow hrl₁ hri hrT N1.kp hd0g
  have hl : (s₂.heap.push { cls := .type "list", data := .seq ([Value.ref d0.tup, .ref d1.tup] : List Value).toArray }).PlainList s₂.heap.objs.size ([Value.ref d0.tup, .ref d1.tup] : List Value).toArray := ⟨0, Heap.get?_push_size _ rfl⟩
  refine D₃.st fun s₄ D₄ k₄ => ?_
  have hsame : ∀ y : Str, y ≠ "states" → (fun y => if y = ("states" : Str) then some (Value.ref s₂.heap.objs.size) else m y) y = m y := fun y hy => if_neg hy
  have hst : (fun y => if y = ("states" : Str) then some (Value.ref s₂.heap.objs.size) else m y) "states" = some (.ref s₂.heap.objs.size) := if_pos rfl
  have D₄' : Mid h₀ L mg mb s₂ s₄ (fun y => if y = ("states" : Str) then some (Value.ref s₂.heap.objs.size) else m y) cm := D₄
  generalize (fun y => if y = ("states" : Str) then some (Value.ref s₂.heap.objs.size) else m y) = m₄ at D₄' hsame hst
  clear D₄
  have D₄ := D₄'
  have k24 : KB (LC L) s₂.heap s₄.heap := fun b o hb e => k₄ b o hb (kU b o e)
  have ty := N1.lf.typ
  have hg4 : s₄.gens = s₂.gens := by rw [D₄.eq]
  have hrow₄ := ty.list k24 hrl₂
  have hrow : ∃ vs : List Value, s₄.heap.IsList row vs.toArray ∧ IntsAre vs xs ∧ ∀ n t, Value.int n t ∈ vs → T n t := ⟨rvs, PL.isList hrow₄, hri, hrT⟩
  have k0 : KB (LC L) s.heap s₄.heap := fun b o hb e => k24 b o hb (k02 b o e)
  refine h s₄ ⟨m₄, cm, pl, s₂.heap.objs.size, pvs, rvs, xs, d0, d1⟩ ⟨D₄.lf, (hsame _ (by decide)).trans hth, (hsame _ (by decide)).trans hr, (hsame _ (by decide)).trans hp, hst, F.typ.tup k0 hT, hrow₄, hri, hrT, hpr, F.typ.list k0 hP, hpi, hnn, hz, fun q => ?_, k₄.list hl (D₃.list_off hl),
    S0.kbx (k24.mono fun x q => .tail _ q) ty hrl₂ S0.wv.off (by rw [hg4]) hrow, N1.slot.kbx (k24.mono fun x q => .tail _ q) ty hrl₂ N1.slot.wv.off (by rw [hg4]) hrow, ?_, fun b hb q => ?_, ?_⟩ hsame (fun b o e => D₄.lf.fr.keep b o e) ?_
  · obtain ⟨n, e⟩ := hrl₂
    exact absurd (Heap.lt_size e) (by rw [← q]; exact Nat.lt_irrefl _)
  · show d0.g ≠ d1.g
    rw [N0.g, N1.g, hg0]; simp
  · obtain ⟨o, ho⟩ := N0.slot.alive hb
    rw [N1.dead b q] at ho; cases ho
  · rw [hg4, hg1, hg0]; exact bare_push (bare_push hb hb0) hb1
  · rw [D₄.eq, N1.eq, N0.eq]
end

def lawArgs : Arguments := defArgs (topStmt 14)

section
variable {prog : Program} {w : World} {A : Around} {s s' s₀ : Shared} {mg mb : Str → Option Value} {E : Value → Shared → Prop} {h₀ h h' : Heap} {L row ths : Addr} {tvs : List Value} {z : Nat} {v : IV} {m cm : Str → Option Value} {T : Int → Tok → Prop}

theorem call_law {R : Result → Shared → Prop} {o : Obj} {pm doc : Value} {scr : Addr}
    (hroom : A.depth < recursionLimit) (ho : s.heap.get? 89 = some o) (hdata : o.data = .func (Calls.docDef "law" lawArgs lawBody lawScope pm (.ref 88) doc)) (hlim : s.heap.NoLimit) (hcd : s.heap.CodeRec (.ref 88) "law")
    (h : ∀ h₁, Fr s.heap s.heap.objs.size h₁ (fun y => if y = "script" then some (.ref scr) else none) → Cl s.heap.objs.size (cellsFrom (s.heap.objs.size + 1) lawScope.names []) h₁ (fun _ => none) →
      wpAny (model prog w) (A.deeper (lawEnv s.heap.objs.size)) (execs lawBody (lawEnv s.heap.objs.size)) (fun f s' => R (.ok (.ret (match f with | .ret v => v | _ => .none))) s')
        (fun e s' => wpAny (model prog w) (A.deeper (lawEnv s.heap.objs.size)) (leaving (lawEnv s.heap.objs.size) e) (fun _ s'' => R (.error e) s'') (fun e' s'' => R (.error e') s'') s') { s with heap := h₁, toks := s.toks + 1 }) :
    codeAny (model prog w) A (.call (.ref 89) ⟨[.ref scr], []⟩) R s := by
  refine codeAny_call_function (fd := Calls.docDef "law" lawArgs lawBody lawScope pm (.ref 88) doc) (body := lawBody) hroom ho hdata rfl rfl rfl hcd ?_
  have hb : bindArgs (Calls.docDef "law" lawArgs lawBody lawScope pm (.ref 88) doc) ⟨[.ref scr], []⟩ = (pure [("script", Value.ref scr)] : Sem (List (Str × Value))) := rfl
  rw [hb]
  refine wpAny_pure ?_
  show wpAny _ _ (newFunctionEnv lawScope _ [] [("script", Value.ref scr)] _ _ _ none _) _ _ _
  simp only [newFunctionEnv, Option.isSome_none, Bool.false_eq_true, if_false]
  refine wpAny_bind (wpAny_alloc ?_)
  refine wpAny_bind (wpAny_layCells _ (fun name kind cells => by cases kind == NameKind.cell <;> simp) _ _ _ _ ?_)
  have ok := cellsFrom_ok lawScope.names (s.heap.push { cls := .type "frame", data := .dict #[] }) (s.heap.objs.size + 1) [] ⟨fun _ _ hm => (nomatch hm), List.Pairwise.nil⟩ (by rw [Heap.size_push]; exact Nat.le_refl _)
  rw [Heap.size_push] at ok
  rw [show ({ s with heap := s.heap.push { cls := .type "frame", data := .dict #[] } } : Shared).heap.objs.size = s.heap.objs.size + 1 from Heap.size_push ..]
  rw [List.forIn_cons]
  have hkeep : ∀ b o, s.heap.get? b = some o → (pushCells (s.heap.push { cls := .type "frame", data := .dict #[] }) lawScope.names).get? b = some o := fun b o e => pushCells_keeps _ _ b o (Heap.get?_push_of_some _ e)
  have hns : (pushCells (s.heap.push { cls := .type "frame", data := .dict #[] }) lawScope.names).Ns s.heap.objs.size (fun _ => none) := (Heap.Ns.new s.heap (.type "frame")).keeps (pushCells_keeps _ _)
  refine wpAny_bind (wpAny_bind (wpAny_bind (wpAny_storeName_local (env := lawEnv s.heap.objs.size) rfl hns (fun h₁ hn₁ hs₁ => wpAny_pure ?_) rfl)))
  dsimp only
  rw [List.forIn_nil]
  have hk1 : ∀ b o, s.heap.get? b = some o → h₁.get? b = some o := fun b o e => hs₁.extBut b o (Nat.ne_of_lt (Heap.lt_size e)) (hkeep b o e)
  refine wpAny_pure (wpAny_pure ⟨hlim.keeps hk1, codeAny_func ?_⟩)
  have hC : Cl s.heap.objs.size (cellsFrom (s.heap.objs.size + 1) lawScope.names []) h₁ (fun _ => none) := ⟨fun n c hc => ((ok.empty n c (mem_of_lookup hc)).1).sameBut hs₁ (Nat.ne_of_gt (ok.empty n c (mem_of_lookup hc)).2), ok.apart, fun n c hm => (ok.empty n c hm).2⟩
  have F₁ : Fr s.heap s.heap.objs.size h₁ (fun y => if y = "script" then some (.ref scr) else none) := ⟨hn₁, hk1, Nat.le_refl _⟩
  exact @h h₁ F₁ hC

/-- the law answers True -/
theorem law_true {R : Result → Shared → Prop} {o : Obj} {pm doc : Value} {scr : Addr} {svs : List Value} {ns : List Int} (B : Base mg mb s.heap) (hh : A.handled = none) (hfr : A.frames = some []) (hd : A.depth + 3 < recursionLimit) (hu : A.units + 90 < cLine)
    (ho : s.heap.get? 89 = some o) (hdata : o.data = .func (Calls.docDef "law" lawArgs lawBody lawScope pm (.ref 88) doc)) (hcd : s.heap.CodeRec (.ref 88) "law")
    (hl : s.heap.IsList scr svs.toArray) (hi : IntsAre svs ns) (hz : svs.length ≤ 63) (hg : AllBare s.gens)
    (hR : ∀ s', (∀ b o, s.heap.get? b = some o → s'.heap.get? b = some o) → AllBare s'.gens → s'.os = s.os → R (.ok (.ret (.bool true))) s') :
    codeAny (model prog w) A (.call (.ref 89) ⟨[.ref scr], []⟩) R s := by
  refine call_law (Nat.lt_of_le_of_lt (Nat.le_add_right _ _) hd) ho hdata B.nolimit hcd fun h₁ F₁ C₁ => ?_
  have hh' : (A.deeper (lawEnv s.heap.objs.size)).handled = none := hh
  have hfr' : (A.deeper (lawEnv s.heap.objs.size)).frames = some [lawEnv s.heap.objs.size] := Around.frames_deeper hfr
  have hd' : (A.deeper (lawEnv s.heap.objs.size)).depth + 2 < recursionLimit := by show A.depth + 1 + 2 < recursionLimit; omega
  have hu' : (A.deeper (lawEnv s.heap.objs.size)).units + 80 < cLine := by show A.units + 3 + 80 < cLine; omega
  generalize A.deeper (lawEnv s.heap.objs.size) = A' at hh' hfr' hd' hu' ⊢
  have F : Lf s.heap s.heap.objs.size mg mb h₁ (fun y => if y = "script" then some (.ref scr) else none) (fun _ => none) := ⟨F₁, C₁, B.keeps F₁.keep, B.alive⟩
  generalize s.heap.objs.size = L at *
  have D : Mid s.heap L mg mb { s with heap := h₁, toks := s.toks + 1 } { s with heap := h₁, toks := s.toks + 1 } (fun y => if y = "script" then some (.ref scr) else none) (fun _ => none) := F.mid (s := { s with heap := h₁, toks := s.toks + 1 })
  have hsl : ∀ {s₁ : Shared} {m cm : Str → Option Value}, Mid s.heap L mg mb { s with heap := h₁, toks := s.toks + 1 } s₁ m cm → s₁.heap.IsList scr svs.toArray := fun D => by
    obtain ⟨ol, hol, r⟩ := hl
    exact ⟨ol, D.lf.fr.keep _ _ hol, r⟩
  show wpAny _ _ (execs (nth lawBody 0 :: nth lawBody 1 :: nth lawBody 2 :: nth lawBody 3 :: nth lawBody 4 :: nth lawBody 5 :: lawFor :: [nth lawBody 7]) _) _ _ _
  with_reducible refine wpAny_execs_cons ?_
  with_reducible refine st_pieces D fun s₁ pc D₁ k₁ ht₁ hP₁ => ?_
  dsimp only
  with_reducible refine wpAny_execs_cons ?_
  with_reducible refine st_things D₁ fun s₂ ths D₂ k₂ hT₂ => ?_
  dsimp only
  have K : TOk (TT (s.toks + 1) s₁.toks) := TT.ok (Nat.le_add_left _ _) ht₁
  have hP₂ := D₁.lf.typ.tup k₂ hP₁
  have hs₂ : (fun y => if y = ("things" : Str) then some (Value.ref ths) else (fun y => if y = ("script" : Str) then some (Value.ref scr) else none) y) "script" = some (.ref scr) := (if_neg (by decide)).trans (if_pos rfl)
  have hth₂ : (fun y => if y = ("things" : Str) then some (Value.ref ths) else (fun y => if y = ("script" : Str) then some (Value.ref scr) else none) y) "things" = some (.ref ths) := if_pos rfl
  generalize (fun y => if y = ("things" : Str) then some (Value.ref ths) else (fun y => if y = ("script" : Str) then some (Value.ref scr) else none) y) = m₂ at D₂ hs₂ hth₂
  have hp₂ : (fun y => if y = ("pieces" : Str) then some (Value.ref pc) else (fun _ => none) y) "pieces" = some (.ref pc) := if_pos rfl
  generalize (fun y => if y = ("pieces" : Str) then some (Value.ref pc) else (fun _ => none) y) = cm₂ at D₁ D₂ hp₂
  have hu64 : A'.units + 64 < cLine := by omega
  have hl₂ := hsl D₂
  with_reducible refine wpAny_execs_cons ?_
  with_reducible refine st_first D₂ hu64 hs₂ hl₂ hi fun s₃ fn ft D₃ k₃ => ?_
  dsimp only
  have hP₃ := D₂.lf.typ.tup k₃ hP₂
  have hT₃ := D₂.lf.typ.tup k₃ hT₂
  have hp₃ : (fun y => if y = ("first" : Str) then some (Value.int fn ft) else cm₂ y) "pieces" = some (.ref pc) := (if_neg (by decide)).trans hp₂
  have hf₃ : (fun y => if y = ("first" : Str) then some (Value.int fn ft) else cm₂ y) "first" = some (.int fn ft) := if_pos rfl
  generalize (fun y => if y = ("first" : Str) then some (Value.int fn ft) else cm₂ y) = cm₃ at D₃ hp₃ hf₃
  with_reducible refine wpAny_execs_cons ?_
  with_reducible refine st_plain D₃ hh' hp₃ hP₃ hf₃ fun s₄ pl pvs xs D₄ k₄ hp₄ hpi hx5 hpm => ?_
  dsimp only
  have hT₄ := D₃.lf.typ.tup k₄ hT₃
  have hpl₄ : upd "plain" (.ref pl) m₂ "plain" = some (.ref pl) := if_pos rfl
  have hs₄ : upd "plain" (.ref pl) m₂ "script" = some (.ref scr) := (if_neg (by decide)).trans hs₂
  have hth₄ : upd "plain" (.ref pl) m₂ "things" = some (.ref ths) := (if_neg (by decide)).trans hth₂
  generalize upd "plain" (.ref pl) m₂ = m₄ at D₄ hpl₄ hs₄ hth₄
  have hz₄ : pvs.length ≤ 1000 := by rw [hpi.length]; omega
  with_reducible refine wpAny_execs_cons ?_
  with_reducible refine st_row D₄ hpl₄ hp₄ hz₄ fun s₅ row D₅ k₅ hr₅ hrd => ?_
  dsimp only
  have hT₅ := D₄.lf.typ.tup k₅ hT₄
  have hp₅ := D₄.lf.typ.list k₅ hp₄
  have hpl₅ : upd "row" (.ref row) m₄ "plain" = some (.ref pl) := (if_neg (by decide)).trans hpl₄
  have hs₅ : upd "row" (.ref row) m₄ "script" = some (.ref scr) := (if_neg (by decide)).trans hs₄
  have hth₅ : upd "row" (.ref row) m₄ "things" = some (.ref ths) := (if_neg (by decide)).trans hth₄
  have hr₅' : upd "row" (.ref row) m₄ "row" = some (.ref row) := if_pos rfl
  generalize upd "row" (.ref row) m₄ = m₅ at D₅ hpl₅ hs₅ hth₅ hr₅'
  have hnn : ∀ n ∈ xs, 0 ≤ n := fun n hn => by
    obtain ⟨t, ht⟩ := ints_mem hpi n hn
    obtain ⟨i, hi', _⟩ := marked_mem (hpm n t ht)
    have : ∀ n ∈ pieces, 0 ≤ n := by decide
    exact this n (List.mem_of_getElem? hi')
  have hplr : pl ≠ row := fun q => by
    obtain ⟨n, e⟩ := hp₄
    rw [q, hrd] at e; cases e
  have hr0 : s.heap.get? row = none := D₄.dead hrd
  have hg₅ : AllBare s₅.gens := by rw [D₅.eq]; exact hg
  have hTT : ∀ n t, Value.int n t ∈ pvs → TT (s.toks + 1) s₁.toks n t := fun n t hn => .inl (hpm n t hn)
  have hd5 : A'.depth < recursionLimit := by omega
  have hx5' : xs.length ≤ 5 := Nat.le_of_eq hx5
  with_reducible refine wpAny_execs_cons ?_
  with_reducible refine st_inits (T := TT (s.toks + 1) s₁.toks) (z := 5) D₅.lf hd5 hth₅ hT₅ hr₅' hr₅ hpi hTT hpl₅ hplr hp₅ hpi hnn hx5' hg₅ fun s₆ v I₆ hm₆ hk₆ he₆ => ?_
  dsimp only
  have hl₆ : s₆.heap.IsList scr svs.toArray := by
    obtain ⟨ol, hol, r⟩ := hl
    exact ⟨ol, hk₆ _ _ hol, r⟩
  have hs₆ : v.m "script" = some (.ref scr) := (hm₆ _ (by decide)).trans hs₅
  have hmt : IntsAre (marked s₁.toks things) things := marked_ints _ _
  have hTT' : ∀ n t, Value.int n t ∈ marked s₁.toks things → TT (s.toks + 1) s₁.toks n t := fun n t hn => .inr hn
  with_reducible refine wpAny_execs_cons ?_
  with_reducible refine st_for K hmt hTT' hr0 hh' hfr' hd' hu' I₆ hs₆ hl₆ hi hz fun s₇ v₇ z₇ I₇ he₇ => ?_
  dsimp only
  have he : s₇.os = s.os := by rw [he₇, he₆, D₅.eq]
  have fin := hR s₇ I₇.lf.fr.keep I₇.bare he
  show wpAny _ _ (execs [.Return (some (.Constant (.bool true) _ _)) _] _) _ _ _
  refine wpAny_execs_cons (wpAny_Return_some (wpAny_Constant_bool fin))
end

/-- what the written part says of one def -/
def FnIn (K : Frag) (i : Nat) (f c : Addr) : Prop :=
  nsIn K mainGlobals (defName (topStmt i)) = some (some (.ref f)) ∧ (∃ o pm doc, K.lookup f = some o ∧ o.data = .func (docDef (defName (topStmt i)) (defArgs (topStmt i)) (defBody (topStmt i)) (defScope (topStmt i)) pm (.ref c) doc)) ∧ codeIn K (.ref c) (defName (topStmt i)) = true

theorem base_of {K : Frag} {h : Heap} {mg mb : Str → Option Value} (X : K.In h) (Tg : h.Ns mainGlobals mg) (Tb : h.Ns builtinsNs mb) (Tbu : ∀ x : Str, x ≠ "__name__" → mb x = bootBuiltins x) (Tn : h.NoLimit)
    (hc : ∃ t, nsIn K mainGlobals "CHAR_MAX" = some (some (.int 127 t))) (hfree : builtinNames.all (fun x => match nsIn K mainGlobals x with | some none => true | _ => false) = true) (hal : lowA.tail.all (fun b => (K.lookup b).isSome) = true)
    (hfn : ∀ p ∈ fnTab, FnIn K p.1 p.2.1 p.2.2) : Base mg mb h where
  g := Tg
  b := Tb
  builtins := Tbu
  nolimit := Tn
  charMax := let ⟨t, e⟩ := hc; ⟨t, mg_of X Tg e⟩
  free := fun x hx => mg_none_of X Tg (by
    have := List.all_eq_true.mp hfree x hx
    revert this
    cases nsIn K mainGlobals x with
    | none => exact fun q => nomatch q
    | some r => cases r with
      | none => exact fun _ => rfl
      | some v => exact fun q => nomatch q)
  fns := fun p hp => by
    obtain ⟨h1, ⟨o, pm, doc, ho, hd⟩, h3⟩ := hfn p hp
    exact ⟨mg_of X Tg h1, ⟨o, pm, doc, X _ _ ho, hd⟩, codeRec_of X h3⟩
  alive := fun b hb => by
    rcases List.mem_cons.mp (show b ∈ 0 :: lowA.tail from hb) with e | hb
    · obtain ⟨o, es, ep, ho, _⟩ := Tb
      exact ⟨o, e ▸ ho⟩
    · have := List.all_eq_true.mp hal b hb
      obtain ⟨o, ho⟩ := Option.isSome_iff_exists.mp this
      exact ⟨o, X _ _ ho⟩

/-- the law called where the written part of the heap stands -/
theorem law_of_K {prog : Program} {w : World} {K : Frag} {s : Shared} {mg mb : Str → Option Value} {R : Result → Shared → Prop} {scr : Addr} {svs : List Value} {ns : List Int} (X : K.In s.heap) (Tg : s.heap.Ns mainGlobals mg) (Tb : s.heap.Ns builtinsNs mb)
    (Tbu : ∀ x : Str, x ≠ "__name__" → mb x = bootBuiltins x) (Tn : s.heap.NoLimit)
    (hc : ∃ t, nsIn K mainGlobals "CHAR_MAX" = some (some (.int 127 t))) (hfree : builtinNames.all (fun x => match nsIn K mainGlobals x with | some none => true | _ => false) = true) (hal : lowA.tail.all (fun b => (K.lookup b).isSome) = true)
    (hfn : ∀ p ∈ fnTab, FnIn K p.1 p.2.1 p.2.2) (h89 : ∃ o pm doc, K.lookup 89 = some o ∧ o.data = .func (docDef "law" lawArgs lawBody lawScope pm (.ref 88) doc)) (hcd : codeIn K (.ref 88) "law" = true)
    (hL : s.heap.IsList scr svs.toArray) (hI : IntsAre svs ns) (hz : ns.length ≤ 63) (hg : s.gens = #[])
    (hR : ∀ s', (∀ b o, s.heap.get? b = some o → s'.heap.get? b = some o) → AllBare s'.gens → s'.os = s.os → R (.ok (.ret (.bool true))) s') :
    codeAny (model prog w) callerA (.call (.ref 89) ⟨[.ref scr], []⟩) R s := by
  obtain ⟨o, pm, doc, ho, hd⟩ := h89
  refine law_true (base_of X Tg Tb Tbu Tn hc hfree hal hfn) rfl rfl (by decide) (by decide) (X _ _ ho) hd (codeRec_of X hcd) hL hI (by rw [hI.length]; exact hz) (fun y hy => ?_) hR
  rw [hg] at hy; simp at hy

end Mine

set_option maxHeartbeats 8000000 in
theorem PySem.Challenge.cw_pg0036_01_holds : PySem.Challenge.rw_pg0036_01.Holds := by
  w_on
  o_law
  k_head
  case hw => w_witness2
  intro w s₀ s₁ mg mb G Y fa o pm cd doc dV kV ho hd hcd hD hmg hg args vals as hpre hlay hrd hwl hlo
  have KX := kIn_of Y
  clear hd hcd hD
  refine Ground.open G ?_
  intro T B D TE TW
  clear B D TE TW
  have hf89 : mg "law" = some (.ref 89) := mg_of KX T.g (by kernel_rfl)
  have hfa : fa = 89 := by
    have h1 : mg "law" = some (.ref fa) := hmg
    rw [hf89] at h1
    exact Value.ref.inj (Option.some.inj h1.symm)
  subst hfa
  clear hmg ho
  wrow_args hpre hlay hrd hwl hlo
  rename IntsAre _ _ => hI
  rename Heap.IsList _ _ _ => hL
  refine enter_call (Mine.law_of_K KX T.g T.b T.builtins T.nolimit ⟨_, rfl⟩ (by kernel_rfl) (by kernel_rfl) ?_ ⟨_, _, _, rfl, rfl⟩ (by kernel_rfl) hL hI (by omega) hg fun s' hk hb hos => ?_)
  · iterate 10 refine List.forall_mem_cons.mpr ⟨⟨by kernel_rfl, ⟨_, _, _, rfl, rfl⟩, by kernel_rfl⟩, ?_⟩
    exact fun p hp => nomatch hp
  · exact ⟨.inl ⟨_, _, [], rfl, fun _ => rfl, ReadsW.bool true, by first | rfl | wrow_post, fun _ => ⟨List.nodup_nil, fun _ hm => (nomatch hm)⟩⟩, .of_keep hk, hos, hb⟩
