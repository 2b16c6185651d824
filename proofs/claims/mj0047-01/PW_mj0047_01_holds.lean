import PyProof.Rows.All
import Wide.All
import OpenK.AllK
import Wide.FinOn
import PySem.Challenge.RW_mj0047_01
open PySem PySem.W PyProof.Rows PySem.Calls
set_option Elab.async false
set_option maxRecDepth 100000
set_option maxHeartbeats 8000000
set_option linter.unusedVariables false
set_option linter.unusedSimpArgs false
namespace Mine
open_top hd for PySem.Challenge.rw_mj0047_01


/-! the text's own defs, by their place in the given program -/
def fdBody : Stmt → List Stmt
  | .FunctionDef _ _ b _ _ _ _ _ _ _ => b
  | _ => []
def fdArgs : Stmt → Arguments
  | .FunctionDef _ a _ _ _ _ _ _ _ _ => a
  | _ => default
def fdScope : Stmt → Scope
  | .FunctionDef _ _ _ _ _ _ s _ _ _ => s
  | _ => default
noncomputable def stOf (i : Nat) : Stmt := (PySem.Challenge.pw_mj0047_01.main.body.drop i).headD (.Pass default)

abbrev nm (x : String) : Str := Str.ofString x
noncomputable abbrev pm0 : Value := .str (nm "law_mj0047_01") 357
noncomputable abbrev KF (P : Params) : Frag := hd.heap_39 P

noncomputable abbrev fnObj (x : String) (i : Nat) (pm : Value) (c : Addr) : Obj :=
  ⟨.type "function", none, .func (fnOf (nm x) (nm x) (fdArgs (stOf i)) (fdBody (stOf i)) (fdScope (stOf i)) .none .none .none pm none (.ref c) .none), #[]⟩

theorem look_escape (P : Params) : (KF P).lookup 26 = some (fnObj "escape" 2 (.str (nm "cpy313.re") 187) 25) := by kernel_rfl
theorem look_rev (P : Params) : (KF P).lookup 33 = some (fnObj "search_reverse" 4 (.str (nm "cpy313.idlelib.searchengine") 342) 32) := by kernel_rfl
theorem look_found (P : Params) : (KF P).lookup 40 = some (fnObj "_law_found" 6 pm0 39) := by kernel_rfl
theorem look_finder (P : Params) : (KF P).lookup 47 = some (fnObj "_law_finder" 7 pm0 46) := by kernel_rfl
theorem look_sign (P : Params) : (KF P).lookup 54 = some (fnObj "_law_sign" 8 pm0 53) := by kernel_rfl
theorem look_width (P : Params) : (KF P).lookup 61 = some (fnObj "_law_width" 9 pm0 60) := by kernel_rfl
theorem look_layers (P : Params) : (KF P).lookup 68 = some (fnObj "_law_layers" 10 pm0 67) := by kernel_rfl
theorem look_answers (P : Params) : (KF P).lookup 75 = some (fnObj "_law_answers" 11 pm0 74) := by kernel_rfl

/-! heaps -/
abbrev Le (h h' : Heap) : Prop := ∀ b o, h.get? b = some o → h'.get? b = some o
theorem Le.rfl {h : Heap} : Le h h := fun _ _ e => e
theorem Le.trans {a b c : Heap} (x : Le a b) (y : Le b c) : Le a c := fun q o e => y q o (x q o e)

/-- what the top left, in a heap -/
structure Wd (w : World) (mg mb : Str → Option Value) (h : Heap) : Prop where
  K : (KF w.params).In h
  g : h.Ns mainGlobals mg
  b : h.Ns builtinsNs mb
  bb : ∀ x : Str, x ≠ "__name__" → mb x = bootBuiltins x
  nl : h.NoLimit
  bm : ∃ bm ob, mg "__builtins__" = some (.ref bm) ∧ bm ≠ builtinsNs ∧ h.get? bm = some ob ∧ ob.cls = .type "module" ∧ ob.dict = some builtinsNs ∧ ob.data = .plain
theorem Wd.le {w : World} {mg mb : Str → Option Value} {h h' : Heap} (W : Wd w mg mb h) (k : Le h h') : Wd w mg mb h' :=
  ⟨W.K.keeps k, W.g.keeps k, W.b.keeps k, W.bb, W.nl.keeps k, let ⟨bm, ob, a, b, c, r⟩ := W.bm; ⟨bm, ob, a, b, k _ _ c, r⟩⟩

/-- a frame: its locals, and what else must stay -/
structure Fm (g : Heap) (L : Addr) (h : Heap) (m : Str → Option Value) : Prop where
  ns : h.Ns L m
  keep : Le g h
  gL : g.get? L = none
theorem Fm.le {g h h' : Heap} {L : Addr} {m : Str → Option Value} (F : Fm g L h m) (k : Le h h') : Fm g L h' m := ⟨F.ns.keeps k, F.keep.trans k, F.gL⟩
theorem Fm.set {g h h' : Heap} {L : Addr} {m m' : Str → Option Value} (F : Fm g L h m) (hn : h'.Ns L m') (hs : Heap.SameBut L h h') : Fm g L h' m' :=
  ⟨hn, fun b o e => (hs.2 b (fun q => by rw [q, F.gL] at e; cases e)).trans (F.keep b o e), F.gL⟩
/-- everything but the locals stays -/
theorem Fm.top {g h : Heap} {L : Addr} {m : Str → Option Value} (F : Fm g L h m) : Fm (h.hide L) L h m ∧ Le g (h.hide L) :=
  ⟨⟨F.ns, fun _ _ e => Heap.of_hide e, Heap.hide_self h L⟩, fun b o e => (Heap.hide_ne h (fun q => by rw [q, F.gL] at e; cases e)).trans (F.keep b o e)⟩

section
variable {M : Model} {A : Around} {E : Value → Shared → Prop} {s : Shared} {env : Env} {g : Heap} {m : Str → Option Value}
theorem n_loc {x : Str} {pos : Pos} {v : Value} {Q : Value → Shared → Prop} (F : Fm g env.locals s.heap m) (hv : m x = some v) (h : Q v s)
    (hk : env.scope.kind = .function := by kernel_rfl) (hl : env.kindOf x = some .local := by kernel_rfl) (hd : (x == ("__debug__" : Str)) = false := by kernel_rfl) :
    wpAny M A (eval (.Name x pos) env) Q E s := wpAny_Name (wpAny_loadName_local hk hl F.ns hv h) hd
theorem n_cell {x : Str} {pos : Pos} {v : Value} {c : Addr} {Q : Value → Shared → Prop} (hc : s.heap.IsCell c (some v)) (h : Q v s)
    (hx : env.cells.lookup x = some c := by first | assumption | kernel_rfl)
    (hk : env.scope.kind = .function := by kernel_rfl) (hl : env.kindOf x = some .cell := by kernel_rfl) (hd : (x == ("__debug__" : Str)) = false := by kernel_rfl) :
    wpAny M A (eval (.Name x pos) env) Q E s := wpAny_Name (wpAny_loadName_cell hk hl hx hc h) hd
theorem n_free {x : Str} {pos : Pos} {v : Value} {c : Addr} {Q : Value → Shared → Prop} (hc : s.heap.IsCell c (some v)) (h : Q v s)
    (hx : env.cells.lookup x = some c := by first | assumption | kernel_rfl)
    (hk : env.scope.kind = .function := by kernel_rfl) (hl : env.kindOf x = some .free := by kernel_rfl) (hd : (x == ("__debug__" : Str)) = false := by kernel_rfl) (hn : (x == ("__classdict__" : Str)) = false := by kernel_rfl) :
    wpAny M A (eval (.Name x pos) env) Q E s := wpAny_Name (wpAny_loadName_free hk hl hx hc h hn) hd
theorem n_glob {w : World} {mg mb : Str → Option Value} {x : Str} {pos : Pos} (v : Value) {Q : Value → Shared → Prop} (W : Wd w mg mb s.heap) (h : Q v s)
    (e : nsIn (KF w.params) mainGlobals x = some (some v) := by kernel_rfl) (hg : env.globals = mainGlobals := by kernel_rfl)
    (hk : env.scope.kind = .function := by kernel_rfl) (hl : env.kindOf x = some .globalImplicit := by kernel_rfl) (hd : (x == ("__debug__" : Str)) = false := by kernel_rfl) :
    wpAny M A (eval (.Name x pos) env) Q E s := Calls.Name_function_global hk hl (Calls.loadGlobal_global (by rw [hg]; exact W.g) (mg_of W.K W.g e) h) hd
theorem n_blt {w : World} {mg mb : Str → Option Value} {x : Str} {pos : Pos} (v : Value) {Q : Value → Shared → Prop} (W : Wd w mg mb s.heap) (hv : bootBuiltins x = some v) (h : Q v s)
    (e : nsIn (KF w.params) mainGlobals x = some none := by kernel_rfl) (hg : env.globals = mainGlobals := by kernel_rfl) (hb : env.builtins = builtinsNs := by kernel_rfl) (hn : x ≠ "__name__" := by decide +kernel)
    (hk : env.scope.kind = .function := by kernel_rfl) (hl : env.kindOf x = some .globalImplicit := by kernel_rfl) (hd : (x == ("__debug__" : Str)) = false := by kernel_rfl) :
    wpAny M A (eval (.Name x pos) env) Q E s :=
  Calls.Name_function_global hk hl (Calls.loadGlobal_builtin (by rw [hg]; exact W.g) (mg_none_of W.K W.g e) (by rw [hb]; exact W.b) ((W.bb x hn).trans hv) h) hd
theorem s_loc {x : Str} {v : Value} {Q : Unit → Shared → Prop} (F : Fm g env.locals s.heap m)
    (h : ∀ h' tk, Fm g env.locals h' (fun y => if y = x then some v else m y) → Heap.SameBut env.locals s.heap h' → Q () { s with heap := h', toks := tk })
    (hk : (env.scope.kind == .class || (env.scope.kind == .module && env.locals != env.globals)) = false := by kernel_rfl) (hl : env.kindOf x = some .local := by kernel_rfl) :
    wpAny M A (storeName env x v) Q E s := wpAny_storeName_local hl F.ns (fun h' hn hs => h h' _ (F.set hn hs) hs) hk
end

/-- a call of a def of the text without cells -/
theorem c_def {prog : Program} {w : World} {A : Around} {s : Shared} {E : Value → Shared → Prop} {Q : Value → Shared → Prop} {mg mb : Str → Option Value} {fd : FuncData} {f : Addr} {body : List Stmt} {args : List Value} {binds : List (Str × Value)}
    (W : Wd w mg mb s.heap) (hroom : A.depth < recursionLimit) (ho : (KF w.params).lookup f = some ⟨.type "function", none, .func fd, #[]⟩)
    (hbody : fd.body = .stmts body) (hbind : BindsTo s fd ⟨args, []⟩ binds)
    (h : ∀ h₁ tk, Fm s.heap s.heap.objs.size h₁ (fun x => binds.reverse.lookup x) →
      wpAny (model prog w) (A.deeper (callEnv fd s.heap.objs.size f)) (execs body (callEnv fd s.heap.objs.size f))
        (fun fl s' => Q (match fl with | .ret v => v | _ => .none) s') (fun _ _ => False) { s with heap := h₁, toks := tk })
    (hcd : codeIn (KF w.params) fd.code fd.qualname = true := by kernel_rfl) (hcell : (fd.scope.names.all fun x => x.2 != .cell) = true := by kernel_rfl)
    (hloc : (binds.all fun x => fd.scope.names.lookup x.1 == some .local) = true := by kernel_rfl)
    (hco : fd.scope.isCoroutine = false := by kernel_rfl) (hgen : fd.scope.isGenerator = false := by kernel_rfl) (hk : fd.scope.kind = .function := by kernel_rfl) :
    wpAny (model prog w) A (call (.ref f) args) Q E s := by
  refine wpAny_call (codeAny_call_def (fd := fd) (body := body) (binds := binds) hroom (W.K _ _ ho) _root_.rfl W.nl (codeRec_of W.K hcd) hbody hbind ?_ ?_ (fun h₁ hns hk₁ => ?_) hco hgen hk)
  · intro x hx; simpa using List.all_eq_true.mp hcell x hx
  · intro x hx; simpa using List.all_eq_true.mp hloc x hx
  · exact wpAny_mono (h h₁ _ ⟨hns, hk₁, by cases q : s.heap.get? s.heap.objs.size with | none => rfl | some o => exact absurd (Heap.lt_size q) (Nat.lt_irrefl _)⟩) (fun _ _ x => x) (fun _ _ x => x.elim)
section
variable {M : Model} {A : Around} {E : Value → Shared → Prop} {s : Shared} {env : Env}
theorem sh1 {l : Expr} {o : List CmpOp} {r : List Expr} {p : Pos} {x : Sem Value} {Q : Bool → Shared → Prop} (h : wpAny M A (isTrue (.Compare l o r p) env x) Q E s) : wpAny M A (isTrue (.Compare l o r p) env x) Q E s := h
theorem sh2 {l : Expr} {o : List CmpOp} {r : List Expr} {p : Pos} {Q : Value → Shared → Prop} (h : wpAny M A (eval (.Compare l o r p) env) Q E s) : wpAny M A (eval (.Compare l o r p) env) Q E s := h
theorem sh3 {f : Expr} {a : List Expr} {k : List Keyword} {p : Pos} {x : Sem Value} {Q : Bool → Shared → Prop} (h : wpAny M A x (fun v s₁ => wpAny M A (truthy v) Q E s₁) E s) : wpAny M A (isTrue (.Call f a k p) env x) Q E s := isTrue_plain h
theorem sh4 {n : Str} {p : Pos} {x : Sem Value} {Q : Bool → Shared → Prop} (h : wpAny M A x (fun v s₁ => wpAny M A (truthy v) Q E s₁) E s) : wpAny M A (isTrue (.Name n p) env x) Q E s := isTrue_plain h
theorem sh5 {v : Expr} {c : Const} {k : Nat} {p q : Pos} {Q : Value → Shared → Prop} (h : wpAny M A (eval v env) (fun o s₁ => wpAny M A (eval (.Constant c k p) env) (fun i s₂ => wpAny M A (subscriptTail v (.Constant c k p) o i) Q E s₂) E s₁) E s) : wpAny M A (eval (.Subscript v (.Constant c k p) q) env) Q E s := Subscript_ h
theorem sh6 {v : Expr} {n : Str} {p q : Pos} {Q : Value → Shared → Prop} (h : wpAny M A (eval v env) (fun o s₁ => wpAny M A (eval (.Name n p) env) (fun i s₂ => wpAny M A (subscriptTail v (.Name n p) o i) Q E s₂) E s₁) E s) : wpAny M A (eval (.Subscript v (.Name n p) q) env) Q E s := Subscript_ h
theorem sh7 {v l r : Expr} {o : Operator} {p q : Pos} {Q : Value → Shared → Prop} (h : wpAny M A (eval v env) (fun x s₁ => wpAny M A (eval (.BinOp l o r p) env) (fun i s₂ => wpAny M A (subscriptTail v (.BinOp l o r p) x i) Q E s₂) E s₁) E s) : wpAny M A (eval (.Subscript v (.BinOp l o r p) q) env) Q E s := Subscript_ h
theorem sh8 {v l : Expr} {o : UnaryOp} {p q : Pos} {Q : Value → Shared → Prop} (h : wpAny M A (eval v env) (fun x s₁ => wpAny M A (eval (.UnaryOp o l p) env) (fun i s₂ => wpAny M A (subscriptTail v (.UnaryOp o l p) x i) Q E s₂) E s₁) E s) : wpAny M A (eval (.Subscript v (.UnaryOp o l p) q) env) Q E s := Subscript_ h
theorem sh9 {n : Str} {p q : Pos} {a : List Expr} {Q : Value → Shared → Prop} (h : wpAny M A (eval (.Name n p) env) (fun f s₁ => wpAny M A (callWith q f [] (backTo q (starEach a env)) []) Q E s₁) E s) : wpAny M A (eval (.Call (.Name n p) a [] q) env) Q E s := Call_ h
theorem sh10 {o : Expr} {n : Str} {p q : Pos} {a : List Expr} {Q : Value → Shared → Prop} (h : wpAny M A (eval (.Call (.Attribute o n p) a [] q) env) Q E s) : wpAny M A (eval (.Call (.Attribute o n p) a [] q) env) Q E s := h
theorem sh11 {n : Str} {p q : Pos} {v : Expr} {Q : Flow → Shared → Prop} (h : wpAny M A (exec (.Assign [.Name n p] v q) env) Q E s) : wpAny M A (exec (.Assign [.Name n p] v q) env) Q E s := h
theorem sh12 {a b : Int} {t u : Tok} {Q : Value → Shared → Prop} (h : wpAny M A (binaryOp .FloorDiv (.int a t) (.int b u)) Q E s) : wpAny M A (binaryOp .FloorDiv (.int a t) (.int b u)) Q E s := h
theorem sh13 {p : Pos} {i : String} {a : List (Bool × Sem Value)} {k : List (Option Str × Sem Value)} {Q : Value → Shared → Prop} (h : wpAny M A (callWith p (.builtin i) [] a k) Q E s) : wpAny M A (callWith p (.builtin i) [] a k) Q E s := h
theorem sh14 {p : Pos} {i : String} {a : List (Bool × Sem Value)} {k : List (Option Str × Sem Value)} {Q : Value → Shared → Prop} (h : wpAny M A (callWith p (.type i) [] a k) Q E s) : wpAny M A (callWith p (.type i) [] a k) Q E s := h
theorem sh15 {p : Pos} {i : String} {f : List Value} {a : List (Bool × Sem Value)} {k : List (Option Str × Sem Value)} {Q : Value → Shared → Prop} (h : wpAny M A (callWith p (.builtin i) f a k) Q E s) : wpAny M A (callWith p (.builtin i) f a k) Q E s := h
theorem sh16 {p : Pos} {e : Expr} {r : List Expr} {Q : List Value → Shared → Prop} (h : wpAny M A (spliced (backTo p (starEach (e :: r) env))) Q E s) : wpAny M A (spliced (backTo p (starEach (e :: r) env))) Q E s := h
theorem sh17 {n : Str} {p : Pos} {Q : Value → Shared → Prop} (h : wpAny M A (eval (.Name n p) env) Q E s) : wpAny M A (eval (.Name n p) env) Q E s := h
end
set_option compiler.extract_closed false
local macro_rules | `(tactic| walk_at "get") => `(tactic| ((try dsimp only); (repeat (first | rw [if_neg (by decide)] | rw [if_pos rfl])); first | done | assumption | rfl))
local macro_rules | `(tactic| walk_at "mj") => `(tactic| first
  | (with_reducible first
    | refine wpAny_execs_cons ?_
    | refine wpAny_execs_nil ?_
    | refine wpAny_Return_some ?_
    | refine wpAny_If ?_
    | refine sh3 ?_
    | refine sh4 ?_
    | refine isTrue_not ?_
    | refine isTrue_and ?_
    | refine isTrue_and_nil ?_
    | refine isTrue_or ?_
    | refine isTrue_or_nil ?_
    | refine wpAny_BinOp ?_
    | refine wpAny_Constant_int ?_
    | refine wpAny_Constant_str ?_
    | refine wpAny_Constant_none ?_
    | refine wpAny_Constant_bool ?_
    | refine sh5 ?_
    | refine sh6 ?_
    | refine sh7 ?_
    | refine sh8 ?_
    | refine sh9 ?_
    | refine wpAny_truthy_bool ?_
    | refine PyProof.Rows.eq_int ?_
    | refine PyProof.Rows.lt_int ?_
    | refine PyProof.Rows.le_int ?_
    | refine PyProof.Rows.add_int ?_
    | refine PyProof.Rows.sub_int ?_
    | refine PyProof.Rows.mod_int (by decide) ?_
    | refine spliced_none ?_)
  | ((with_reducible refine sh1 ?_); refine wpAny_isTrue_Compare1 ?_)
  | ((with_reducible refine sh10 ?_); refine MethodCall_ ?_)
  | ((with_reducible refine sh11 ?_); refine wpAny_Assign_Name ?_)
  | ((with_reducible refine sh12 ?_); refine PyProof.Rows.floordiv_int (by decide) ?_)
  | ((with_reducible refine sh13 ?_); refine PyProof.Rows.callWith_builtin1 ?_)
  | ((with_reducible refine sh14 ?_); refine PyProof.Rows.callWith_type1 ?_)
  | ((with_reducible refine sh15 ?_); refine PyProof.Rows.callWith_method1 ?_)
  | ((with_reducible refine sh16 ?_); refine spliced_more ?_)
  | ((with_reducible refine sh17 ?_); first | refine n_loc (by assumption) rfl ?_ | refine n_loc (by assumption) (by walk_at "get") ?_))

def signOf (x : Int) : Str := if Int.fmod x 3 = 0 then nm "\\" else if Int.fmod x 3 = 1 then Txt.item (nm ".a") (Int.fmod (Int.fdiv x 3) 2) else ⟨#[(Int.fmod (Int.fdiv x 3) 256).toNat]⟩

theorem fmod_bounds (a : Int) {n : Int} (h : 0 < n) : 0 ≤ Int.fmod a n ∧ Int.fmod a n < n := ⟨fmod_lo a h, fmod_hi a h⟩

theorem call_sign {prog : Program} {w : World} {A : Around} {s : Shared} {E : Value → Shared → Prop} {Q : Value → Shared → Prop} {mg mb : Str → Option Value} {x : Int} {t : Tok}
    (W : Wd w mg mb s.heap) (hroom : A.depth < recursionLimit) (h : ∀ u h' tk, Le s.heap h' → Q (.str (signOf x) u) { s with heap := h', toks := tk }) :
    wpAny (model prog w) A (call (.ref 54) [.int x t]) Q E s := by
  refine c_def W hroom (look_sign w.params) rfl (binds := [(nm "x", .int x t)]) (BindsTo.of_eq rfl) ?_
  intro h₁ tk F
  have W1 := W.le F.keep
  generalize s.heap.objs.size = L at F ⊢
  show wpAny _ _ (execs (_ :: _ :: _ :: _) _) _ _ _
  repeat (walk_at "mj")
  refine split_dec (fun h1 => ?_) (fun h1 => ?_)
  · repeat (walk_at "mj")
    have := fun u tk => h u h₁ tk F.keep
    rw [signOf, if_pos h1] at this
    exact this _ _
  · dsimp only
    repeat (walk_at "mj")
    refine split_dec (fun h2 => ?_) (fun h2 => ?_)
    · repeat (walk_at "mj")
      have hb := fmod_bounds (Int.fdiv x 3) (n := 2) (by decide)
      refine item_str (fitsSsize_of (N := 9223372036854775808) (by omega) (by omega) (Int.le_refl _)) ?_ ?_ ?_
      · rw [show (Str.ofString ".a").length = 2 from rfl]; omega
      · rw [show (Str.ofString ".a").length = 2 from rfl]; omega
      · intro _
        have := fun u tk => h u h₁ tk F.keep
        rw [signOf, if_neg h1, if_pos h2] at this
        exact this _ _
    · repeat (walk_at "mj")
      refine n_blt (.builtin "chr") W1 PyProof.Rows.boot_chr ?_
      repeat (walk_at "mj")
      have hb := fmod_bounds (Int.fdiv x 3) (n := 256) (by decide)
      refine chr_of_range (by omega) (by omega) ?_
      have := fun u tk => h u h₁ tk F.keep
      rw [signOf, if_neg h1, if_neg h2] at this
      exact this _ _

/-! new objects -/
theorem none_at_size (h : Heap) : h.get? h.objs.size = none := by
  cases q : h.get? h.objs.size with
  | none => rfl
  | some o => exact absurd (Heap.lt_size q) (Nat.lt_irrefl _)
theorem le_push (h : Heap) (o : Obj) : Le h (h.push o) := fun _ _ e => Heap.get?_push_of_some o e
section
variable {M : Model} {A : Around} {E : Value → Shared → Prop} {s : Shared}
theorem new_list {vs : List Value} {Q : Value → Shared → Prop} (h : ∀ a h', s.heap.get? a = none → Le s.heap h' → h'.PlainList a vs.toArray → Q (.ref a) { s with heap := h' })
    (hsz : vs.length ≤ sizeLine := by size_fits) : wpAny M A (newList vs) Q E s :=
  wpAny_newObj_type (h _ _ (none_at_size _) (le_push _ _) ⟨_, Heap.get?_push_size _ rfl⟩) (by show vs.toArray.size ≤ sizeLine; rw [List.size_toArray]; exact hsz)
theorem new_tuple {vs : List Value} {Q : Value → Shared → Prop} (h : ∀ a h', s.heap.get? a = none → Le s.heap h' → h'.get? a = some { cls := .type "tuple", data := .seq vs.toArray } → Q (.ref a) { s with heap := h' })
    (hsz : vs.length ≤ sizeLine := by size_fits) : wpAny M A (newTuple vs) Q E s :=
  wpAny_newObj_type (h _ _ (none_at_size _) (le_push _ _) (Heap.get?_push_size _ rfl)) (by show vs.toArray.size ≤ sizeLine; rw [List.size_toArray]; exact hsz)
end

def codeList : List Int := [9, 10, 11, 12, 13, 32, 35, 36, 38, 40, 41, 42, 43, 45, 46, 63, 91, 92, 93, 94, 123, 124, 125, 126]

theorem call_width {prog : Program} {w : World} {A : Around} {s : Shared} {E : Value → Shared → Prop} {Q : Value → Shared → Prop} {mg mb : Str → Option Value} {x : Str} {t : Tok} {l : Int} {u : Tok}
    (W : Wd w mg mb s.heap) (hroom : A.depth < recursionLimit) (hx : x.length = 1) (hl : 0 ≤ l ∧ l ≤ 64)
    (h : ∀ u h' tk, Le s.heap h' → Q (.int (if codeList.any (· == (x.cps.getD 0 0 : Nat)) then 2 ^ l.toNat else 1) u) { s with heap := h', toks := tk }) :
    wpAny (model prog w) A (call (.ref 61) [.str x t, .int l u]) Q E s := by
  refine c_def W hroom (look_width w.params) rfl (binds := [(nm "sign", .str x t), (nm "layers", .int l u)]) (BindsTo.of_eq rfl) ?_
  intro h₁ tk F
  have W1 := W.le F.keep
  generalize s.heap.objs.size = L at F ⊢
  show wpAny _ _ (execs (_ :: _ :: _) _) _ _ _
  repeat (walk_at "mj")
  refine PyProof.Rows.List_ ?_
  repeat (walk_at "mj")
  refine new_list (fun a h₂ ha k₂ hl₂ => ?_)
  have hne : a ≠ L := by rintro rfl; obtain ⟨o, _, _, ho, _⟩ := F.ns; rw [ho] at ha; cases ha
  have F2 := F.le k₂
  refine s_loc F2 (fun h₃ tk₃ F3 hs₃ => ?_)
  have hl₃ := hl₂.extBut hs₃.extBut hne
  have W3 := W.le F3.keep
  dsimp only
  repeat (walk_at "mj")
  refine wpAny_IfExp ?_
  repeat (walk_at "mj")
  refine n_blt (.builtin "ord") W3 PyProof.Rows.boot_ord ?_
  repeat (walk_at "mj")
  refine PyProof.Rows.ord_of_one hx ?_
  repeat (walk_at "mj")
  refine in_list_ints (ns := codeList) hl₃.isList (by unfold codeList; repeat (first | exact IntsAre.nil | refine IntsAre.cons _ _ ?_)) ?_
  repeat (walk_at "mj")
  refine split_bool (fun h1 => ?_) (fun h1 => ?_)
  · repeat (walk_at "mj")
    refine pow_int_small hl.1 (by omega) (by decide) ?_
    have := fun u tk => h u h₃ tk F3.keep
    rw [h1, if_pos rfl] at this
    exact this _ _
  · repeat (walk_at "mj")
    have := fun u tk => h u h₃ tk F3.keep
    rw [h1, if_neg (by decide)] at this
    exact this _ _

/-! the table of special signs, and str.translate by it -/
def spec (c : Nat) : Bool := codeList.any (· == (c : Int))
noncomputable def es16 (P : Params) : Array DictEntry := match (KF P).lookup 16 with
  | some ⟨_, _, .dict es _, _⟩ => es
  | _ => #[]
theorem look16 (P : Params) : (KF P).lookup 16 = some ⟨.type "dict", none, .dict (es16 P) 24, #[]⟩ := by kernel_rfl
def entryOk (e : DictEntry) : Bool := match e.key, e.val with
  | .int i _, .str v _ => decide (0 ≤ i) && codeList.contains i && decide (v = ⟨#[92, i.toNat]⟩) && decide (e.hash = hashInt i)
  | _, _ => false
theorem es16_ok (P : Params) : (es16 P).toList.all entryOk = true := by kernel_rfl
theorem es16_has (P : Params) : (codeList.all fun i => (es16 P).toList.any fun e => Value.isInt i e.key) = true := by kernel_rfl
theorem entry_of {e : DictEntry} (h : entryOk e = true) : ∃ i t u, e.key = .int i t ∧ e.val = .str ⟨#[92, i.toNat]⟩ u ∧ 0 ≤ i ∧ codeList.contains i = true ∧ e.hash = hashInt i := by
  unfold entryOk at h
  split at h
  · rename_i i t v u hk hv
    simp only [Bool.and_eq_true, decide_eq_true_eq] at h
    exact ⟨i, t, u, hk, by rw [hv, h.1.2], h.1.1.1, h.1.1.2, h.2⟩
  · cases h
theorem map16 {prog : Program} {w : World} {mg mb : Str → Option Value} {h : Heap} (W : Wd w mg mb h) : h.MapOf (intKind prog w) 16 (fun k => findBy Value.isInt (es16 w.params) k) :=
  ⟨_, es16 w.params, 24, W.K _ _ (look16 _), ⟨rfl, rfl, rfl⟩, rfl, fun e he => by
    obtain ⟨i, t, u, hk, _, _, _, hh⟩ := entry_of (List.all_eq_true.mp (es16_ok w.params) e (Array.mem_toList_iff.mpr he))
    exact ⟨i, by rw [hk]; exact intKind_is prog w i t, hh⟩, fun _ => rfl⟩
theorem find16_yes (P : Params) {c : Nat} (h : spec c = true) : ∃ u, findBy Value.isInt (es16 P) (c : Int) = some (.str ⟨#[92, c]⟩ u) := by
  have hc : codeList.contains (c : Int) = true := by
    simp only [spec, List.any_eq_true, beq_iff_eq] at h
    obtain ⟨x, hx, rfl⟩ := h
    simpa using hx
  have h2 := List.all_eq_true.mp (es16_has P) c (by simpa using hc)
  unfold findBy
  rw [← Array.find?_toList]
  cases hf : (es16 P).toList.find? (fun e => Value.isInt (c : Int) e.key) with
  | none =>
    rw [List.find?_eq_none] at hf
    rw [List.any_eq_true] at h2
    obtain ⟨e, he, h3⟩ := h2
    exact absurd h3 (hf e he)
  | some e =>
    have hm := List.mem_of_find?_eq_some hf
    have hp := List.find?_some hf
    obtain ⟨i, t, u, hk, hv, _⟩ := entry_of (List.all_eq_true.mp (es16_ok P) e hm)
    rw [hk] at hp
    have : i = (c : Int) := by simpa [Value.isInt] using hp
    subst this
    exact ⟨u, by simp [hv]⟩
theorem find16_no (P : Params) {c : Nat} (h : spec c = false) : findBy Value.isInt (es16 P) (c : Int) = none := by
  unfold findBy
  rw [← Array.find?_toList]
  cases hf : (es16 P).toList.find? (fun e => Value.isInt (c : Int) e.key) with
  | none => rfl
  | some e =>
    exfalso
    have hm := List.mem_of_find?_eq_some hf
    have hp := List.find?_some hf
    obtain ⟨i, t, u, hk, hv, _, hi, _⟩ := entry_of (List.all_eq_true.mp (es16_ok P) e hm)
    rw [hk] at hp
    have : i = (c : Int) := by simpa [Value.isInt] using hp
    subst this
    have : spec c = true := by
      simp only [spec, List.any_eq_true, beq_iff_eq]
      exact ⟨(c : Int), by simpa using hi, rfl⟩
    rw [h] at this; cases this
open Builtin.Str in
theorem look_sign16 {prog : Program} {w : World} {A : Around} {s : Shared} {E : Value → Shared → Prop} {Q : Mapped → Shared → Prop} {mg mb : Str → Option Value} {c : Nat}
    (W : Wd w mg mb s.heap) (hh : A.handled = none) (h : ∀ h' tk, Le s.heap h' → Q (if spec c then .text ⟨#[92, c]⟩ else .keep) { s with heap := h', toks := tk }) :
    wpAny (model prog w) A (tableLookup (.ref 16) c) Q E s := by
  unfold tableLookup
  refine wpAny_bind (wpAny_attempt (wpAny_bind (wpAny_mkInt ?_)))
  cases hs : spec c with
  | true =>
    obtain ⟨u, hu⟩ := find16_yes w.params hs
    refine wpAny_getItem_of (intKind_is prog w c _) (map16 W) hu ?_
    dsimp only
    have := h s.heap (s.toks + 1 + 1) Le.rfl
    rw [hs, if_pos rfl] at this
    refine wpAny_bind (wpAny_of_eq (a := none) rfl ?_)
    dsimp only
    refine wpAny_bind (wpAny_of_eq (a := some ⟨#[92, c]⟩) rfl ?_)
    exact wpAny_pure this
  | false =>
    refine wpAny_getItem_missing_of (intKind_is prog w c _) (by decide) hh (map16 W) (find16_no _ hs) ?_
    intro h' e hx
    dsimp only
    obtain ⟨k1, _, o, _, he, hc, _⟩ := hx
    refine wpAny_bind (wpAny_isInstance (T := "KeyError") (b := true) ⟨_, he, hc⟩ (by rw [isSubtype_type]; kernel_rfl) ?_)
    rw [if_pos rfl]
    refine wpAny_bind (wpAny_rule (wpAny_pure ?_))
    have := h h' (s.toks + 1 + 1) k1
    rw [hs, if_neg (by decide)] at this
    exact this

def escL (l : List Nat) : List Nat := l.flatMap fun c => if spec c then [92, c] else [c]
theorem escL_snoc (l : List Nat) (c : Nat) : escL (l ++ [c]) = escL l ++ (if spec c then [92, c] else [c]) := by simp [escL]
theorem escL_append (a b : List Nat) : escL (a ++ b) = escL a ++ escL b := by simp [escL]
theorem escL_cons (c : Nat) (l : List Nat) : escL (c :: l) = (if spec c then [92, c] else [c]) ++ escL l := by simp [escL]
theorem escL_nil : escL [] = [] := rfl
theorem escL_len (l : List Nat) : (escL l).length ≤ 2 * l.length := by
  induction l with
  | nil => simp [escL]
  | cons c l ih => rw [escL_cons, List.length_append, List.length_cons]; split <;> simp only [List.length_cons, List.length_nil] <;> omega
def catP (ps : List Str) : Array Nat := ps.reverse.foldl (fun acc p => acc ++ p.cps) #[]
theorem catP_cons (p : Str) (ps : List Str) : (catP (p :: ps)).toList = (catP ps).toList ++ p.cps.toList := by simp [catP, List.foldl_append]
theorem lookup_mem {α β : Type} [BEq α] [LawfulBEq α] {l : List (α × β)} {a : α} {b : β} (h : l.lookup a = some b) : (a, b) ∈ l := by
  induction l with
  | nil => cases h
  | cons p l ih =>
    obtain ⟨k, v⟩ := p
    rw [List.lookup_cons] at h
    split at h
    · rename_i e
      cases h
      rw [eq_of_beq e]
      exact .head _
    · exact .tail _ (ih h)
theorem tooLong_no {n : Nat} (h : n ≤ 100000) : Builtin.Str.tooLong n = false := by
  unfold Builtin.Str.tooLong
  rw [decide_eq_false_iff_not, sizeLine_eq]; omega

open Builtin.Str in
theorem do_translate {prog : Program} {w : World} {A : Around} {s : Shared} {E : Value → Shared → Prop} {Q : Fin → Shared → Prop} {mg mb : Str → Option Value} {x : Str} {t : Tok}
    (W : Wd w mg mb s.heap) (hh : A.handled = none) (hx : x.length ≤ 1000) (h : ∀ u h' tk, Le s.heap h' → Q (.done (.ret (.str ⟨(escL x.cps.toList).toArray⟩ u))) { s with heap := h', toks := tk }) :
    wpAny (model prog w) A (Builtin.«str.translate» ⟨[.str x t, .ref 16], []⟩) Q E s := by
  unfold Builtin.«str.translate»
  refine wpAny_bind (wpAny_of_eq (a := (.str x t, x, .ref 16)) rfl ?_)
  dsimp only
  have hxs : x.cps.toList.length ≤ 1000 := hx
  split
  · rename_i h0
    have e0 : x.cps = #[] := by
      have : x.cps.size = 0 := beq_iff_eq.mp h0
      exact Array.eq_empty_of_size_eq_zero this
    refine wpAny_bind (wpAny_rule (wpAny_bind (wpAny_of_eq (a := .str x t) rfl (wpAny_pure ?_))))
    have := h t s.heap s.toks Le.rfl
    rw [show (⟨(escL x.cps.toList).toArray⟩ : Str) = x by obtain ⟨c⟩ := x; dsimp only at e0; subst e0; rfl] at this
    exact this
  · refine wpAny_bind (forIn_array_ _ (fun rest b s' => ∃ done, x.cps.toList = done ++ rest ∧ b.2.1 = (escL done).length ∧ (catP b.1).toList = escL done ∧ (∀ p ∈ b.2.2.2.1, p.2 = some p.1 ∧ spec p.1 = false) ∧ b.2.2.2.2 = false ∧
      ∃ h' tk, s' = { s with heap := h', toks := tk } ∧ Le s.heap h') _ ?_ ?_ x.cps _ ⟨[], rfl, rfl, rfl, by simp, rfl, s.heap, s.toks, rfl, Le.rfl⟩)
    · rintro c rest ⟨pieces, total, fast, known, ad⟩ s' ⟨done, e1, e2, e3, e4, e5, h', tk, rfl, k⟩
      dsimp only at e2 e3 e4 e5 ⊢
      subst e5
      have hl : total ≤ 100000 := by
        have h1 := escL_len done
        have h2 : done.length ≤ 1000 := by have := hxs; rw [e1] at this; simp at this; omega
        omega
      rw [tooLong_no hl]
      have W' := W.le k
      have e1' : x.cps.toList = (done ++ [c]) ++ rest := by rw [e1]; simp
      -- the slow road
      have slow : ∀ (kn : List (Nat × Option Nat)) (h2 : Heap) (tk2 : Nat), (∀ p ∈ kn, p.2 = some p.1 ∧ spec p.1 = false) → Le s.heap h2 →
          wpAny (model prog w) A (do
            match ← tableLookup (.ref 16) c with
            | .keep => pure (ForInStep.yield (⟨#[c]⟩ :: pieces, total + 1, false, kn, false))
            | .drop => pure (ForInStep.yield (pieces, total, false, kn, true))
            | .char d => pure (ForInStep.yield (⟨#[d]⟩ :: pieces, total + 1, false, kn, false))
            | .text t => pure (ForInStep.yield (t :: pieces, total + t.length, false, kn, false)))
            (fun r s' => match r with
              | .yield b' => ∃ done, x.cps.toList = done ++ rest ∧ b'.2.1 = (escL done).length ∧ (catP b'.1).toList = escL done ∧ (∀ p ∈ b'.2.2.2.1, p.2 = some p.1 ∧ spec p.1 = false) ∧ b'.2.2.2.2 = false ∧
                  ∃ h' tk, s' = { s with heap := h', toks := tk } ∧ Le s.heap h'
              | .done b' => False) E { s with heap := h2, toks := tk2 } := by
        intro kn h2 tk2 hkn k2
        refine wpAny_bind (look_sign16 (W.le k2) hh ?_)
        intro h3 tk3 k3
        dsimp only at k3 ⊢
        cases hs : spec c with
        | true =>
          rw [if_pos rfl]
          refine wpAny_pure ⟨done ++ [c], e1', ?_, ?_, hkn, rfl, h3, tk3, rfl, k2.trans k3⟩
          · dsimp only; rw [escL_snoc, hs, e2]; simp; rfl
          · dsimp only; rw [catP_cons, e3, escL_snoc, hs]; rfl
        | false =>
          rw [if_neg (by decide)]
          refine wpAny_pure ⟨done ++ [c], e1', ?_, ?_, hkn, rfl, h3, tk3, rfl, k2.trans k3⟩
          · dsimp only; rw [escL_snoc, hs, e2]; simp
          · dsimp only; rw [catP_cons, e3, escL_snoc, hs]; rfl
      cases fast with
      | false =>
        simp only [Bool.false_eq_true, if_false]
        exact wpAny_mono (slow known h' tk e4 k) (fun r _ hr => by cases r with | done => exact hr.elim | yield => exact hr) fun _ _ y => y
      | true =>
        simp only [Bool.false_eq_true, if_false, if_true]
        cases hlk : known.lookup c with
        | some a =>
          have hm := e4 _ (lookup_mem hlk)
          dsimp only at hm
          rw [hm.1]
          dsimp only
          refine wpAny_bind (wpAny_pure (wpAny_pure ⟨done ++ [c], e1', ?_, ?_, e4, rfl, h', tk, rfl, k⟩))
          · dsimp only; rw [escL_snoc, hm.2, e2]; simp
          · dsimp only; rw [catP_cons, e3, escL_snoc, hm.2]; rfl
        | none =>
          dsimp only
          refine wpAny_bind (look_sign16 W' hh ?_)
          intro h3 tk3 k3
          dsimp only at k3 ⊢
          cases hs : spec c with
          | true =>
            rw [if_pos rfl]
            refine wpAny_bind (wpAny_pure (wpAny_bind (wpAny_rule ?_)))
            exact wpAny_mono (slow known h3 tk3 e4 (k.trans k3)) (fun r _ hr => by cases r with | done => exact hr.elim | yield => exact hr) fun _ _ y => y
          | false =>
            rw [if_neg (by decide)]
            refine wpAny_bind (wpAny_pure (wpAny_pure ⟨done ++ [c], e1', ?_, ?_, ?_, rfl, h3, tk3, rfl, k.trans k3⟩))
            · dsimp only; rw [escL_snoc, hs, e2]; simp
            · dsimp only; rw [catP_cons, e3, escL_snoc, hs]; rfl
            · intro p hp
              rcases List.mem_cons.mp hp with rfl | hp
              · exact ⟨rfl, hs⟩
              · exact e4 p hp
    · rintro ⟨pieces, total, fast, known, ad⟩ s' ⟨done, e1, e2, e3, e4, e5, h', tk, rfl, k⟩
      dsimp only at e2 e3 ⊢
      rw [List.append_nil] at e1
      have hle := escL_len done
      rw [← e1] at hle e3 e2
      rw [tooLong_no (by omega)]
      simp only [Bool.false_eq_true, if_false]
      refine wpAny_bind (wpAny_mkStr (wpAny_pure ?_) ?_)
      · have := h tk h' (tk + 1) k
        rw [← e3] at this
        exact this
      · show (catP pieces).size ≤ sizeLine
        rw [← Array.length_toList, e3, sizeLine_eq]; omega

/-! latin1, both ways -/
theorem forIn_range_ {M : Model} {A : Around} {E : Value → Shared → Prop} {s : Shared} {β : Type} (n : Nat) (f : Nat → β → Sem (ForInStep β)) (I : Nat → β → Shared → Prop) (Q : β → Shared → Prop)
    (turn : ∀ k b s, k < n → I k b s → wpAny M A (f k b) (fun r s' => match r with | .yield b' => I (k + 1) b' s' | .done b' => Q b' s') E s)
    (fin : ∀ b s, I n b s → Q b s) (b : β) (h : I 0 b s) : wpAny M A (forIn [0:n] b f) Q E s := by
  rw [KPc.range_list]
  refine wpAny_forIn_list f (fun rest b s => rest = List.range' (n - rest.length) rest.length ∧ rest.length ≤ n ∧ I (n - rest.length) b s) Q ?_ ?_ _ b ?_
  · rintro x rest b s ⟨h1, h2, h3⟩
    simp only [List.length_cons] at h1 h2 h3
    rw [List.range'_succ, List.cons.injEq] at h1
    have hx : x = n - (rest.length + 1) := h1.1
    subst hx
    refine wpAny_mono (turn _ b s (by omega) h3) (fun r s' hr => ?_) fun _ _ y => y
    cases r with
    | done b' => exact hr
    | yield b' =>
      have e : n - (rest.length + 1) + 1 = n - rest.length := by omega
      rw [e] at hr
      refine ⟨?_, by omega, hr⟩
      have := h1.2
      rw [e] at this
      exact this
  · rintro b s ⟨-, -, h3⟩
    exact fin b s h3
  · refine ⟨by simp, by simp, ?_⟩
    simpa using h

def octs (l : List Nat) : Array UInt8 := (l.map fun c => c.toUInt8).toArray
theorem octs_foldl (l : List Nat) (acc : Array UInt8) : l.foldl (fun acc y => acc ++ [y.toUInt8].toArray) acc = acc ++ octs l := by
  induction l generalizing acc with
  | nil => simp [octs]
  | cons c l ih => rw [List.foldl_cons, ih]; simp [octs]

open Builtin._codecs in
theorem encodeNarrow_latin {prog : Program} {w : World} {A : Around} {s : Shared} {E : Value → Shared → Prop} {Q : Array UInt8 → Shared → Prop} {id : String} {self : Value} {x : Str}
    (hx : ∀ c ∈ x.cps.toList, c < 256) (hl : x.length ≤ 100000) (h : Q (octs x.cps.toList) s) : wpAny (model prog w) A (encodeNarrow id latin1Codec none self x) Q E s := by
  unfold encodeNarrow
  have hbad : x.cps.findIdx? latin1Codec.bad = none := by
    rw [Array.findIdx?_eq_none_iff]
    intro c hc
    have := hx c (Array.mem_toList_iff.mpr hc)
    show decide (c ≥ 256) = false
    rw [decide_eq_false_iff_not]; omega
  have hall : x.cps.foldl (fun acc y => acc ++ (latin1Codec.bytesOf y).toArray) #[] = octs x.cps.toList := by
    rw [← Array.foldl_toList]
    have := octs_foldl x.cps.toList #[]
    rw [Array.empty_append] at this
    exact this
  dsimp only
  refine wpAny_bind (forIn_range_ _ _ (fun k b s' => s' = s ∧ ((k = 0 ∧ b.1 = 0 ∧ b.2.1 = #[]) ∨ (b.1 = x.cps.size ∧ b.2.1 = octs x.cps.toList))) _ ?_ ?_ _ ?_)
  · rintro k ⟨i, out, st⟩ s' hk ⟨rfl, h1⟩
    dsimp only at h1 ⊢
    rcases h1 with ⟨-, rfl, rfl⟩ | ⟨rfl, rfl⟩
    · rw [if_neg (by rw [sizeLine_eq]; decide)]
      have hk0 : 0 < x.cps.size := Nat.lt_of_le_of_lt (Nat.zero_le _) hk
      rw [Array.getElem?_eq_getElem hk0]
      dsimp only
      have hb : latin1Codec.bad x.cps[0] = false := by
        have := hx x.cps[0] (Array.mem_toList_iff.mpr (Array.getElem_mem hk0))
        show decide (x.cps[0] ≥ 256) = false
        rw [decide_eq_false_iff_not]; omega
      rw [hb, if_pos (show (!false) = true from rfl)]
      refine wpAny_pure ⟨rfl, .inr ?_⟩
      simp only [Array.extract_size, hbad, Option.getD_none, Nat.zero_add]
      exact ⟨trivial, hall⟩
    · rw [if_neg (by rw [sizeLine_eq]; simp only [octs, List.size_toArray, List.length_map, Array.length_toList]; have : x.cps.size ≤ 100000 := hl; omega)]
      rw [Array.getElem?_eq_none (Nat.le_refl _)]
      exact wpAny_pure (wpAny_pure h)
  · rintro ⟨i, out, st⟩ s' ⟨rfl, h1⟩
    dsimp only at h1 ⊢
    rcases h1 with ⟨h0, rfl, rfl⟩ | ⟨rfl, rfl⟩
    · have e0 : x.cps = #[] := Array.eq_empty_of_size_eq_zero h0
      rw [e0] at h
      exact wpAny_pure h
    · exact wpAny_pure h
  · exact ⟨rfl, .inl ⟨rfl, rfl, rfl⟩⟩

theorem octs_size (l : List Nat) : (octs l).size = l.length := by simp [octs]
open Builtin._codecs in
theorem encodeRoad_latin (id : String) (self : Value) (x : Str) : encodeRoad id self x (Str.ofString "latin1") none = (do mkBytes (← encodeNarrow id latin1Codec none self x)) := by
  unfold encodeRoad; kernel_rfl
open Builtin._codecs in
theorem encode_eq (x : Str) (t u : Tok) : Builtin.«str.encode» ⟨[.str x t, .str (Str.ofString "latin1") u], []⟩ = (do ret (← encodeRoad "str.encode" (.str x t) x (Str.ofString "latin1") none)) := by kernel_rfl
theorem call_encode {prog : Program} {w : World} {A : Around} {s : Shared} {E : Value → Shared → Prop} {Q : Value → Shared → Prop} {x : Str} {t u : Tok}
    (hx : ∀ c ∈ x.cps.toList, c < 256) (hl : x.length ≤ 100000) (h : ∀ u tk, Q (.bytes (octs x.cps.toList) u) { s with toks := tk }) :
    wpAny (model prog w) A (call (.builtin "str.encode") [.str x t, .str (Str.ofString "latin1") u]) Q E s := by
  refine call_meets (S := fun _ R s' => s' = s ∧ ∀ u tk, R (.ok (.ret (.bytes (octs x.cps.toList) u))) { s with toks := tk }) F.slot_str_encode (typeIs_str _ _ _) F.entry_str_encode (F.args_str_encode_2 _ _) (.of_wp fun prog w A R s' hS => ?_) ⟨rfl, h⟩
  obtain ⟨rfl, h⟩ := hS
  rw [encode_eq, encodeRoad_latin]
  refine wpAny_bind (wpAny_bind (encodeNarrow_latin hx hl (wpAny_mkBytes (wpAny_pure ⟨_, rfl, h _ _⟩) ?_)))
  rw [octs_size, sizeLine_eq]
  have : x.cps.toList.length ≤ 100000 := hl
  omega

/-! str(octets, 'latin1') -/
def signsOf (b : List UInt8) : Str := ⟨(b.map fun c => c.toNat).toArray⟩
open Builtin._codecs in
theorem runDecoder_latin {prog : Program} {w : World} {A : Around} {s : Shared} {E : Value → Shared → Prop} {Q : Array Nat × Nat → Shared → Prop} {id : String} {held : List Value} {b : List UInt8}
    (hl : b.length ≤ 100000) (h : ∀ n, Q ((signsOf b).cps, n) s) : wpAny (model prog w) A (runDecoder id latin1Decoder none true b.toArray 0 held) Q E s := by
  unfold runDecoder
  try dsimp only
  refine wpAny_bind (forIn_range_ _ _ (fun k b' s' => s' = s ∧ b'.2.1 = ((b.take k).map fun c => c.toNat).toArray ∧ b'.1 = k) _ ?_ ?_ _ ?_)
  · rintro k ⟨p, out, st⟩ s' hk ⟨rfl, h1, h2⟩
    dsimp only at h1 h2 ⊢
    subst h1; subst h2
    have hk' : p < b.length := by simpa using hk
    rw [if_neg (by rw [sizeLine_eq]; simp only [List.size_toArray, List.length_map, List.length_take]; omega)]
    rw [if_neg (by simp only [List.size_toArray]; omega)]
    show wpAny _ _ (pure (ForInStep.yield _)) _ _ _
    refine wpAny_pure ⟨rfl, ?_, rfl⟩
    dsimp only
    rw [List.take_succ_eq_append_getElem hk']
    simp only [List.map_append, List.map_cons, List.map_nil, List.append_toArray]
    simp [hk']
  · rintro ⟨p, out, st⟩ s' ⟨rfl, h1, h2⟩
    dsimp only at h1 h2 ⊢
    have := h p
    rw [h1]
    simp only [List.size_toArray, List.take_length]
    exact wpAny_pure this
  · exact ⟨rfl, by simp, rfl⟩
open Builtin._codecs in
theorem roadL_eq {id : String} {b : Array UInt8} : decodeRoad id b (Str.ofString "latin1") none [] = (runDecoder id latin1Decoder none true b 0 [] >>= fun r => mkStr ⟨r.1⟩) := by kernel_rfl
open Builtin in
theorem meets_textL {b : List UInt8} {t t1 t2 : Tok} {d : Str} (hl : b.length ≤ 100000) :
    Meets («_codecs.decode.text» ⟨[.bytes b.toArray t, .str (Str.ofString "latin1") t1, .none, .str d t2], []⟩) (fun _ R s => ∀ t' k, R (.ok (.ret (.str (signsOf b) t'))) { s with toks := k }) := by
  refine .of_wp fun prog w A R s h => ?_
  show wpAny _ _ (Bytes.bytesLike _ (.bytes b.toArray t) >>= fun r => _) _ _ s
  refine wpAny_bind (wpAny_of_eq KBd.like_eq ?_)
  refine wpAny_bind (wpAny_of_eq KBd.held_eq ?_)
  show wpAny _ _ (_codecs.decodeRoad _ b.toArray (Str.ofString "latin1") none [] >>= fun v => _) _ _ s
  rw [roadL_eq]
  refine wpAny_bind (wpAny_bind (runDecoder_latin hl fun n => ?_))
  exact wpAny_mkStr (wpAny_pure ⟨_, rfl, h _ _⟩) (by show (signsOf b).cps.size ≤ _; rw [sizeLine_eq]; simp [signsOf]; omega)
open Builtin in
theorem decodeL_eq {c : UInt8} {cs : List UInt8} {t u : Tok} : «bytes.decode» ⟨[.bytes (c :: cs).toArray t], [(Str.ofString "encoding", .str (Str.ofString "latin1") u)]⟩ =
    (mkStr (Str.ofString "utf-8") >>= fun _ => mkStr (Str.ofString "latin1") >>= fun e => mkStr (Str.ofString "bytes.decode") >>= fun d => call (.builtin "_codecs.decode.text") [.bytes (c :: cs).toArray t, e, .none, d] >>= fun v => ret v) := by kernel_rfl
theorem args_decode_kw (a v : Value) : argsOk "bytes.decode" ⟨[a], [(Str.ofString "encoding", v)]⟩ := by
  unfold argsOk; kernel_rfl
theorem call_decodeL {prog : Program} {w : World} {A : Around} {s : Shared} {E : Value → Shared → Prop} {Q : Value → Shared → Prop} {c : UInt8} {cs : List UInt8} {t u : Tok}
    (hl : (c :: cs).length ≤ 100000) (h : ∀ t' k, Q (.str (signsOf (c :: cs)) t') { s with toks := k }) :
    wpAny (model prog w) A (call (.builtin "bytes.decode") [.bytes (c :: cs).toArray t] [(Str.ofString "encoding", .str (Str.ofString "latin1") u)]) Q E s := by
  refine wpAny_call_entry_kw FB.slot_bytes_decode (typeIs_bytes _ _ _) FB.entry_bytes_decode ?_ (args_decode_kw _ _)
  rw [decodeL_eq]
  refine wpAny_bind (wpAny_mkStr ?_ (by decide))
  refine wpAny_bind (wpAny_mkStr ?_ (by decide))
  refine wpAny_bind (wpAny_mkStr ?_ (by decide))
  exact wpAny_bind (call_function_meets KBd.kind_text KBd.plain_text KBd.entry_text (KBd.args_text _ _ _ _) (meets_textL hl) fun t' k => wpAny_pure ⟨_, rfl, h _ _⟩)
theorem meets_strL {c : UInt8} {cs : List UInt8} {t u : Tok} (hl : (c :: cs).length ≤ 100000) :
    Meets (Builtin.«str.__new__» ⟨[.type "str", .bytes (c :: cs).toArray t, .str (Str.ofString "latin1") u], []⟩) (fun _ R s => ∀ t' k, R (.ok (.ret (.str (signsOf (c :: cs)) t'))) { s with toks := k }) := by
  refine .of_wp fun prog w A R s h => ?_
  unfold Builtin.«str.__new__»
  try dsimp only
  refine wpAny_bind (wpAny_pure ?_)
  try dsimp only
  refine wpAny_bind (wpAny_of_eq isSubtype_str_str ?_)
  try dsimp only
  rw [if_neg (by decide), if_neg (by rw [Bool.not_eq_true]; kernel_rfl)]
  refine wpAny_bind (wpAny_of_eq (a := [some (.bytes (c :: cs).toArray t), some (.str (Str.ofString "latin1") u), none]) (by kernel_rfl) ?_)
  try dsimp only
  refine wpAny_bind (wpAny_of_eq (a := some (Str.ofString "latin1")) (by kernel_rfl) ?_)
  refine wpAny_bind (wpAny_of_eq (a := none) (by kernel_rfl) ?_)
  try dsimp only
  rw [if_neg (by decide)]
  refine wpAny_bind (wpAny_bind (wpAny_bind (wpAny_mkStr (wpAny_pure ?_) (by decide))))
  refine wpAny_bind (wpAny_pure ?_)
  refine wpAny_bind (wpAny_isInstance (T := "bytes") (b := true) (typeIs_bytes _ _ _) (by rw [isSubtype_type]; kernel_rfl) ?_)
  rw [if_pos rfl]
  refine wpAny_bind (wpAny_rule ?_)
  refine call_decodeL hl fun t' k => ?_
  try dsimp only
  rw [if_pos (by decide)]
  exact wpAny_bind (wpAny_pure (wpAny_pure ⟨_, rfl, h _ _⟩))
theorem call_strL {prog : Program} {w : World} {A : Around} {s : Shared} {E : Value → Shared → Prop} {Q : Value → Shared → Prop} {c : UInt8} {cs : List UInt8} {t u : Tok}
    (hl : (c :: cs).length ≤ 100000) (h : ∀ t' k, Q (.str (signsOf (c :: cs)) t') { s with toks := k }) :
    wpAny (model prog w) A (call (.type "str") [.bytes (c :: cs).toArray t, .str (Str.ofString "latin1") u]) Q E s :=
  callType_new F.called_str (by decide) (by kernel_rfl) (by kernel_rfl) (fun obj => by unfold argsOk; kernel_rfl) F.entry_str_new
    (meets_strL hl) fun t' k => ⟨typeIs_str _ _ _, h t' k⟩

/-! escape -/
abbrev tx (l : List Nat) : Str := ⟨l.toArray⟩
theorem tx_len (l : List Nat) : (tx l).length = l.length := by show l.toArray.size = _; simp
theorem meth_str {M : Model} {A : Around} {E : Value → Shared → Prop} {s : Shared} {x : Str} {t : Tok} {name : Str} {id : String} {pl : Sem Bool} {Q : Value × List Value → Shared → Prop}
    (slot : Slot "str" name id) (ty : typeOf (.builtin id) = pure (.type "method_descriptor")) (h : Q (.builtin id, [.str x t]) s) : wpAny M A (getMethod (.str x t) name pl) Q E s :=
  getMethod_builtin (typeIs_str _ _ _) F.plainAttrs_str slot ty (fun _ e => nomatch e) h
theorem meth_bytes {M : Model} {A : Around} {E : Value → Shared → Prop} {s : Shared} {x : Array UInt8} {t : Tok} {name : Str} {id : String} {pl : Sem Bool} {Q : Value × List Value → Shared → Prop}
    (slot : Slot "bytes" name id) (ty : typeOf (.builtin id) = pure (.type "method_descriptor")) (h : Q (.builtin id, [.bytes x t]) s) : wpAny M A (getMethod (.bytes x t) name pl) Q E s :=
  getMethod_builtin (typeIs_bytes _ _ _) FB.plainAttrs_bytes slot ty (fun _ e => nomatch e) h
theorem call_translate {prog : Program} {w : World} {A : Around} {s : Shared} {E : Value → Shared → Prop} {Q : Value → Shared → Prop} {mg mb : Str → Option Value} {l : List Nat} {t : Tok}
    (W : Wd w mg mb s.heap) (hh : A.handled = none) (hx : l.length ≤ 1000) (h : ∀ u h' tk, Le s.heap h' → Q (.str (tx (escL l)) u) { s with heap := h', toks := tk }) :
    wpAny (model prog w) A (call (.builtin "str.translate") [.str (tx l) t, .ref 16]) Q E s :=
  wpAny_call (codeAny_call_builtin F.slot_str_translate.plain F.entry_str_translate (F.slot_str_translate.check _ _ _ _ _ _ _ _ (typeIs_str _ _ _) (F.args_str_translate_2 _ _)
    (do_translate W hh (by rw [tx_len]; exact hx) fun u h' tk k => by exact h u h' tk k)))
theorem call_esc_str {prog : Program} {w : World} {A : Around} {s : Shared} {E : Value → Shared → Prop} {Q : Value → Shared → Prop} {mg mb : Str → Option Value} {l : List Nat} {t : Tok}
    (W : Wd w mg mb s.heap) (hroom : A.depth < recursionLimit) (hh : A.handled = none) (hx : l.length ≤ 1000) (h : ∀ u h' tk, Le s.heap h' → Q (.str (tx (escL l)) u) { s with heap := h', toks := tk }) :
    wpAny (model prog w) A (call (.ref 26) [.str (tx l) t]) Q E s := by
  refine c_def W hroom (look_escape w.params) rfl (binds := [(nm "pattern", .str (tx l) t)]) (BindsTo.of_eq rfl) ?_
  intro h₁ tk Fa
  have W1 := W.le Fa.keep
  generalize s.heap.objs.size = L at Fa ⊢
  show wpAny _ _ (execs (_ :: _) _) _ _ _
  repeat (walk_at "mj")
  refine n_blt (.builtin "isinstance") W1 PyProof.Rows.boot_isinstance ?_
  repeat (walk_at "mj")
  refine n_blt (.type "str") W1 PyProof.Rows.boot_str ?_
  repeat (walk_at "mj")
  refine PyProof.Rows.call_isinstance_yes (Tx := "str") (typeIs_str _ _ _) (by kernel_rfl) (by rw [isSubtype_type]; kernel_rfl) ?_
  repeat (walk_at "mj")
  rw [if_pos rfl]
  repeat (walk_at "mj")
  with_reducible refine meth_str F.slot_str_translate F.type_str_translate ?_
  repeat (walk_at "mj")
  refine n_glob (.ref 16) W1 ?_
  repeat (walk_at "mj")
  refine call_translate W1 hh hx fun u h' tk k => ?_
  exact h u h' tk (Fa.keep.trans k)
theorem isi_bytes_str {prog : Program} {w : World} {A : Around} {s : Shared} {E : Value → Shared → Prop} {Q : Value → Shared → Prop} {b : Array UInt8} {t : Tok} (h : ∀ tk, Q (.bool false) { s with toks := tk }) :
    wpAny (model prog w) A (call (.builtin "isinstance") [.bytes b t, .type "str"]) Q E s := by
  refine call_isinstance (S := fun _ R s' => ∀ tk, R (.ok (.ret (.bool false))) { s' with toks := tk }) (fun prog w A R s hs => ?_) h
  obtain ⟨h, g, d, t, os⟩ := s
  exact isinstance_outer (isinstance_nested_false_bytes (by decide) meta_str (by rw [isSubtype_type]; kernel_rfl) (hs _))
theorem signs_octs (l : List Nat) (hl : ∀ c ∈ l, c < 256) : signsOf (l.map fun c => c.toUInt8) = tx l := by
  unfold signsOf tx
  rw [List.map_map]
  congr 1
  congr 1
  conv => rhs; rw [← List.map_id l]
  apply List.map_congr_left
  intro c hc
  have := hl c hc
  simp [Nat.mod_eq_of_lt this]
theorem escL_lt {l : List Nat} (hl : ∀ c ∈ l, c < 256) : ∀ c ∈ escL l, c < 256 := by
  intro c hc
  unfold escL at hc
  rw [List.mem_flatMap] at hc
  obtain ⟨d, hd, hc⟩ := hc
  have := hl d hd
  split at hc
  · simp at hc; omega
  · simp at hc; omega
theorem call_esc_bytes {prog : Program} {w : World} {A : Around} {s : Shared} {E : Value → Shared → Prop} {Q : Value → Shared → Prop} {mg mb : Str → Option Value} {l : List Nat} {t : Tok}
    (W : Wd w mg mb s.heap) (hroom : A.depth < recursionLimit) (hh : A.handled = none) (hx : l.length ≤ 1000) (hne : l ≠ []) (hl : ∀ c ∈ l, c < 256)
    (h : ∀ u h' tk, Le s.heap h' → Q (.bytes (octs (escL l)) u) { s with heap := h', toks := tk }) :
    wpAny (model prog w) A (call (.ref 26) [.bytes (octs l) t]) Q E s := by
  refine c_def W hroom (look_escape w.params) rfl (binds := [(nm "pattern", .bytes (octs l) t)]) (BindsTo.of_eq rfl) ?_
  intro h₁ tk Fa
  have W1 := W.le Fa.keep
  generalize s.heap.objs.size = L at Fa ⊢
  show wpAny _ _ (execs (_ :: _) _) _ _ _
  repeat (walk_at "mj")
  refine n_blt (.builtin "isinstance") W1 PyProof.Rows.boot_isinstance ?_
  repeat (walk_at "mj")
  refine n_blt (.type "str") W1 PyProof.Rows.boot_str ?_
  repeat (walk_at "mj")
  refine isi_bytes_str fun tk => ?_
  repeat (walk_at "mj")
  rw [if_neg (by decide)]
  repeat (walk_at "mj")
  refine n_blt (.type "str") W1 PyProof.Rows.boot_str ?_
  repeat (walk_at "mj")
  obtain ⟨c, l', rfl⟩ := List.exists_cons_of_ne_nil hne
  refine call_strL (c := c.toUInt8) (cs := l'.map fun c => c.toUInt8) (by simp at hx ⊢; omega) fun t' k => ?_
  rw [show signsOf (c.toUInt8 :: l'.map fun c => c.toUInt8) = tx (c :: l') from signs_octs (c :: l') hl]
  refine s_loc Fa (fun h₃ tk₃ F3 hs₃ => ?_)
  have W3 := W.le F3.keep
  dsimp only
  repeat (walk_at "mj")
  with_reducible refine meth_str F.slot_str_translate F.type_str_translate ?_
  repeat (walk_at "mj")
  refine n_glob (.ref 16) W3 ?_
  repeat (walk_at "mj")
  refine call_translate W3 hh hx fun u h' tk k => ?_
  repeat (walk_at "mj")
  with_reducible refine meth_str F.slot_str_encode F.type_str_encode ?_
  repeat (walk_at "mj")
  refine call_encode (by intro c hc; exact escL_lt hl c (by simpa using hc)) (by have := escL_len (c :: l'); rw [tx_len]; omega) fun u' tk' => ?_
  exact h u' h' tk' (F3.keep.trans k)

/-- the walk's goal by a name of its own -/
theorem hideQ {α : Type} {M : Model} {A : Around} {c : Sem α} {P : α → Shared → Prop} {E : Value → Shared → Prop} {s : Shared} (k : ∀ Q : α → Shared → Prop, (∀ f s', P f s' → Q f s') → wpAny M A c Q (fun _ _ => False) s) : wpAny M A c P E s :=
  wpAny_mono (k P fun _ _ x => x) (fun _ _ x => x) fun _ _ x => x.elim
/-! a for over range(N), its body by what holds between the turns -/
theorem for_range {prog : Program} {w : World} {A : Around} {s : Shared} {E : Value → Shared → Prop} {Q : Flow → Shared → Prop} {env : Env} {x : Str} {px : Pos} {body : List Stmt} {N : Nat} {t : Tok}
    {g : Heap} {m : Str → Option Value} (J : Addr → Nat → (Str → Option Value) → Heap → Prop)
    (hh : A.handled = none) (hN : N < 1000000) (Fa : Fm g env.locals s.heap m)
    (stable : ∀ I i m h h' mm, J I i m h → (∃ x y z, IsRangeIter h I x y z) → h.Ns env.locals mm → (∀ b o, b ≠ I → b ≠ env.locals → h.get? b = some o → h'.get? b = some o) → J I i m h')
    (h0 : ∀ I h', s.heap.get? I = none → Le s.heap h' → J I 0 m h')
    (step : ∀ I i t m h tk, i < N → s.heap.get? I = none → (∃ x y z, IsRangeIter h I x y z) → Fm g env.locals h (fun y => if y = x then some (.int (i : Int) t) else m y) → J I i m h →
      wpAny (model prog w) A (execs body env) (fun f s' => match f with
        | .next | .cont => ∃ h' tk' m', s' = { s with heap := h', toks := tk' } ∧ Fm g env.locals h' m' ∧ (∀ o, h.get? I = some o → h'.get? I = some o) ∧ J I (i + 1) m' h'
        | .brk => Q .next s'
        | .ret v => Q (.ret v) s') (fun _ _ => False) { s with heap := h, toks := tk })
    (fin : ∀ I m' h' tk', s.heap.get? I = none → Fm g env.locals h' m' → J I N m' h' → Q .next { s with heap := h', toks := tk' })
    (hx : env.kindOf x = some .local := by kernel_rfl)
    (hp : (env.scope.kind == .class || (env.scope.kind == .module && env.locals != env.globals)) = false := by kernel_rfl) :
    wpAny (model prog w) A (call (.type "range") [.int (N : Int) t]) (fun xv s₁ => wpAny (model prog w) A (pyIter xv) (fun it s₂ =>
      codeAny (model prog w) A (.forLoop (.Name x px) it body [] env) (fun r s' => match r with | .ok f => Q f s' | .error e => cameBackBy (model prog w) A env E e s') s₂) E s₁) E s := by
  refine call_range_1 ?_
  refine wpAny_pyIter_range (IsRange.new ..) (small_one (by decide) (by decide) (by omega) (by omega)) ?_
  have hsz : Builtin.Range.rangeSize 0 (N : Int) 1 = (N : Int) := by rw [rangeSize_one]; split <;> omega
  rw [hsz]
  dsimp only
  generalize hh1 : s.heap.push { cls := .type "range", data := .fields #[.int 0 s.toks, .int (N : Int) t, .int 1 (s.toks + 1)] } = h1
  have k1 : Le s.heap h1 := by rw [← hh1]; exact le_push _ _
  generalize hh2 : h1.push { cls := .type "range_iterator", data := .fields #[rawInt 0, rawInt (N : Int), rawInt 1] } = h2
  have k2 : Le h1 h2 := by rw [← hh2]; exact le_push _ _
  have hI1 : h1.get? h1.objs.size = none := none_at_size _
  have hI0 : s.heap.get? h1.objs.size = none := by
    cases q : s.heap.get? h1.objs.size with
    | none => rfl
    | some o => have := k1 _ _ q; rw [hI1] at this; cases this
  have hst : IsRangeIter h2 h1.objs.size (0 + ((0 : Nat) : Int) * 1) ((N : Int) - ((0 : Nat) : Int)) 1 := by
    have e1 : (0 + ((0 : Nat) : Int) * 1) = 0 := by simp
    have e2 : ((N : Int) - ((0 : Nat) : Int)) = N := by simp
    rw [e1, e2, ← hh2]
    exact Heap.get?_push_size _ rfl
  generalize h1.objs.size = I at hI1 hI0 hst
  have hLI : env.locals ≠ I := fun q => by
    obtain ⟨o, _, _, ho, _⟩ := Fa.ns
    rw [q, hI0] at ho; cases ho
  have hgI : g.get? I = none := by
    cases q : g.get? I with
    | none => rfl
    | some o => have := Fa.keep _ _ q; rw [hI0] at this; cases this
  have W := Walks.range (prog := prog) (w := w) hh I 0 1 N
  refine codeAny_forLoop
    (fun k s' => ∃ h' tk m' i, s' = { s with heap := h', toks := tk } ∧ IsRangeIter h' I (0 + (i : Nat) * 1) ((N : Int) - (i : Nat)) 1 ∧ Fm g env.locals h' m' ∧ J I i m' h' ∧ i ≤ N ∧ k = N + 1 - i) ?_ (N + 1)
    ⟨h2, _, m, 0, rfl, hst, Fa.le (k1.trans k2), h0 I h2 hI0 (k1.trans k2), Nat.zero_le _, rfl⟩
  rintro k s' ⟨h', tk, m', i, rfl, hst', F', hJ, hi, rfl⟩
  have next : ∀ h₁ : Heap, (∀ b o, b ∉ [I] → h'.get? b = some o → h₁.get? b = some o) → Fm g env.locals h₁ m' ∧ J I i m' h₁ := fun h₁ hk₁ =>
    ⟨⟨F'.ns.at' fun o e => hk₁ _ o (by simpa using hLI) e, fun b o e => hk₁ b o (by rintro hb; rw [List.mem_singleton] at hb; rw [hb, hgI] at e; cases e) (F'.keep b o e), F'.gL⟩,
      stable I i m' h' h₁ m' hJ ⟨_, _, _, hst'⟩ F'.ns fun b o hb _ e => hk₁ b o (by simpa using hb) e⟩
  by_cases hlt : i < N
  · refine W.item i _ _ _ hlt hst' fun v h₁ tk₁ hP hst₁ hk₁ => ?_
    obtain ⟨F₁, J₁⟩ := next h₁ hk₁
    obtain ⟨t', rfl⟩ := hP
    refine wpAny_assign_Name (wpAny_storeName_local hx F₁.ns (fun h₂ hn₂ hs₂ => ?_) hp)
    have F₂ := F₁.set hn₂ hs₂
    have e0 : (0 + (i : Int) * 1) = (i : Int) := by omega
    rw [e0] at F₂
    have J₂ := stable I i m' h₁ h₂ m' J₁ ⟨_, _, _, hst₁⟩ F₁.ns fun b o _ hb e => (hs₂.2 b hb).trans e
    have e2 : ∀ o, h₁.get? I = some o → h₂.get? I = some o := fun o e => (hs₂.2 I hLI.symm).trans e
    refine wpAny_mono (step I i t' m' h₂ _ hlt hI0 ⟨_, _, _, e2 _ hst₁⟩ F₂ J₂) (fun f s₃ h₃ => ?_) fun _ _ e => e.elim
    cases f with
    | next =>
      obtain ⟨h₃', tk₃, m₂, rfl, F₃, hk₃, J₃⟩ := h₃
      exact ⟨N + 1 - (i + 1), by omega, h₃', tk₃, m₂, i + 1, rfl, hk₃ _ (e2 _ hst₁), F₃, J₃, hlt, rfl⟩
    | cont =>
      obtain ⟨h₃', tk₃, m₂, rfl, F₃, hk₃, J₃⟩ := h₃
      exact ⟨N + 1 - (i + 1), by omega, h₃', tk₃, m₂, i + 1, rfl, hk₃ _ (e2 _ hst₁), F₃, J₃, hlt, rfl⟩
    | brk => exact h₃
    | ret v => exact h₃
  · have hin : i = N := by omega
    subst hin
    refine W.done _ _ _ hst' fun h₁ tk₁ hk₁ => wpAny_execs_nil ?_
    obtain ⟨F₁, J₁⟩ := next h₁ hk₁
    exact fin I m' h₁ tk₁ hI0 F₁ J₁

/-! a text or octets, by its codes; escape on both; _law_layers -/
def V : Bool → List Nat → Tok → Value
  | false, l, u => .str (tx l) u
  | true, l, u => .bytes (octs l) u
theorem call_esc {prog : Program} {w : World} {A : Around} {s : Shared} {E : Value → Shared → Prop} {Q : Value → Shared → Prop} {mg mb : Str → Option Value} {b : Bool} {l : List Nat} {t : Tok}
    (W : Wd w mg mb s.heap) (hroom : A.depth < recursionLimit) (hh : A.handled = none) (hx : l.length ≤ 1000) (hne : l ≠ []) (hl : ∀ c ∈ l, c < 256)
    (h : ∀ u h' tk, Le s.heap h' → Q (V b (escL l) u) { s with heap := h', toks := tk }) :
    wpAny (model prog w) A (call (.ref 26) [V b l t]) Q E s := by
  cases b with
  | false => exact call_esc_str W hroom hh hx h
  | true => exact call_esc_bytes W hroom hh hx hne hl h
def escN : Nat → List Nat → List Nat
  | 0, l => l
  | n + 1, l => escL (escN n l)
theorem escL_ne {l : List Nat} (h : l ≠ []) : escL l ≠ [] := by
  obtain ⟨c, l', rfl⟩ := List.exists_cons_of_ne_nil h
  rw [escL_cons]; split <;> simp
theorem escN_ne {l : List Nat} (h : l ≠ []) : ∀ n, escN n l ≠ []
  | 0 => h
  | n + 1 => escL_ne (escN_ne h n)
theorem escN_lt {l : List Nat} (h : ∀ c ∈ l, c < 256) : ∀ n, ∀ c ∈ escN n l, c < 256
  | 0 => h
  | n + 1 => escL_lt (escN_lt h n)
theorem escN_len (l : List Nat) : ∀ n, (escN n l).length ≤ 2 ^ n * l.length
  | 0 => by simp [escN]
  | n + 1 => by
    have h1 := escL_len (escN n l)
    have h2 := escN_len l n
    rw [escN, Nat.pow_succ, Nat.mul_comm (2 ^ n) 2, Nat.mul_assoc]
    omega
theorem cw_def {prog : Program} {w : World} {A : Around} {s : Shared} {E : Value → Shared → Prop} {Q : Value → Shared → Prop} {env : Env} {pos : Pos} {f : Addr} {fd : FuncData} {e : Expr} {rest : List Expr}
    (ho : (KF w.params).lookup f = some ⟨.type "function", none, .func fd, #[]⟩)
    (h : wpAny (model prog w) A (spliced (backTo pos (starEach (e :: rest) env))) (fun vs s₁ => (KF w.params).In s₁.heap ∧ wpAny (model prog w) A (call (.ref f) vs) Q E s₁) E s)
    (he : starEach (e :: rest) env = (false, eval e env) :: starEach rest env := by rfl) :
    wpAny (model prog w) A (callWith pos (.ref f) [] (backTo pos (starEach (e :: rest) env)) []) Q E s :=
  callWith_def rfl (wpAny_mono h (fun vs s₁ h₁ => ⟨h₁.1 _ _ ho, h₁.2⟩) fun _ _ x => x) he
theorem call_layers {prog : Program} {w : World} {A : Around} {s : Shared} {E : Value → Shared → Prop} {Q : Value → Shared → Prop} {mg mb : Str → Option Value} {b : Bool} {l : List Nat} {t t' : Tok} {n : Nat}
    (W : Wd w mg mb s.heap) (hroom : A.depth + 1 < recursionLimit) (hh : A.handled = none) (hx : l.length ≤ 100) (hn : n ≤ 3) (hne : l ≠ []) (hl : ∀ c ∈ l, c < 256)
    (h : ∀ u h' tk, Le s.heap h' → Q (V b (escN n l) u) { s with heap := h', toks := tk }) :
    wpAny (model prog w) A (call (.ref 68) [V b l t, .int (n : Int) t']) Q E s := by
  refine c_def W (by omega) (look_layers w.params) rfl (binds := [(nm "chars", V b l t), (nm "layers", .int (n : Int) t')]) (BindsTo.of_eq rfl) ?_
  intro h₁ tk Fa
  have W1 := W.le Fa.keep
  generalize s.heap.objs.size = L at Fa ⊢
  show wpAny _ _ (execs (_ :: _) _) _ _ _
  repeat (walk_at "mj")
  refine wpAny_For ?_
  repeat (walk_at "mj")
  refine n_blt (.type "range") W1 PyProof.Rows.boot_range ?_
  repeat (walk_at "mj")
  refine for_range (fun _ i m _ => ∃ u, m (nm "chars") = some (V b (escN i l) u)) hh (by omega) Fa ?_ ?_ ?_ ?_
  · rintro I i m h h' mm hJ - - -; exact hJ
  · intro I h' _ _; exact ⟨t, rfl⟩
  · rintro I i t2 m h tk2 hi hI hIt F2 ⟨u, hu⟩
    have W2 := W.le F2.keep
    have hu' : (fun y => if y = nm "k" then some (.int (i : Int) t2) else m y) (nm "chars") = some (V b (escN i l) u) := by
      show (if _ then _ else _) = _
      rw [if_neg (by decide)]; exact hu
    repeat (walk_at "mj")
    refine n_glob (.ref 26) W2 ?_
    refine cw_def (look_escape w.params) ?_
    repeat (walk_at "mj")
    try refine n_loc F2 hu' ?_
    repeat (walk_at "mj")
    refine ⟨W2.K, ?_⟩
    have hb := escN_len l i
    have hp : 2 ^ i ≤ 2 ^ 3 := Nat.pow_le_pow_right (by decide) (by omega)
    have hp2 : 2 ^ i * l.length ≤ 2 ^ 3 * 100 := Nat.mul_le_mul hp hx
    refine call_esc W2 (by show A.depth + 1 < _; omega) hh (by omega) (escN_ne hne i) (escN_lt hl i) fun u2 h3 tk3 k3 => ?_
    refine s_loc (F2.le k3) (fun h₄ tk₄ F4 hs₄ => ?_)
    dsimp only
    repeat (walk_at "mj")
    refine ⟨h₄, tk₄, _, rfl, F4, fun o e => ?_, u2, if_pos rfl⟩
    have hne' : I ≠ L := by rintro rfl; obtain ⟨o, _, _, ho, _⟩ := Fa.ns; rw [ho] at hI; cases hI
    exact (hs₄.2 I hne').trans (k3 _ _ e)
  · rintro I m' h' tk' hI F2 ⟨u, hu⟩
    dsimp only
    repeat (walk_at "mj")
    try refine n_loc F2 hu ?_
    exact h u h' tk' F2.keep

/-! a def's own attributes: hit.span, prog.search -/
theorem slot_fn_sa : Slot "function" "__setattr__" "object.__setattr__" :=
  .of (owner := "object") (n := "__setattr__") (by rw [typeLookup_type, builtinLookup_eq_fast]; kernel_rfl) (by decide +kernel) (by decide +kernel) (by decide +kernel)
    (by first | exact .inl (by decide +kernel) | exact .inr (by decide +kernel)) (by rw [isSubtype_type]; kernel_rfl)
theorem slot_fn_ga : Slot "function" "__getattribute__" "object.__getattribute__" :=
  .of (owner := "object") (n := "__getattribute__") (by rw [typeLookup_type, builtinLookup_eq_fast]; kernel_rfl) (by decide +kernel) (by decide +kernel) (by decide +kernel)
    (by first | exact .inl (by decide +kernel) | exact .inr (by decide +kernel)) (by rw [isSubtype_type]; kernel_rfl)
theorem lk_fn_getattr : typeLookup (.type "function") "__getattr__" = pure none := by rw [typeLookup_type, builtinLookup_eq_fast]; kernel_rfl
theorem lk_fn_span : typeLookup (.type "function") (nm "span") = pure none := by rw [typeLookup_type, builtinLookup_eq_fast]; kernel_rfl
theorem lk_fn_search : typeLookup (.type "function") (nm "search") = pure none := by rw [typeLookup_type, builtinLookup_eq_fast]; kernel_rfl
theorem mro_fn : mroOf (.type "function") = pure [.type "function", .type "object"] := by kernel_rfl
theorem passes_fn (self : Value) : refuseLoop self "__setattr__" [.type "function", .type "object"] = pure () := by kernel_rfl
theorem entry_object_ga : entryFor table "object.__getattribute__" = some Builtin.«object.__getattribute__» := entryFor_of_tree (by kernel_rfl)
abbrev fnO (d : Option Addr) (fd : FuncData) : Obj := ⟨.type "function", d, .func fd, #[]⟩
open Builtin Builtin.ObjectAttr in
theorem store_fn_entry {prog : Program} {w : World} {A : Around} {s : Shared} {E : Value → Shared → Prop} {Q : Fin → Shared → Prop} {f : Addr} {fd : FuncData} {name : Str} {tk : Tok} {v : Value}
    (hf : s.heap.get? f = some (fnO none fd)) (hB : typeLookup (.type "function") name = pure none)
    (h : ∀ h' d tk', h'.get? f = some (fnO (some d) fd) → h'.Ns d (fun y => if y = name then some v else none) → s.heap.get? d = none → (∀ b o, b ≠ f → s.heap.get? b = some o → h'.get? b = some o) →
      Q (.done (.ret .none)) { s with heap := h', toks := tk' }) :
    wpAny (model prog w) A (Builtin.«object.__setattr__» ⟨[.ref f, .str name tk, v], []⟩) Q E s := by
  obtain ⟨hp, g, d, t, os⟩ := s
  dsimp only at hf h
  have hpass := passes_fn (.ref f)
  have hT : (⟨hp, g, d, t, os⟩ : Shared).TypeIs (.ref f) "function" := ⟨_, hf, rfl⟩
  unfold Builtin.«object.__setattr__»
  repeat (first | rw [refuse_eq] | rw [hpass] | with_reducible refine wpAny_typeOf hT ?_ | with_reducible refine wpAny_of_eq mro_fn ?_ | with_reducible refine wpAny_of_eq hB ?_ | ((fail_if_success (with_reducible show wpAny _ _ (storeInDict _ _ _ _) _ _ _)); wp_step))
  have hf₁ : (hp.push { cls := .type "dict", data := .dict #[] }).get? f = some (fnO none fd) := Heap.get?_push_of_some _ hf
  have hfs : f ≠ hp.objs.size := Nat.ne_of_lt (Heap.lt_size hf)
  generalize hh2 : ((hp.push { cls := .type "dict", data := .dict #[] }).update f fun o => { cls := o.cls, dict := some hp.objs.size, data := o.data, slots := o.slots }) = h2
  have hgd : h2.get? hp.objs.size = some { cls := .type "dict", data := .dict #[] } := by
    rw [← hh2]; exact (Heap.get?_update_ne _ _ _ _ hfs.symm).trans (Heap.get?_push_at rfl rfl)
  have hgf : h2.get? f = some (fnO (some hp.objs.size) fd) := by
    rw [← hh2]; exact Heap.get?_update_self _ hf₁ rfl
  have hkeep : ∀ b o, b ≠ f → hp.get? b = some o → h2.get? b = some o := fun b o hb e => by
    rw [← hh2]; exact (Heap.get?_update_ne _ _ _ _ hb).trans (Heap.get?_push_of_some _ e)
  have hnd : h2.Ns hp.objs.size (fun _ => none) := ⟨_, #[], _, hgd, rfl, fun e he => absurd he (by simp), fun _ => rfl⟩
  unfold storeInDict newKeyGuard
  refine wpAny_bind (wpAny_pure (wpAny_bind (wpAny_nsSet1 (Heap.Ns1.of_empty hnd) fun h' hn' hs => ?_)))
  obtain ⟨oD, esD, epD, hoD, hdD, hcD⟩ := hn'.count (Within.cons name v Within.nil)
  refine wpAny_bind (wpAny_lookBehind hoD (by rw [hdD]; exact pastItsLine_dict (Nat.le_trans hcD (by rw [List.length_cons, List.length_nil, sizeLine_eq]; omega))) ?_)
  refine wpAny_pure ?_
  exact h h' hp.objs.size _ ((hs.2 f hfs).trans hgf) hn'.ns (none_at_size _) (fun b o hb e => (hs.2 b (Nat.ne_of_lt (Heap.lt_size e))).trans (hkeep b o hb e))
theorem set_fn {prog : Program} {w : World} {A : Around} {s : Shared} {E : Value → Shared → Prop} {Q : Unit → Shared → Prop} {f : Addr} {fd : FuncData} {name : Str} {v : Value}
    (hf : s.heap.get? f = some (fnO none fd)) (hB : typeLookup (.type "function") name = pure none)
    (h : ∀ h' d tk', h'.get? f = some (fnO (some d) fd) → h'.Ns d (fun y => if y = name then some v else none) → s.heap.get? d = none → (∀ b o, b ≠ f → s.heap.get? b = some o → h'.get? b = some o) →
      Q () { s with heap := h', toks := tk' }) :
    wpAny (model prog w) A (setAttr (.ref f) name v) Q E s := by
  unfold setAttr
  refine wpAny_bind (wpAny_mkText ?_)
  have hT : ({ s with toks := s.toks + 1 } : Shared).TypeIs (.ref f) "function" := ⟨_, hf, rfl⟩
  refine wpAny_bind (wpAny_callSpecial?_slot hT slot_fn_sa (wpAny_call_entry slot_fn_sa hT F.entry_object_sa ?_ (by unfold argsOk; kernel_rfl)))
  refine store_fn_entry hf hB fun h' d tk' h1 h2 h3 h4 => ⟨_, rfl, ?_⟩
  exact wpAny_pure (h h' d tk' h1 h2 h3 h4)
open Builtin Builtin.ObjectAttr in
theorem load_fn_entry {prog : Program} {w : World} {A : Around} {s : Shared} {E : Value → Shared → Prop} {Q : Fin → Shared → Prop} {f d : Addr} {fd : FuncData} {name : Str} {tk : Tok} {v : Value} {m : Str → Option Value}
    (hf : s.heap.get? f = some (fnO (some d) fd)) (hB : typeLookup (.type "function") name = pure none) (hd : s.heap.Ns d m) (hv : m name = some v) (h : Q (.done (.ret v)) s) :
    wpAny (model prog w) A (Builtin.«object.__getattribute__» ⟨[.ref f, .str name tk], []⟩) Q E s := by
  obtain ⟨hp, g, dr, t, os⟩ := s
  have hT : (⟨hp, g, dr, t, os⟩ : Shared).TypeIs (.ref f) "function" := ⟨_, hf, rfl⟩
  unfold Builtin.«object.__getattribute__»
  repeat (first | with_reducible refine wpAny_typeOf hT ?_ | with_reducible refine wpAny_of_eq hB ?_ | (with_reducible refine wpAny_nsGet hd ?_; rw [hv]) | wp_step)
  exact h
theorem meth_fn {prog : Program} {w : World} {A : Around} {s : Shared} {E : Value → Shared → Prop} {Q : Value × List Value → Shared → Prop} {f d a : Addr} {fd : FuncData} {name : Str} {m : Str → Option Value} {pl : Sem Bool}
    (hf : s.heap.get? f = some (fnO (some d) fd)) (hB : typeLookup (.type "function") name = pure none) (hd : s.heap.Ns d m) (hv : m name = some (.ref a)) (h : ∀ tk, Q (.ref a, []) { s with toks := tk }) :
    wpAny (model prog w) A (getMethod (.ref f) name pl) Q E s := by
  have hT : s.TypeIs (.ref f) "function" := ⟨_, hf, rfl⟩
  have hcan := F.canon_object_ga
  unfold getMethod
  refine wpAny_bind (wpAny_specialOf hT slot_fn_ga.lookup ?_)
  show wpAny _ _ (if (Manifest.canonical "object.__getattribute__" != "object.__getattribute__") = true then _ else _) _ _ _
  rw [hcan, if_neg Bool.false_ne_true]
  refine wpAny_bind (wpAny_specialOf hT lk_fn_getattr ?_)
  refine wpAny_bind (wpAny_specialOf hT hB ?_)
  show wpAny _ _ (getAttr (.ref f) name >>= _) _ _ _
  refine wpAny_bind ?_
  unfold getAttr getAttrBy
  refine wpAny_bind (wpAny_mkText (wpAny_holding (wpAny_bind (wpAny_typeOf (T := "function") ⟨_, hf, rfl⟩ (wpAny_bind (wpAny_of_eq slot_fn_ga.lookup ?_))))))
  show wpAny _ _ (getAttrByItsOwn _ _ _ _ _ _) _ _ _
  unfold getAttrByItsOwn
  refine wpAny_bind (wpAny_pure ?_)
  refine wpAny_bind (wpAny_attempt (wpAny_holding ?_))
  show wpAny _ _ (boundAndCalled _ _ _) _ _ _
  unfold boundAndCalled
  rw [slot_fn_ga.bind]
  refine wpAny_bind (wpAny_pure ?_)
  refine wpAny_call_entry slot_fn_ga ⟨_, hf, rfl⟩ entry_object_ga ?_ (by unfold argsOk; kernel_rfl)
  refine load_fn_entry hf hB hd hv ⟨_, rfl, ?_⟩
  exact wpAny_pure (wpAny_pure (h _))

/-! defs and lambdas made in a body: the two code tables -/
def CodeOk (h : Heap) (cv : Value) (q : Str) : Prop := ∃ c o vs t, cv = .ref c ∧ h.get? c = some o ∧ o.cls = .type "code" ∧ o.data = .fields vs ∧ vs[1]? = some (.str q t)
theorem CodeOk.rec_ {h : Heap} {cv : Value} {q : Str} (x : CodeOk h cv q) : h.CodeRec cv q := let ⟨c, o, vs, t, e, ho, _, hd, hv⟩ := x; ⟨c, o, vs, t, e, ho, hd, hv⟩
abbrev LeT (h h' : Heap) : Prop := ∀ b o, b ≠ 35 → b ≠ 42 → h.get? b = some o → h'.get? b = some o
theorem LeT.trans {a b c : Heap} (x : LeT a b) (y : LeT b c) : LeT a c := fun q o h1 h2 e => y q o h1 h2 (x q o h1 h2 e)
theorem Le.toT {a b : Heap} (x : Le a b) : LeT a b := fun q o _ _ e => x q o e
def TabOk (h : Heap) (P : Addr) (qs : List (Pos × Str)) : Prop :=
  ∃ ps, h.get? P = some (tabObj ps) ∧ TriplesOk ps.toList ∧ ∀ p ∈ qs, ∀ cv, codeAmong p.1 ps.toList = some cv → CodeOk h cv p.2
def qsA : List (Pos × Str) := [(⟨27, 10, 27, 22⟩, nm "_law_found.<locals>.<lambda>"), (⟨28, 15, 28, 38⟩, nm "_law_found.<locals>.<lambda>")]
def qsB : List (Pos × Str) := [(⟨32, 4, 36, 51⟩, nm "_law_finder.<locals>.search"), (⟨37, 11, 37, 23⟩, nm "_law_finder.<locals>.<lambda>")]
structure Tb (h : Heap) : Prop where
  a : TabOk h 35 qsA
  b : TabOk h 42 qsB
  ca : CodeHd h 39 35
  cb : CodeHd h 46 42
/-- an object that is neither a table nor a code -/
def Mild (o : Obj) : Prop := (o.cls ≠ .none ∧ o.cls ≠ .type "code") ∨ ∀ vs, o.data ≠ .fields vs
theorem CodeOk.but {h h' : Heap} {Z : Addr → Prop} {cv : Value} {q : Str} (x : CodeOk h cv q) (k : ∀ b o, ¬ Z b → h.get? b = some o → h'.get? b = some o) (hz : ∀ a o, Z a → h.get? a = some o → Mild o ∨ o.cls = .none) : CodeOk h' cv q := by
  obtain ⟨c, o, vs, t, rfl, ho, hc, hd, hv⟩ := x
  refine ⟨c, o, vs, t, rfl, k c o (fun z => ?_) ho, hc, hd, hv⟩
  rcases hz c o z ho with (⟨_, h2⟩ | h3) | h4
  · exact h2 hc
  · exact h3 _ hd
  · rw [hc] at h4; cases h4
theorem CodeHd.but {h h' : Heap} {Z : Addr → Prop} {c P : Addr} (x : CodeHd h c P) (k : ∀ b o, ¬ Z b → h.get? b = some o → h'.get? b = some o) (hz : ∀ a o, Z a → h.get? a = some o → Mild o ∨ o.cls = .none) : CodeHd h' c P := by
  obtain ⟨o, vs, file, tf, flags, tg, inF, text, tt, e, hc, hd, r⟩ := x
  refine ⟨o, vs, file, tf, flags, tg, inF, text, tt, k c o (fun z => ?_) e, hc, hd, r⟩
  rcases hz c o z e with (⟨_, h2⟩ | h3) | h4
  · exact h2 hc
  · exact h3 _ hd
  · rw [hc] at h4; cases h4
theorem TabOk.but {h h' : Heap} {Z : Addr → Prop} {P : Addr} {qs : List (Pos × Str)} (x : TabOk h P qs) (k : ∀ b o, ¬ Z b → h.get? b = some o → h'.get? b = some o) (hz : ∀ a o, Z a → h.get? a = some o → Mild o ∨ o.cls = .none) (hP : ¬ Z P) : TabOk h' P qs := by
  obtain ⟨ps, h1, h2, h3⟩ := x
  exact ⟨ps, k P _ hP h1, h2, fun p hp cv e => (h3 p hp cv e).but k hz⟩
theorem Tb.but {h h' : Heap} (x : Tb h) (Z : Addr → Prop) (k : ∀ b o, ¬ Z b → h.get? b = some o → h'.get? b = some o) (hz : ∀ a o, Z a → h.get? a = some o → Mild o) : Tb h' := by
  have nt : ∀ P ps, h.get? P = some (tabObj ps) → ¬ Z P := fun P ps e z => by
    rcases hz P _ z e with ⟨h1, _⟩ | h3
    · exact h1 rfl
    · exact h3 _ rfl
  have hz' : ∀ a o, Z a → h.get? a = some o → Mild o ∨ o.cls = .none := fun a o z e => .inl (hz a o z e)
  exact ⟨x.a.but k hz' (let ⟨ps, e, _⟩ := x.a; nt _ ps e), x.b.but k hz' (let ⟨ps, e, _⟩ := x.b; nt _ ps e), CodeHd.but x.ca k hz', CodeHd.but x.cb k hz'⟩
theorem Tb.le {h h' : Heap} (x : Tb h) (k : Le h h') : Tb h' := x.but (fun _ => False) (fun b o _ e => k b o e) fun _ _ z => z.elim
theorem Tb.ns {h h' : Heap} {L : Addr} {m : Str → Option Value} (x : Tb h) (n : h.Ns L m) (k : Heap.SameBut L h h') : Tb h' :=
  x.but (fun b => b = L) (fun b o z e => (k.2 b z).trans e) fun a o z e => by
    subst z
    obtain ⟨o', es, ep, e', d, _⟩ := n
    rw [e'] at e; cases e
    exact .inr fun vs q => by rw [d] at q; cases q
theorem codeAmong_app (p : Pos) (l : List Value) (ht : TriplesOk l) (a b : Int) (c : Value) :
    codeAmong p (l ++ [rawInt a, rawInt b, c]) = (codeAmong p l).or (if a == p.line && b == p.col then some c else none) := by
  fun_induction TriplesOk l with
  | case1 => simp [codeAmong, rawInt]
  | case2 i t j u v rest ih =>
    simp only [List.cons_append, codeAmong]
    split
    · simp
    · exact ih ht
  | case3 => exact ht.elim
abbrev clFn (name qual : Str) (params : Arguments) (body : FuncBody) (scope : Scope) (cl : List (Str × Addr)) (dV pm cdv doc ct : Value) : FuncData :=
  { name, qualname := qual, params, body, scope, globals := mainGlobals, closure := cl, defaults := dV, kwdefaults := .none, doc, pyModule := pm, annotations := none, code := cdv, closureTuple := ct, builtins := builtinsNs }
section
variable {M : Model} {A : Around} {E : Value → Shared → Prop} {s : Shared} {name qual : Str} {params : Arguments} {body : FuncBody} {scope : Scope} {env : Env} {c P : Addr} {pos : Pos} {firstLine : Nat} {mg : Str → Option Value}
  {clos : List (Str × Addr)} {Q : Value → Shared → Prop} {dV : Value} {qs : List (Pos × Str)}
/-- the code of a nested def: found, or made and noted -/
theorem code_any (hcode : env.code = .ref c) (C : CodeHd s.heap c P) (T : TabOk s.heap P qs) (hq : (pos, qual) ∈ qs) (hu : ∀ p ∈ qs, p.1.line = pos.line → p.1.col = pos.col → p.2 = qual)
    (h : ∀ cv h' tk, Heap.ExtBut P s.heap h' → CodeOk h' cv qual → TabOk h' P qs → Q cv { s with heap := h', toks := tk }) :
    wpAny M A (functionCode env pos firstLine name qual params scope body) Q E s := by
  obtain ⟨ps, hP, ht, hr⟩ := id T
  cases hf : codeAmong pos ps.toList with
  | some cv => exact wpAny_functionCode_hit hcode (C.code hP ht) hf (h cv s.heap s.toks (fun b o _ e => e) (hr _ hq _ hf) T)
  | none =>
    refine wpAny_functionCodeX hcode (C.code hP ht) (C.tab hP) hf fun c' h' tk hx hge hlt _ hrec htb hnew => ?_
    have ok : CodeOk h' (.ref c') qual := by
      obtain ⟨P', _, _, ⟨o, vs, e1, e2, e3, _⟩, _⟩ := hnew
      obtain ⟨c2, o2, vs2, t2, e, f1, f2, f3⟩ := hrec
      cases e
      rw [e1] at f1; cases f1
      exact ⟨_, o, vs2, t2, rfl, e1, e2, f2, f3⟩
    refine h (.ref c') h' tk hx ok ⟨_, htb.2, ?_, fun p hp cv e => ?_⟩
    · have hl : (ps ++ #[rawInt pos.line, rawInt pos.col, Value.ref c']).toList = ps.toList ++ [rawInt pos.line, rawInt pos.col, .ref c'] := by simp
      rw [hl]; exact TriplesOk_snoc _ _ _ _ ht
    · have hl : (ps ++ #[rawInt pos.line, rawInt pos.col, Value.ref c']).toList = ps.toList ++ [rawInt pos.line, rawInt pos.col, .ref c'] := by simp
      rw [hl, codeAmong_app _ _ ht] at e
      cases hp0 : codeAmong p.1 ps.toList with
      | some cv' =>
        rw [hp0] at e
        have : cv' = cv := by simpa using e
        subst this
        refine (hr p hp cv' hp0).but (Z := fun b => b = P) (fun b o z e => hx b o z e) fun a o z e => ?_
        subst z
        rw [hP] at e; cases e
        exact .inr rfl
      | none =>
        rw [hp0] at e
        simp only [Option.none_or] at e
        split at e
        · rename_i hc
          rw [Bool.and_eq_true] at hc
          have h1 : (pos.line : Int) = p.1.line := eq_of_beq hc.1
          have h2 : (pos.col : Int) = p.1.col := eq_of_beq hc.2
          cases e
          rw [hu p hp (by omega) (by omega)]
          exact ok
        · cases e
theorem mk_tail (hcl : closureFor scope env = pure clos) (hge0 : env.globals = mainGlobals) (hg : s.heap.Ns mainGlobals mg) (hgP : mainGlobals ≠ P) (hb : s.heap.BuiltinsAt mg P)
    (hcode : env.code = .ref c) (C : CodeHd s.heap c P) (T : TabOk s.heap P qs) (hq : (pos, qual) ∈ qs) (hu : ∀ p ∈ qs, p.1.line = pos.line → p.1.col = pos.col → p.2 = qual)
    (h : ∀ f h' tk pm cv doc ct, s.heap.get? f = none → Heap.ExtBut P s.heap h' → CodeOk h' cv qual → TabOk h' P qs → h'.get? f = some (fnO none (clFn name qual params body scope clos dV pm cv doc ct)) →
      Q (.ref f) { s with heap := h', toks := tk }) :
    wpAny M A (makeTail name qual params body scope env dV .none none pos firstLine) Q E s := by
  obtain ⟨bm, ob, hbm, hne0, _, hneP, hbo, hcls, hdict, hdata⟩ := hb
  have push : ∀ (h' : Heap) (o : Obj) (cv : Value), CodeOk h' cv qual → TabOk h' P qs → CodeOk (h'.push o) cv qual ∧ TabOk (h'.push o) P qs := fun h' o cv x y =>
    ⟨x.but (Z := fun _ => False) (fun b o _ e => Heap.get?_push_of_some _ e) fun _ _ z => z.elim, y.but (Z := fun _ => False) (fun b o _ e => Heap.get?_push_of_some _ e) (fun _ _ z => z.elim) id⟩
  have fin : ∀ (h0 : Heap) (tk0 : Nat) (ct : Value), Le s.heap h0 → TabOk h0 P qs → wpAny M A (do
      let cd ← functionCode env pos firstLine name qual params scope body
      let bs ← builtinsFor mainGlobals env.builtins
      let pm ← nsGet mainGlobals "__name__"
      let doc ← match body with
        | .stmts b => (match docOf b with | some s => mkText s | none => pure .none)
        | .expr _ => pure .none
      newObj (.type "function") (.func { name, qualname := qual, params, body, scope, globals := mainGlobals, closure := clos, closureTuple := ct, code := cd, builtins := bs, defaults := dV, kwdefaults := .none, annotations := none, pyModule := pm.getD .none, doc })) Q E { s with heap := h0, toks := tk0 } := by
    intro h0 tk0 ct k0 T0
    refine wpAny_bind (code_any hcode (C.keeps k0) T0 hq hu fun cv h' tk hx ok tok => ?_)
    have hx' : Heap.ExtBut P s.heap h' := fun b o hb' e => hx b o hb' (k0 _ _ e)
    have hg' := (hg.keeps k0).extBut hx hgP
    refine wpAny_bind (wpAny_builtinsFor hg' hbm hne0 (hx' _ _ hneP hbo) hcls hdict hdata ?_)
    refine wpAny_bind (wpAny_nsGet hg' ?_)
    have fresh : s.heap.get? h'.objs.size = none := by
      cases q : s.heap.get? h'.objs.size with
      | none => rfl
      | some o =>
        by_cases hP' : h'.objs.size = P
        · obtain ⟨ps, e, _⟩ := tok
          rw [← hP'] at e
          exact absurd (Heap.lt_size e) (Nat.lt_irrefl _)
        · exact absurd (Heap.lt_size (hx' _ _ hP' q)) (Nat.lt_irrefl _)
    have fin' : ∀ doc tk', wpAny M A (newObj (.type "function") (.func { name, qualname := qual, params, body, scope, globals := mainGlobals, closure := clos, closureTuple := ct, code := cv, builtins := builtinsNs, defaults := dV, kwdefaults := .none, annotations := none, pyModule := (mg "__name__").getD .none, doc })) Q E { s with heap := h', toks := tk' } := fun doc tk' => by
      refine wpAny_newObj_type ?_ (by size_fits)
      have p := push h' (fnO none (clFn name qual params body scope clos dV ((mg "__name__").getD .none) cv doc ct)) cv ok tok
      exact h h'.objs.size _ tk' ((mg "__name__").getD .none) cv doc ct fresh (fun b o hb' e => Heap.get?_push_of_some _ (hx' b o hb' e)) p.1 p.2 (Heap.get?_push_size _ rfl)
    cases body with
    | expr e => exact wpAny_bind (wpAny_pure (fin' _ _))
    | stmts b =>
      refine wpAny_bind ?_
      show wpAny M A (match docOf b with | some s => mkText s | none => pure .none) _ _ _
      cases hdoc : docOf b with
      | none => exact wpAny_pure (fin' _ _)
      | some t => exact wpAny_mkText (fin' _ _)
  unfold makeTail
  rw [hcl, hge0]
  refine wpAny_bind (wpAny_pure ?_)
  cases clos with
  | nil =>
    simp only [List.isEmpty_nil, if_true]
    exact wpAny_bind (wpAny_pure (fin s.heap s.toks .none Le.rfl T))
  | cons q r =>
    simp only [List.isEmpty_cons, Bool.false_eq_true, if_false]
    refine wpAny_bind (wpAny_newTextTuple ?_)
    exact fin _ s.toks _ (fun b o e => Heap.get?_push_of_some _ e) (T.but (Z := fun _ => False) (fun b o _ e => Heap.get?_push_of_some _ e) (fun _ _ z => z.elim) id)
end

/-! find, of a text and of octets -/
def Finds (t w : List Nat) (at_ : Nat) : Option Nat → Prop
  | some p => at_ ≤ p ∧ w <+: t.drop p ∧ ∀ q, at_ ≤ q → q < p → ¬ w <+: t.drop q
  | none => ∀ q, at_ ≤ q → ¬ w <+: t.drop q
def placeInt : Option Nat → Int
  | some p => (p : Int)
  | none => -1
theorem pre_iff (t w : List Nat) (i : Nat) : w <+: t.drop i ↔ (t.drop i).take w.length = w := by
  rw [List.prefix_iff_eq_take]; exact ⟨fun h => h.symm, fun h => h.symm⟩
theorem pre_len {t w : List Nat} {i : Nat} (hw : w ≠ []) (h : w <+: t.drop i) : i + w.length ≤ t.length := by
  have h1 := h.length_le
  have h2 : 0 < w.length := List.length_pos_iff.mpr hw
  rw [List.length_drop] at h1; omega
theorem range'_cut {lo n a : Nat} {pre post : List Nat} (h : List.range' lo n = pre ++ a :: post) : ∀ k, lo ≤ k → k < a → k ∈ pre := by
  intro k h0 hk
  have hL : n = pre.length + (post.length + 1) := by
    have := congrArg List.length h
    simpa using this
  have hlen : a = lo + pre.length := by
    have h1 : (List.range' lo n)[pre.length]? = some a := by rw [h]; simp
    rw [List.getElem?_range'] at h1
    · simp at h1; omega
    · omega
  have h2 : (List.range' lo n)[k - lo]? = pre[k - lo]? := by rw [h, List.getElem?_append_left (by omega)]
  rw [List.getElem?_range'] at h2
  · have h3 : pre[k - lo]? = some k := by rw [← h2]; simp; omega
    exact List.mem_of_getElem? h3
  · omega
open Builtin.Str StrLaws in
theorem at_iff {t w : List Nat} (hw : w ≠ []) (i : Nat) : At (tx t) (tx w) (tx t).length i ↔ w <+: t.drop i := by
  unfold At
  rw [tx_len, tx_len, subAt_eq, pre_iff, tx_len]
  simp only [List.toList_toArray, beq_iff_eq]
  constructor
  · exact fun h => h.2
  · intro h
    exact ⟨pre_len hw ((pre_iff t w i).mpr h), h⟩
open Builtin.Str StrLaws in
theorem find3_spec {t w : List Nat} (hw : w ≠ []) (i : Nat) : ∃ r, Finds t w i r ∧ Txt.find3 (tx t) (tx w) (i : Int) = placeInt r := by
  unfold Txt.find3
  have e : fromIndex (tx t).length (i : Int) = i := by unfold fromIndex; rw [if_neg (by omega)]; omega
  rw [e, occ_eq]
  rcases occ_first (tx t) (tx w) (tx t).length 1 (Nat.le_refl _) (List.range' i ((tx t).length + 1 - i)) i (fun k hk => by rw [List.mem_range'] at hk; omega) with ⟨h0, hn⟩ | ⟨pre, a, post, e, h0, ha, hn⟩
  · refine ⟨none, fun q hq hp => ?_, by rw [h0]; rfl⟩
    refine hn q ?_ ((at_iff hw q).mpr hp)
    have := pre_len hw hp
    rw [tx_len, List.mem_range']
    exact ⟨q - i, by omega, by omega⟩
  · have ham : a ∈ List.range' i ((tx t).length + 1 - i) := by rw [e]; simp
    have hai : i ≤ a := by rw [List.mem_range'] at ham; omega
    refine ⟨some a, ⟨hai, (at_iff hw a).mp ha, fun q h1 h2 hp => hn q (range'_cut e q h1 h2) ((at_iff hw q).mpr hp)⟩, ?_⟩
    generalize (forIn (List.range' i ((tx t).length + 1 - i)) ((#[] : Array Nat), i) (occBody (tx t) (tx w) (tx t).length 1)).run.fst = arr at h0
    have h1 : arr.toList[0]? = some a := by simpa using h0
    cases hL : arr.toList with
    | nil => rw [hL] at h1; cases h1
    | cons b t => rw [hL] at h1; simp at h1; rw [h1]; rfl
theorem slot_bytes_find : Slot "bytes" "find" "bytes.find" :=
  .of (owner := "bytes") (n := "find") (by rw [typeLookup_type, builtinLookup_eq_fast]; kernel_rfl) (by decide +kernel) (by decide +kernel) (by decide +kernel)
    (by first | exact .inl (by decide +kernel) | exact .inr (by decide +kernel)) (by rw [isSubtype_type]; kernel_rfl)
theorem type_bytes_find : typeOf (.builtin "bytes.find") = pure (.type "method_descriptor") := by show builtinType _ = _; rw [builtinType_eq_fast]; kernel_rfl
theorem entry_bytes_find : entryFor table "bytes.find" = some Builtin.«bytes.find» := entryFor_of_tree (by kernel_rfl)
theorem octs_inj {a b : List Nat} (ha : ∀ c ∈ a, c < 256) (hb : ∀ c ∈ b, c < 256) (h : octs a = octs b) : a = b := by
  have h1 := congrArg (fun x => (signsOf x.toList).cps.toList) h
  simp only [octs, List.toList_toArray] at h1
  rw [signs_octs a ha, signs_octs b hb] at h1
  simpa using h1
theorem octs_extract (l : List Nat) (i j : Nat) : (octs l).extract i j = octs ((l.take j).drop i) := by
  unfold octs
  rw [List.extract_toArray]
  simp [List.extract_eq_drop_take, List.map_take, List.map_drop, List.drop_take]
open Builtin Builtin.Bytes in
theorem bfind_spec {t w : List Nat} (hw : w ≠ []) (ht : ∀ c ∈ t, c < 256) (hwl : ∀ c ∈ w, c < 256) (i : Nat) (hi : i ≤ t.length) :
    ∃ r, Finds t w i r ∧ ((if ((t.length : Int) - (i : Int)) < (octs w).size then none else some (i, t.length)).bind fun (lo, hi) => find? (octs t) (octs w) lo hi) = r := by
  have key : ∀ q, ((octs t).extract q (q + (octs w).size) == octs w) = true ↔ w <+: t.drop q := by
    intro q
    rw [beq_iff_eq, octs_extract, octs_size, pre_iff]
    have e : (t.take (q + w.length)).drop q = (t.drop q).take w.length := by rw [List.drop_take]; congr 1; omega
    rw [e]
    constructor
    · intro h
      exact octs_inj (fun c hc => ht c (List.mem_of_mem_drop (List.mem_of_mem_take hc))) hwl h
    · intro h; rw [h]
  refine ⟨_, ?_, rfl⟩
  rw [octs_size]
  split
  · rename_i h0
    intro q hq hp
    have := pre_len hw hp
    omega
  · rename_i h0
    simp only [Option.bind_some]
    unfold find?
    cases hf : ((List.range (t.length + 1 - (i + (octs w).size))).map (· + i)).find? fun k => (octs t).extract k (k + (octs w).size) == octs w with
    | none =>
      intro q hq hp
      rw [List.find?_eq_none] at hf
      have := pre_len hw hp
      refine hf q ?_ ((key q).mpr hp)
      rw [List.mem_map]
      exact ⟨q - i, by rw [List.mem_range, octs_size]; omega, by omega⟩
    | some p =>
      have hm := List.mem_of_find?_eq_some hf
      have hp := List.find?_some hf
      rw [List.mem_map] at hm
      obtain ⟨k, hk, rfl⟩ := hm
      refine ⟨by omega, (key _).mp hp, fun q h1 h2 h3 => ?_⟩
      rw [List.find?_map] at hf
      simp only [Option.map_eq_some_iff] at hf
      obtain ⟨k', hk', e⟩ := hf
      have : k' = k := by omega
      subst this
      rw [List.find?_range_eq_some] at hk'
      have := hk'.2.2 (q - i) (by omega)
      simp only [Function.comp] at this
      rw [show q - i + i = q by omega] at this
      rw [(key q).mpr h3] at this
      simp at this

open Builtin Builtin.Bytes in
theorem bytes_find_tree {t w : Array UInt8} {u u' v : Tok} {i : Int} : «bytes.find» ⟨[.bytes t u, .bytes w u', .int i v], []⟩ =
    (match ((if (window t.size (some i) none).2 - (window t.size (some i) none).1 < w.size then none else some ((window t.size (some i) none).1.toNat, (window t.size (some i) none).2.toNat)) : Option (Nat × Nat)).bind fun (lo, hi) => find? t w lo hi with
      | some k => retInt k
      | none => do rule "bytes.find.not-found"; retInt (-1)) := by kernel_rfl
theorem call_find_b {prog : Program} {w : World} {A : Around} {s : Shared} {E : Value → Shared → Prop} {Q : Value → Shared → Prop} {l wl : List Nat} {i : Nat} {t u v : Tok}
    (hw : wl ≠ []) (hl : ∀ c ∈ l, c < 256) (hwl : ∀ c ∈ wl, c < 256) (hi : i ≤ l.length) (h : ∀ r u tk, Finds l wl i r → Q (.int (placeInt r) u) { s with toks := tk }) :
    wpAny (model prog w) A (call (.builtin "bytes.find") [.bytes (octs l) t, .bytes (octs wl) u, .int (i : Int) v]) Q E s := by
  refine call_meets (S := fun _ R s' => s' = s ∧ ∀ r u tk, Finds l wl i r → R (.ok (.ret (.int (placeInt r) u))) { s with toks := tk }) slot_bytes_find (typeIs_bytes _ _ _) entry_bytes_find (by unfold argsOk; kernel_rfl) (.of_wp fun prog w A R s' hS => ?_) ⟨rfl, h⟩
  obtain ⟨rfl, h⟩ := hS
  rw [bytes_find_tree]
  obtain ⟨r, hr, e⟩ := bfind_spec hw hl hwl i hi
  have ew : Builtin.Bytes.window (octs l).size (some (i : Int)) none = ((i : Int), (l.length : Int)) := by
    unfold Builtin.Bytes.window
    rw [octs_size]
    simp only [Option.getD_some, Option.getD_none]
    rw [if_neg (by omega), if_neg (by omega), Int.min_self]
  rw [ew]
  simp only [Int.toNat_natCast]
  rw [e]
  cases r with
  | some k => exact wpAny_bind (wpAny_mkInt (wpAny_pure ⟨_, rfl, h _ _ _ hr⟩))
  | none => exact wpAny_bind (wpAny_rule (wpAny_bind (wpAny_mkInt (wpAny_pure ⟨_, rfl, h _ _ _ hr⟩))))
theorem meth_find {M : Model} {A : Around} {E : Value → Shared → Prop} {s : Shared} {b : Bool} {l : List Nat} {t : Tok} {pl : Sem Bool} {Q : Value × List Value → Shared → Prop}
    (h : Q (.builtin (bif b then "bytes.find" else "str.find"), [V b l t]) s) : wpAny M A (getMethod (V b l t) (nm "find") pl) Q E s := by
  cases b with
  | false =>
    show wpAny M A (getMethod (.str (tx l) t) (Str.ofString "find") pl) Q E s
    have h' : Q (.builtin "str.find", [.str (tx l) t]) s := h
    with_reducible exact meth_str F.slot_str_find F.type_str_find h'
  | true =>
    show wpAny M A (getMethod (.bytes (octs l) t) (Str.ofString "find") pl) Q E s
    have h' : Q (.builtin "bytes.find", [.bytes (octs l) t]) s := h
    with_reducible exact meth_bytes slot_bytes_find type_bytes_find h'
theorem call_find {prog : Program} {w : World} {A : Around} {s : Shared} {E : Value → Shared → Prop} {Q : Value → Shared → Prop} {b : Bool} {l wl : List Nat} {i : Nat} {t u v : Tok}
    (hw : wl ≠ []) (hl : ∀ c ∈ l, c < 256) (hwl : ∀ c ∈ wl, c < 256) (hi : i ≤ l.length) (h : ∀ r u tk, Finds l wl i r → Q (.int (placeInt r) u) { s with toks := tk }) :
    wpAny (model prog w) A (call (.builtin (bif b then "bytes.find" else "str.find")) [V b l t, V b wl u, .int (i : Int) v]) Q E s := by
  cases b with
  | true => exact call_find_b hw hl hwl hi h
  | false =>
    obtain ⟨r, hr, e⟩ := find3_spec (t := l) hw i
    refine SC.find3 ?_
    rw [e]
    exact h _ _ _ hr
theorem len_V {prog : Program} {w : World} {A : Around} {s : Shared} {E : Value → Shared → Prop} {Q : Value → Shared → Prop} {b : Bool} {l : List Nat} {t : Tok}
    (hl : l.length ≤ 100000) (h : ∀ u tk, Q (.int (l.length : Int) u) { s with toks := tk }) :
    wpAny (model prog w) A (call (.builtin "len") [V b l t]) Q E s := by
  cases b with
  | false =>
    refine len_str (by rw [tx_len]; omega) ?_
    rw [tx_len]
    exact h _ _
  | true =>
    refine len_bytes (by rw [octs_size]; omega) ?_
    rw [octs_size]
    exact h _ _

/-! what stays where the tables alone may grow -/
theorem Tb.get {h h' : Heap} (T : Tb h) (k : LeT h h') {b : Addr} {o : Obj} (e : h.get? b = some o) (hn : o.cls ≠ .none ∨ ∀ vs, o.data ≠ .fields vs) : h'.get? b = some o := by
  refine k b o ?_ ?_ e
  · rintro rfl
    obtain ⟨ps, e1, _⟩ := T.a
    rw [e1] at e; cases e
    rcases hn with hn | hn
    · exact hn rfl
    · exact hn _ rfl
  · rintro rfl
    obtain ⟨ps, e1, _⟩ := T.b
    rw [e1] at e; cases e
    rcases hn with hn | hn
    · exact hn rfl
    · exact hn _ rfl
theorem Tb.nsT {h h' : Heap} (T : Tb h) (k : LeT h h') {L : Addr} {m : Str → Option Value} (n : h.Ns L m) : h'.Ns L m :=
  n.at' fun o e => T.get k e (.inr fun vs q => by
    obtain ⟨o', es, ep, e', d, _⟩ := n
    rw [e'] at e; cases e; rw [d] at q; cases q)
theorem Tb.cellT {h h' : Heap} (T : Tb h) (k : LeT h h') {c : Addr} {v : Option Value} (n : h.IsCell c v) : h'.IsCell c v :=
  let ⟨o, e, d⟩ := n; ⟨o, T.get k e (.inr fun vs q => by rw [d] at q; cases q), d⟩
theorem KF_none35 (P : Params) : (KF P).lookup 35 = none := by kernel_rfl
theorem KF_none42 (P : Params) : (KF P).lookup 42 = none := by kernel_rfl
theorem Wd.leT {w : World} {mg mb : Str → Option Value} {h h' : Heap} (W : Wd w mg mb h) (T : Tb h) (k : LeT h h') : Wd w mg mb h' where
  K := fun a o e => k a o (by rintro rfl; rw [KF_none35] at e; cases e) (by rintro rfl; rw [KF_none42] at e; cases e) (W.K a o e)
  g := T.nsT k W.g
  b := T.nsT k W.b
  bb := W.bb
  nl := let ⟨mc, a, b⟩ := W.nl; ⟨mc, T.nsT k a, b⟩
  bm := let ⟨bm, ob, a, b, c, d, r⟩ := W.bm; ⟨bm, ob, a, b, T.get k c (.inl (by rw [d]; intro q; cases q)), d, r⟩
theorem Fm.leT {g h h' : Heap} {L : Addr} {m : Str → Option Value} (F : Fm g L h m) (T : Tb h) (k : LeT h h') (h1 : g.get? 35 = none) (h2 : g.get? 42 = none) : Fm g L h' m :=
  ⟨T.nsT k F.ns, fun b o e => k b o (by rintro rfl; rw [h1] at e; cases e) (by rintro rfl; rw [h2] at e; cases e) (F.keep b o e), F.gL⟩
/-- all but the frame and the tables -/
def hid (h : Heap) : Heap := (h.hide 35).hide 42
theorem hid_le (h : Heap) : Le (hid h) h := fun _ _ e => Heap.of_hide (Heap.of_hide e)
theorem hid_35 (h : Heap) : (hid h).get? 35 = none := by unfold hid; rw [Heap.hide_ne _ (by decide)]; exact Heap.hide_self h 35
theorem hid_42 (h : Heap) : (hid h).get? 42 = none := Heap.hide_self _ 42
theorem hid_get {h : Heap} {b : Addr} {o : Obj} (e : h.get? b = some o) (h1 : b ≠ 35) (h2 : b ≠ 42) : (hid h).get? b = some o := by
  unfold hid; rw [Heap.hide_ne _ h2, Heap.hide_ne _ h1]; exact e
theorem hid_LeT {h h' : Heap} (k : Le (hid h) h') : LeT h h' := fun b _ h1 h2 e => k b _ (hid_get e h1 h2)
theorem LeT.hid {h h' : Heap} (k : LeT h h') : Le (hid h) h' := fun b o e =>
  k b o (by rintro rfl; rw [hid_35] at e; cases e) (by rintro rfl; rw [hid_42] at e; cases e) (hid_le h b o e)
theorem Fm.hidden {g h : Heap} {L : Addr} {m : Str → Option Value} (F : Fm g L h m) : Fm (hid g) L h m :=
  ⟨F.ns, (hid_le g).trans F.keep, by cases q : (hid g).get? L with | none => rfl | some o => have := hid_le g _ _ q; rw [F.gL] at this; cases this⟩

/-! a call of a def of the text with cells -/
theorem c_defC {prog : Program} {w : World} {A : Around} {s : Shared} {E : Value → Shared → Prop} {Q : Value → Shared → Prop} {mg mb : Str → Option Value} {fd : FuncData} {f : Addr} {body : List Stmt} {args : List Value} {binds : List (Str × Value)}
    (W : Wd w mg mb s.heap) (hroom : A.depth < recursionLimit) (ho : (KF w.params).lookup f = some ⟨.type "function", none, .func fd, #[]⟩)
    (hbody : fd.body = .stmts body) (hbind : bindArgs fd ⟨args, []⟩ = pure binds)
    (h : ∀ h₁ tk, Fm s.heap s.heap.objs.size h₁ (bindL (callEnvC fd s.heap.objs.size f).kindOf binds fun _ => none) →
      (∀ n c, (callEnvC fd s.heap.objs.size f).cells.lookup n = some c → h₁.IsCell c (bindC (callEnvC fd s.heap.objs.size f).kindOf binds (fun _ => none) n) ∧ s.heap.objs.size < c) →
      wpAny (model prog w) (A.deeper (callEnvC fd s.heap.objs.size f)) (execs body (callEnvC fd s.heap.objs.size f))
        (fun fl s' => Q (match fl with | .ret v => v | _ => .none) s') (fun _ _ => False) { s with heap := h₁, toks := tk })
    (hcd : codeIn (KF w.params) fd.code fd.qualname = true := by kernel_rfl) (hclo : fd.closure = [] := by kernel_rfl)
    (hkind : ∀ x ∈ binds, fd.scope.names.lookup x.1 = some .local ∨ (fd.scope.names.lookup x.1 = some .cell ∧ ((cellsFrom (s.heap.objs.size + 1) fd.scope.names []).lookup x.1).isSome = true))
    (hco : fd.scope.isCoroutine = false := by kernel_rfl) (hgen : fd.scope.isGenerator = false := by kernel_rfl) (hk : fd.scope.kind = .function := by kernel_rfl) :
    wpAny (model prog w) A (call (.ref f) args) Q E s := by
  refine wpAny_call (codeAny_call_cells (fd := fd) (body := body) (binds := binds) hroom (W.K _ _ ho) _root_.rfl W.nl (codeRec_of W.K hcd) hbody hbind hclo hkind (fun s₁ x => ?_) hco hgen hk)
  obtain ⟨h₁, tk, rfl⟩ := x.toInCall.same
  exact wpAny_mono (h h₁ tk ⟨x.toInCall.ns, x.toInCall.keep, none_at_size _⟩ fun n c hc => ⟨x.cell n c hc, x.above n c (mem_of_lookup hc)⟩) (fun _ _ x => x) (fun _ _ x => x.elim)

/-! a lambda, a def, made in the body of _law_found or _law_finder -/
def Which (c P : Addr) (qs : List (Pos × Str)) : Prop := (c = 39 ∧ P = 35 ∧ qs = qsA) ∨ (c = 46 ∧ P = 42 ∧ qs = qsB)
theorem mk_fun {M : Model} {w : World} {mb : Str → Option Value} {A : Around} {E : Value → Shared → Prop} {s : Shared} {name qual : Str} {params : Arguments} {body : FuncBody} {scope : Scope} {env : Env} {c P : Addr} {pos : Pos} {firstLine : Nat} {mg : Str → Option Value}
    {clos : List (Str × Addr)} {Q : Value → Shared → Prop} {dV : Value} {qs : List (Pos × Str)} (hw : Which c P qs)
    (W : Wd w mg mb s.heap) (T : Tb s.heap) (hcl : closureFor scope env = pure clos) (hge0 : env.globals = mainGlobals) (hcode : env.code = .ref c) (hq : (pos, qual) ∈ qs) (hu : ∀ p ∈ qs, p.1.line = pos.line → p.1.col = pos.col → p.2 = qual)
    (h : ∀ f h' tk pm cv doc ct, s.heap.get? f = none → LeT s.heap h' → CodeOk h' cv qual → Tb h' → h'.get? f = some (fnO none (clFn name qual params body scope clos dV pm cv doc ct)) →
      Q (.ref f) { s with heap := h', toks := tk }) :
    wpAny M A (makeTail name qual params body scope env dV .none none pos firstLine) Q E s := by
  have hbm : ∀ P ps, s.heap.get? P = some (tabObj ps) → mainGlobals ≠ P ∧ s.heap.BuiltinsAt mg P := fun P ps e => by
    refine ⟨fun q => ?_, ?_⟩
    · obtain ⟨o, es, ep, e', hd, _⟩ := W.g
      rw [q, e] at e'; cases e'; cases hd
    · obtain ⟨bm, ob, b1, b2, b3, b4, b5, b6⟩ := W.bm
      refine ⟨bm, ob, b1, b2, fun q => ?_, fun q => ?_, b3, b4, b5, b6⟩
      · obtain ⟨o, es, ep, e', hd, _⟩ := W.g
        rw [← q, b3] at e'; cases e'; rw [b6] at hd; cases hd
      · rw [q, e] at b3; cases b3; cases b4
  rcases hw with ⟨rfl, rfl, rfl⟩ | ⟨rfl, rfl, rfl⟩
  · obtain ⟨ps, e, _⟩ := T.a
    refine mk_tail hcl hge0 W.g (hbm _ ps e).1 (hbm _ ps e).2 hcode T.ca T.a hq hu fun f h' tk pm cv doc ct hf hx ok tab ho => h f h' tk pm cv doc ct hf (fun b o h1 _ e => hx b o h1 e) ok ?_ ho
    have hz : ∀ a o, a = 35 → s.heap.get? a = some o → Mild o ∨ o.cls = .none := fun a o z e' => by subst z; rw [e] at e'; cases e'; exact .inr rfl
    exact ⟨tab, T.b.but (Z := fun b => b = 35) (fun b o z e => hx b o z e) hz (by decide), CodeHd.but T.ca (Z := fun b => b = 35) (fun b o z e => hx b o z e) hz, CodeHd.but T.cb (Z := fun b => b = 35) (fun b o z e => hx b o z e) hz⟩
  · obtain ⟨ps, e, _⟩ := T.b
    refine mk_tail hcl hge0 W.g (hbm _ ps e).1 (hbm _ ps e).2 hcode T.cb T.b hq hu fun f h' tk pm cv doc ct hf hx ok tab ho => h f h' tk pm cv doc ct hf (fun b o _ h1 e => hx b o h1 e) ok ?_ ho
    have hz : ∀ a o, a = 42 → s.heap.get? a = some o → Mild o ∨ o.cls = .none := fun a o z e' => by subst z; rw [e] at e'; cases e'; exact .inr rfl
    exact ⟨T.a.but (Z := fun b => b = 42) (fun b o z e => hx b o z e) hz (by decide), tab, CodeHd.but T.ca (Z := fun b => b = 42) (fun b o z e => hx b o z e) hz, CodeHd.but T.cb (Z := fun b => b = 42) (fun b o z e => hx b o z e) hz⟩
theorem mk_lam {M : Model} {w : World} {mb : Str → Option Value} {A : Around} {E : Value → Shared → Prop} {s : Shared} {params : Arguments} {body : Expr} {scope : Scope} {env : Env} {c P : Addr} {pos : Pos} {mg : Str → Option Value}
    {clos : List (Str × Addr)} {Q : Value → Shared → Prop} {qs : List (Pos × Str)} (qual : Str) (hw : Which c P qs) (hdef : defaultsOf params env = ([], []))
    (W : Wd w mg mb s.heap) (T : Tb s.heap) (hcl : closureFor scope env = pure clos) (hge0 : env.globals = mainGlobals) (hcode : env.code = .ref c) (hqu : env.qual ++ "<lambda>" = qual) (hq : (pos, qual) ∈ qs) (hu : ∀ p ∈ qs, p.1.line = pos.line → p.1.col = pos.col → p.2 = qual)
    (h : ∀ f h' tk pm cv doc ct, s.heap.get? f = none → LeT s.heap h' → CodeOk h' cv qual → Tb h' → h'.get? f = some (fnO none (clFn "<lambda>" qual params (.expr body) scope clos .none pm cv doc ct)) →
      Q (.ref f) { s with heap := h', toks := tk }) :
    wpAny M A (eval (.Lambda params body scope pos) env) Q E s := by
  refine kla_eval hdef ?_
  rw [makeFunction_eq, hqu]
  simp only [List.zip_nil_right, List.filterMap_nil, List.isEmpty_nil, if_true, pure_bind]
  exact mk_fun hw W T hcl hge0 hcode hq hu h

/-! _law_found, and what it hands back -/
def asgVal : Stmt → Expr
  | .Assign _ v _ => v
  | _ => .Constant .none 0 default
def lamArgs : Expr → Arguments
  | .Lambda a _ _ _ => a
  | _ => default
def lamBody : Expr → Expr
  | .Lambda _ b _ _ => b
  | e => e
def lamScope : Expr → Scope
  | .Lambda _ _ s _ => s
  | _ => default
noncomputable def spanLam : Expr := asgVal ((fdBody (stOf 6)).getD 1 (.Pass default))
abbrev qHit : Str := nm "_law_found.<locals>.<lambda>"
noncomputable abbrev spanFn (c1 c2 : Addr) (pm cv doc ct : Value) : FuncData := clFn "<lambda>" qHit (lamArgs spanLam) (.expr (lamBody spanLam)) (lamScope spanLam) [(nm "first", c1), (nm "behind", c2)] .none pm cv doc ct
def Hit (h₀ h : Heap) (f : Addr) (i j : Int) : Prop := ∃ d sp c1 c2 fdF pm cv doc ct t u m,
  h.get? f = some (fnO (some d) fdF) ∧ h.Ns d m ∧ m (nm "span") = some (.ref sp) ∧ h.get? sp = some (fnO none (spanFn c1 c2 pm cv doc ct)) ∧ CodeOk h cv qHit ∧
  h.IsCell c1 (some (.int i t)) ∧ h.IsCell c2 (some (.int j u)) ∧ ∀ a ∈ [f, d, sp, c1, c2], h₀.get? a = none
/-- what is not of the elder heap, and the codes, stay -/
abbrev Kept (h₀ h h' : Heap) : Prop := ∀ b o, (h₀.get? b = none ∨ (o.cls = .type "code" ∧ ∃ vs, o.data = .fields vs)) → h.get? b = some o → h'.get? b = some o
theorem Kept.leT {h₀ h h' : Heap} (T₀ : Tb h₀) (T : Tb h) (k : LeT h h') : Kept h₀ h h' := fun b o c e => by
  rcases c with c | ⟨c, _⟩
  · exact k b o (by rintro rfl; obtain ⟨ps, e1, _⟩ := T₀.a; rw [c] at e1; cases e1) (by rintro rfl; obtain ⟨ps, e1, _⟩ := T₀.b; rw [c] at e1; cases e1) e
  · exact T.get k e (.inl (by rw [c]; intro q; cases q))
theorem Tb.nsB {h h' : Heap} {L : Addr} {m : Str → Option Value} (x : Tb h) (n : h.Ns L m) (k : ∀ b o, b ≠ L → h.get? b = some o → h'.get? b = some o) : Tb h' :=
  x.but (fun b => b = L) k fun a o z e => by
    subst z
    obtain ⟨o', es, ep, e', d, _⟩ := n
    rw [e'] at e; cases e
    exact .inr fun vs q => by rw [d] at q; cases q
theorem Kept.nsB {h₀ h h' : Heap} {L : Addr} {m₀ m : Str → Option Value} (n₀ : h₀.Ns L m₀) (n : h.Ns L m) (k : ∀ b o, b ≠ L → h.get? b = some o → h'.get? b = some o) : Kept h₀ h h' := fun b o c e => by
  refine k b o ?_ e
  rintro rfl
  rcases c with c | ⟨_, vs, c⟩
  · obtain ⟨o', _, _, ho, _⟩ := n₀; rw [ho] at c; cases c
  · obtain ⟨o', _, _, ho, hd, _⟩ := n; rw [ho] at e; cases e; rw [c] at hd; cases hd
theorem Kept.ns {h₀ h h' : Heap} {L : Addr} {m₀ m : Str → Option Value} (n₀ : h₀.Ns L m₀) (n : h.Ns L m) (hs : Heap.SameBut L h h') : Kept h₀ h h' := Kept.nsB n₀ n fun b _ z e => (hs.2 b z).trans e
theorem Hit.stay {h₀ h h' : Heap} {f : Addr} {i j : Int} (x : Hit h₀ h f i j) (k : Kept h₀ h h') : Hit h₀ h' f i j := by
  obtain ⟨d, sp, c1, c2, fdF, pm, cv, doc, ct, t, u, m, e1, e2, e3, e4, e5, e6, e7, e8⟩ := x
  refine ⟨d, sp, c1, c2, fdF, pm, cv, doc, ct, t, u, m, k _ _ (.inl (e8 _ (by simp))) e1, e2.at' (fun o e => k _ _ (.inl (e8 _ (by simp))) e), e3, k _ _ (.inl (e8 _ (by simp))) e4, ?_, ?_, ?_, e8⟩
  · obtain ⟨c, o, vs, t, e, ho, hc, hd, r⟩ := e5
    exact ⟨c, o, vs, t, e, k _ _ (.inr ⟨hc, _, hd⟩) ho, hc, hd, r⟩
  · obtain ⟨o, e, r⟩ := e6; exact ⟨o, k _ _ (.inl (e8 _ (by simp))) e, r⟩
  · obtain ⟨o, e, r⟩ := e7; exact ⟨o, k _ _ (.inl (e8 _ (by simp))) e, r⟩
theorem Hit.mono {h₀ h₁ h : Heap} {f : Addr} {i j : Int} (x : Hit h₁ h f i j) (k : ∀ a, h₁.get? a = none → h₀.get? a = none) : Hit h₀ h f i j := by
  obtain ⟨d, sp, c1, c2, fdF, pm, cv, doc, ct, t, u, m, e1, e2, e3, e4, e5, e6, e7, e8⟩ := x
  exact ⟨d, sp, c1, c2, fdF, pm, cv, doc, ct, t, u, m, e1, e2, e3, e4, e5, e6, e7, fun a ha => k a (e8 a ha)⟩
theorem none_of_le {h h' : Heap} (k : Le h h') {a : Addr} (e : h'.get? a = none) : h.get? a = none := by
  cases q : h.get? a with
  | none => rfl
  | some o => have := k _ _ q; rw [e] at this; cases this
theorem ns_ne {h : Heap} {L a : Addr} {m : Str → Option Value} (n : h.Ns L m) (e : h.get? a = none) : a ≠ L := by
  rintro rfl; obtain ⟨o, _, _, ho, _⟩ := n; rw [ho] at e; cases e
theorem none_of_leT {h h' : Heap} (T : Tb h') (k : LeT h h') {a : Addr} (e : h'.get? a = none) : h.get? a = none := by
  cases q : h.get? a with
  | none => rfl
  | some o =>
    have := k a o (by rintro rfl; obtain ⟨ps, e1, _⟩ := T.a; rw [e] at e1; cases e1) (by rintro rfl; obtain ⟨ps, e1, _⟩ := T.b; rw [e] at e1; cases e1) q
    rw [e] at this; cases this
theorem call_found {prog : Program} {w : World} {A : Around} {s : Shared} {E : Value → Shared → Prop} {Q : Value → Shared → Prop} {mg mb : Str → Option Value} {i j : Int} {t u : Tok}
    (W : Wd w mg mb s.heap) (T : Tb s.heap) (hroom : A.depth < recursionLimit)
    (h : ∀ f h' tk, s.heap.get? f = none → LeT s.heap h' → Tb h' → Hit s.heap h' f i j → Q (.ref f) { s with heap := h', toks := tk }) :
    wpAny (model prog w) A (call (.ref 40) [.int i t, .int j u]) Q E s := by
  refine c_defC W hroom (look_found w.params) rfl (binds := [(nm "first", .int i t), (nm "behind", .int j u)]) rfl ?_ (hkind := ?_)
  · intro h₁ tk Fa hc
    have W1 := W.le Fa.keep
    have T1 := T.le Fa.keep
    have hL0 : s.heap.get? s.heap.objs.size = none := none_at_size _
    have cA := hc (nm "first") (s.heap.objs.size + 1) rfl
    have cB := hc (nm "behind") (s.heap.objs.size + 1 + 1) rfl
    have cA' : h₁.IsCell (s.heap.objs.size + 1) (some (.int i t)) := cA.1
    have cB' : h₁.IsCell (s.heap.objs.size + 1 + 1) (some (.int j u)) := cB.1
    clear cA cB hc
    have nA : s.heap.get? (s.heap.objs.size + 1) = none := Heap.get?_none_of_le (by omega)
    have nB : s.heap.get? (s.heap.objs.size + 1 + 1) = none := Heap.get?_none_of_le (by omega)
    have nAL : s.heap.objs.size + 1 ≠ s.heap.objs.size := by omega
    have nBL : s.heap.objs.size + 1 + 1 ≠ s.heap.objs.size := by omega
    show wpAny _ _ (execs (_ :: _ :: _) _) _ _ _
    repeat (walk_at "mj")
    refine mk_lam qHit (.inl ⟨rfl, rfl, rfl⟩) rfl W1 T1 rfl rfl rfl (by kernel_rfl) (by decide +kernel) (by decide +kernel) fun f h2 tk2 pm cv doc ct hf k2 ok2 T2 hof => ?_
    have F1 := Fa.hidden
    have F2 := F1.leT T1 k2 (hid_35 _) (hid_42 _)
    have hf0 := none_of_le Fa.keep hf
    have hfL := ns_ne Fa.ns hf
    refine s_loc F2 (fun h3 tk3 F3 hs3 => ?_)
    have T3 := T2.ns F2.ns hs3
    have W3 := W.leT T (hid_LeT F3.keep)
    have hof3 := (hs3.2 f hfL).trans hof
    have cA3 := (T1.cellT k2 cA').sameBut hs3 nAL
    have cB3 := (T1.cellT k2 cB').sameBut hs3 nBL
    dsimp only
    repeat (walk_at "mj")
    refine plainObj_wpAny_Assign_Attribute ?_
    refine mk_lam qHit (.inl ⟨rfl, rfl, rfl⟩) rfl W3 T3 rfl rfl rfl (by kernel_rfl) (by decide +kernel) (by decide +kernel) fun sp h4 tk4 pm4 cv4 doc4 ct4 hsp k4 ok4 T4 hosp => ?_
    have F4 := F3.leT T3 k4 (hid_35 _) (hid_42 _)
    have hof4 := T3.get k4 hof3 (.inr fun vs q => by cases q)
    have hspf : sp ≠ f := by rintro rfl; rw [hof3] at hsp; cases hsp
    refine n_loc F4 (v := .ref f) rfl ?_
    refine set_fn hof4 lk_fn_span fun h5 d tk5 e1 e2 e3 e4 => ?_
    have F5 : Fm (hid s.heap) s.heap.objs.size h5 _ := ⟨F4.ns.at' fun o e => e4 _ _ hfL.symm e, fun b o e => e4 _ _ (by rintro rfl; have := hid_le _ _ _ e; rw [hf0] at this; cases this) (F4.keep _ _ e), F4.gL⟩
    have T5 : Tb h5 := T4.but (fun b => b = f) (fun b o z e => e4 b o z e) fun a o z e => by subst z; rw [hof4] at e; cases e; exact .inr fun vs q => by cases q
    dsimp only
    repeat (walk_at "mj")
    have k5 : LeT s.heap h5 := hid_LeT F5.keep
    refine h f h5 tk5 hf0 k5 T5 ⟨d, sp, s.heap.objs.size + 1, s.heap.objs.size + 1 + 1, _, pm4, cv4, doc4, ct4, t, u, _, e1, e2, if_pos rfl, e4 _ _ hspf hosp, ?_, ?_, ?_, ?_⟩
    · exact ok4.but (Z := fun b => b = f) (fun b o z e => e4 b o z e) fun a o z e => by subst z; rw [hof4] at e; cases e; exact .inl (.inr fun vs q => by cases q)
    · obtain ⟨o, e, r⟩ := T3.cellT k4 cA3
      exact ⟨o, e4 _ _ (by rintro q; rw [q, hof4] at e; cases e; cases r) e, r⟩
    · obtain ⟨o, e, r⟩ := T3.cellT k4 cB3
      exact ⟨o, e4 _ _ (by rintro q; rw [q, hof4] at e; cases e; cases r) e, r⟩
    · intro a ha
      simp only [List.mem_cons, List.not_mem_nil, or_false] at ha
      rcases ha with rfl | rfl | rfl | rfl | rfl
      · exact hf0
      · exact none_of_leT T4 (hid_LeT F4.keep) e3
      · exact none_of_leT T3 (hid_LeT F3.keep) hsp
      · exact nA
      · exact nB
  · intro x hx
    simp only [List.mem_cons, List.not_mem_nil, or_false] at hx
    rcases hx with rfl | rfl
    · exact .inr ⟨rfl, rfl⟩
    · exact .inr ⟨rfl, rfl⟩

/-! hit.span() -/
theorem do_span {prog : Program} {w : World} {A : Around} {s : Shared} {E : Value → Shared → Prop} {Q : Value → Shared → Prop} {mg mb : Str → Option Value} {i j : Int} {f : Addr} {h₀ : Heap} {env : Env} {pos : Pos} {pl : Sem Bool}
    (W : Wd w mg mb s.heap) (hroom : A.depth < recursionLimit) (X : Hit h₀ s.heap f i j)
    (h : ∀ a h' tk t u, s.heap.get? a = none → Le s.heap h' → h'.get? a = some { cls := .type "tuple", data := .seq #[.int i t, .int j u] } → Q (.ref a) { s with heap := h', toks := tk }) :
    wpAny (model prog w) A (getMethod (.ref f) (nm "span") pl) (fun fx s₂ => wpAny (model prog w) A (callWith pos fx.1 fx.2 (backTo pos (starEach [] env)) []) Q E s₂) E s := by
  obtain ⟨d, sp, c1, c2, fdF, pm, cv, doc, ct, t, u, m, e1, e2, e3, e4, e5, e6, e7, e8⟩ := X
  refine meth_fn e1 lk_fn_span e2 e3 fun tk => ?_
  refine callWith_F0 ⟨_, _, _, _, e4⟩ ?_
  show wpAny _ _ (call (.ref sp) []) _ _ _
  refine wpAny_call (kla_callFunE hroom e4 rfl rfl rfl rfl e5.rec_ ?_)
  show wpAny _ _ (pure []) _ _ _
  refine wpAny_pure (wpAny_newFunctionEnv (by show ∀ x ∈ (lamScope spanLam).names, x.2 ≠ .cell; decide +kernel) (fun x hx => by cases hx) (fun h₁ hns hsb => ⟨W.nl.fresh _ hsb, ?_⟩) rfl)
  dsimp only at hns hsb ⊢
  have k1 : Le s.heap h₁ := fun b o e => hsb.extBut b o (Nat.ne_of_lt (Heap.lt_size e)) (Heap.get?_push_of_some _ e)
  refine kla_codeExpr ?_
  show wpAny _ _ (eval (Expr.Tuple [_, _] _ _) _) _ _ _
  refine Tuple_ ?_
  repeat (walk_at "mj")
  refine n_free (c := c1) (e6.keeps k1) ?_ (by rfl)
  repeat (walk_at "mj")
  refine n_free (c := c2) (e7.keeps k1) ?_ (by rfl)
  repeat (walk_at "mj")
  refine new_tuple fun a h2 ha k2 ho => ?_
  exact h a h2 _ t u (none_of_le k1 ha) (k1.trans k2) ho

/-! _law_finder -/
noncomputable def srchDef : Stmt := (fdBody (stOf 7)).getD 0 (.Pass default)
abbrev qSrch : Str := nm "_law_finder.<locals>.search"
abbrev qProg : Str := nm "_law_finder.<locals>.<lambda>"
noncomputable abbrev srchFn (T c : Addr) (pm cv doc ct : Value) : FuncData := clFn (nm "search") qSrch (fdArgs srchDef) (.stmts (fdBody srchDef)) (fdScope srchDef) [(nm "word", c)] (.ref T) pm cv doc ct
abbrev tupO (vs : Array Value) : Obj := { cls := .type "tuple", data := .seq vs }
def Srch (h₀ h : Heap) (sr : Addr) (b : Bool) (wl : List Nat) : Prop := ∃ T c pm cv doc ct t u,
  h.get? sr = some (fnO none (srchFn T c pm cv doc ct)) ∧ h.get? T = some (tupO #[.int 0 t]) ∧ CodeOk h cv qSrch ∧ h.IsCell c (some (V b wl u)) ∧ ∀ a ∈ [sr, T, c], h₀.get? a = none
def Finder (h₀ h : Heap) (p : Addr) (b : Bool) (wl : List Nat) : Prop := ∃ d sr fdP m,
  h.get? p = some (fnO (some d) fdP) ∧ h.Ns d m ∧ m (nm "search") = some (.ref sr) ∧ Srch h₀ h sr b wl ∧ ∀ a ∈ [p, d], h₀.get? a = none
theorem Srch.stay {h₀ h h' : Heap} {sr : Addr} {b : Bool} {wl : List Nat} (x : Srch h₀ h sr b wl) (k : Kept h₀ h h') : Srch h₀ h' sr b wl := by
  obtain ⟨T, c, pm, cv, doc, ct, t, u, e1, e2, e3, e4, e5⟩ := x
  refine ⟨T, c, pm, cv, doc, ct, t, u, k _ _ (.inl (e5 _ (by simp))) e1, k _ _ (.inl (e5 _ (by simp))) e2, ?_, ?_, e5⟩
  · obtain ⟨c, o, vs, t, e, ho, hc, hd, r⟩ := e3
    exact ⟨c, o, vs, t, e, k _ _ (.inr ⟨hc, _, hd⟩) ho, hc, hd, r⟩
  · obtain ⟨o, e, r⟩ := e4; exact ⟨o, k _ _ (.inl (e5 _ (by simp))) e, r⟩
theorem Finder.stay {h₀ h h' : Heap} {p : Addr} {b : Bool} {wl : List Nat} (x : Finder h₀ h p b wl) (k : Kept h₀ h h') : Finder h₀ h' p b wl := by
  obtain ⟨d, sr, fdP, m, e1, e2, e3, e4, e5⟩ := x
  exact ⟨d, sr, fdP, m, k _ _ (.inl (e5 _ (by simp))) e1, e2.at' (fun o e => k _ _ (.inl (e5 _ (by simp))) e), e3, e4.stay k, e5⟩
theorem Finder.leT {h₀ h h' : Heap} {p : Addr} {b : Bool} {wl : List Nat} (x : Finder h₀ h p b wl) (T : Tb h) (k : LeT h h') : Finder h₀ h' p b wl := by
  obtain ⟨d, sr, fdP, m, e1, e2, e3, ⟨Ta, c, pm, cv, doc, ct, t, u, f1, f2, f3, f4, f5⟩, e5⟩ := x
  refine ⟨d, sr, fdP, m, T.get k e1 (.inr fun vs q => by cases q), T.nsT k e2, e3, ⟨Ta, c, pm, cv, doc, ct, t, u, T.get k f1 (.inr fun vs q => by cases q), T.get k f2 (.inr fun vs q => by cases q), ?_, T.cellT k f4, f5⟩, e5⟩
  obtain ⟨c, o, vs, t, e, ho, hc, hd, r⟩ := f3
  exact ⟨c, o, vs, t, e, T.get k ho (.inl (by rw [hc]; intro q; cases q)), hc, hd, r⟩
theorem call_finder {prog : Program} {w : World} {A : Around} {s : Shared} {E : Value → Shared → Prop} {Q : Value → Shared → Prop} {mg mb : Str → Option Value} {b : Bool} {wl : List Nat} {t : Tok}
    (W : Wd w mg mb s.heap) (T : Tb s.heap) (hroom : A.depth < recursionLimit)
    (h : ∀ f h' tk, LeT s.heap h' → Tb h' → Finder s.heap h' f b wl → Q (.ref f) { s with heap := h', toks := tk }) :
    wpAny (model prog w) A (call (.ref 47) [V b wl t]) Q E s := by
  refine c_defC W hroom (look_finder w.params) rfl (binds := [(nm "word", V b wl t)]) rfl ?_ (hkind := ?_)
  · intro h₁ tk Fa hc
    have W1 := W.le Fa.keep
    have T1 := T.le Fa.keep
    have cA := (hc (nm "word") (s.heap.objs.size + 1) rfl).1
    have cA' : h₁.IsCell (s.heap.objs.size + 1) (some (V b wl t)) := cA
    clear cA hc
    have nA : s.heap.get? (s.heap.objs.size + 1) = none := Heap.get?_none_of_le (by omega)
    have nAL : s.heap.objs.size + 1 ≠ s.heap.objs.size := by omega
    show wpAny _ _ (execs (_ :: _ :: _) _) _ _ _
    refine wpAny_execs_cons ?_
    show wpAny _ _ (exec (Stmt.FunctionDef _ _ _ [] none [] _ none _ _) _) _ _ _
    rw [exec_def]
    refine wpAny_bind (wpAny_standAt (wpAny_bind (wpAny_holding ?_)))
    rw [defaultsOf_eq]
    refine wpAny_bind ?_
    show wpAny _ _ (evalAll [eval (Expr.Constant (Const.int 0) _ _) _]) _ _ _
    refine wpAny_evalAll_cons ?_
    repeat (walk_at "mj")
    refine wpAny_evalAll_nil ?_
    refine wpAny_bind (wpAny_holding (wpAny_pure ?_))
    refine wpAny_holding (wpAny_bind (wpAny_pure ?_))
    rw [makeFunction_eq]
    simp only [List.isEmpty_cons, Bool.false_eq_true, if_false, List.zip_nil_right, List.zip_nil_left, List.filterMap_nil, List.isEmpty_nil, if_true, pure_bind]
    refine wpAny_bind (wpAny_newTextTuple ?_)
    dsimp only
    generalize hTa : h₁.objs.size = Ta
    have hTan : h₁.get? Ta = none := by rw [← hTa]; exact none_at_size _
    generalize hh2 : h₁.push { cls := .type "tuple", data := .seq _ } = h2
    have k12 : Le h₁ h2 := by rw [← hh2]; exact le_push _ _
    have hTo : h2.get? Ta = some (tupO #[.int 0 tk]) := by rw [← hh2, ← hTa]; exact Heap.get?_push_size _ rfl
    have W2 := W1.le k12
    have T2 := T1.le k12
    have F2 := (Fa.le k12).hidden
    refine mk_fun (name := nm "search") (qual := qSrch) (.inr ⟨rfl, rfl, rfl⟩) W2 T2 rfl rfl rfl (by decide +kernel) (by decide +kernel) fun sr h3 tk3 pm cv doc ct hsr k3 ok3 T3 hosr => ?_
    have F3 := F2.leT T2 k3 (hid_35 _) (hid_42 _)
    have hsrL := ns_ne F2.ns hsr
    have hsr1 := none_of_le k12 hsr
    have hTaL := ns_ne Fa.ns hTan
    refine wpAny_bind (wpAny_standAt (wpAny_bind (wpAny_bindName ?_)))
    refine s_loc F3 (fun h4 tk4 F4 hs4 => ?_)
    have T4 := T3.ns F3.ns hs4
    have W4 := W.leT T (hid_LeT F4.keep)
    have hosr4 := (hs4.2 sr hsrL).trans hosr
    have hTo4 := (hs4.2 Ta hTaL).trans (T2.get k3 hTo (.inr fun vs q => by cases q))
    have cA4 := (T2.cellT k3 (cA'.keeps k12)).sameBut hs4 nAL
    have ok4 := ok3.but (Z := fun b => b = s.heap.objs.size) (fun b o z e => (hs4.2 b z).trans e) (fun a o z e => by
      subst z
      obtain ⟨o', es, ep, e', d, _⟩ := F3.ns
      rw [e'] at e; cases e
      exact .inl (.inr fun vs q => by rw [d] at q; cases q))
    refine wpAny_pure ?_
    dsimp only
    repeat (walk_at "mj")
    refine mk_lam qProg (.inr ⟨rfl, rfl, rfl⟩) rfl W4 T4 rfl rfl rfl (by kernel_rfl) (by decide +kernel) (by decide +kernel) fun f h5 tk5 pm5 cv5 doc5 ct5 hf k5 ok5 T5 hof => ?_
    have F5 := F4.leT T4 k5 (hid_35 _) (hid_42 _)
    have hf0 := none_of_leT T4 (hid_LeT F4.keep) hf
    have hfL := ns_ne F4.ns hf
    refine s_loc F5 (fun h6 tk6 F6 hs6 => ?_)
    have T6 := T5.ns F5.ns hs6
    have hof6 := (hs6.2 f hfL).trans hof
    have hsrf : sr ≠ f := by rintro rfl; rw [hosr4] at hf; cases hf
    have hTaf : Ta ≠ f := by rintro rfl; rw [hTo4] at hf; cases hf
    dsimp only
    repeat (walk_at "mj")
    refine plainObj_wpAny_Assign_Attribute ?_
    repeat (walk_at "mj")
    refine set_fn hof6 lk_fn_search fun h7 d tk7 e1 e2 e3 e4 => ?_
    have F7 := (⟨F6.ns.at' fun o e => e4 _ _ hfL.symm e, fun b o e => e4 _ _ (by rintro rfl; have := hid_le _ _ _ e; rw [hf0] at this; cases this) (F6.keep _ _ e), F6.gL⟩ : Fm (hid s.heap) s.heap.objs.size h7 _)
    have T7 : Tb h7 := T6.but (fun b => b = f) (fun b o z e => e4 b o z e) fun a o z e => by subst z; rw [hof6] at e; cases e; exact .inr fun vs q => by cases q
    dsimp only
    repeat (walk_at "mj")
    have up : ∀ b o, b ≠ f → b ≠ s.heap.objs.size → (o.cls ≠ .none ∨ ∀ vs, o.data ≠ .fields vs) → h4.get? b = some o → h7.get? b = some o := fun b o n1 n2 n3 e => e4 _ _ n1 ((hs6.2 b n2).trans (T4.get k5 e n3))
    refine h f h7 _ (hid_LeT F7.keep) T7 ⟨d, sr, _, _, e1, e2, if_pos rfl, ⟨Ta, s.heap.objs.size + 1, pm, cv, doc, ct, tk, t, up _ _ hsrf hsrL (.inr fun vs q => by cases q) hosr4, up _ _ hTaf hTaL (.inr fun vs q => by cases q) hTo4, ?_, ?_, ?_⟩, ?_⟩
    · obtain ⟨c, o, vs, t, e, ho, hc, hd, r⟩ := ok4
      refine ⟨c, o, vs, t, e, up _ _ ?_ ?_ (.inl (by rw [hc]; intro q; cases q)) ho, hc, hd, r⟩
      · rintro rfl; rw [ho] at hf; cases hf
      · rintro rfl
        obtain ⟨o', es, ep, e', d, _⟩ := F4.ns
        have e'' : h4.get? s.heap.objs.size = some o' := e'
        rw [e''] at ho; cases ho; rw [hd] at d; cases d
    · obtain ⟨o, e, r⟩ := cA4
      exact ⟨o, up _ _ (by rintro q; rw [q, hf] at e; cases e) nAL (.inr fun vs q => by rw [r] at q; cases q) e, r⟩
    · intro a ha
      simp only [List.mem_cons, List.not_mem_nil, or_false] at ha
      rcases ha with rfl | rfl | rfl
      · exact none_of_le Fa.keep hsr1
      · exact none_of_le Fa.keep hTan
      · exact nA
    · intro a ha
      simp only [List.mem_cons, List.not_mem_nil, or_false] at ha
      rcases ha with rfl | rfl
      · exact hf0
      · exact none_of_leT T6 (hid_LeT F6.keep) e3
  · intro x hx
    simp only [List.mem_cons, List.not_mem_nil, or_false] at hx
    rcases hx with rfl
    exact .inr ⟨rfl, rfl⟩

/-! a call of a def that lies on the heap -/
theorem c_fun {prog : Program} {w : World} {A : Around} {s : Shared} {E : Value → Shared → Prop} {Q : Value → Shared → Prop} {fd : FuncData} {f : Addr} {d : Option Addr} {body : List Stmt} {args : List Value} {binds : List (Str × Value)}
    (nl : s.heap.NoLimit) (hroom : A.depth < recursionLimit) (ho : s.heap.get? f = some (fnO d fd)) (hcd : s.heap.CodeRec fd.code fd.qualname)
    (hbody : fd.body = .stmts body) (hbind : BindsTo s fd ⟨args, []⟩ binds)
    (h : ∀ h₁ tk, Fm s.heap s.heap.objs.size h₁ (fun x => binds.reverse.lookup x) →
      wpAny (model prog w) (A.deeper (callEnv fd s.heap.objs.size f)) (execs body (callEnv fd s.heap.objs.size f))
        (fun fl s' => Q (match fl with | .ret v => v | _ => .none) s') (fun _ _ => False) { s with heap := h₁, toks := tk })
    (hcell : (fd.scope.names.all fun x => x.2 != .cell) = true := by kernel_rfl)
    (hloc : (binds.all fun x => fd.scope.names.lookup x.1 == some .local) = true := by kernel_rfl)
    (hco : fd.scope.isCoroutine = false := by kernel_rfl) (hgen : fd.scope.isGenerator = false := by kernel_rfl) (hk : fd.scope.kind = .function := by kernel_rfl) :
    wpAny (model prog w) A (call (.ref f) args) Q E s := by
  refine wpAny_call (codeAny_call_def (fd := fd) (body := body) (binds := binds) hroom ho _root_.rfl nl hcd hbody hbind ?_ ?_ (fun h₁ hns hk₁ => ?_) hco hgen hk)
  · intro x hx; simpa using List.all_eq_true.mp hcell x hx
  · intro x hx; simpa using List.all_eq_true.mp hloc x hx
  · exact wpAny_mono (h h₁ _ ⟨hns, hk₁, none_at_size _⟩) (fun _ _ x => x) (fun _ _ x => x.elim)
theorem call_search {prog : Program} {w : World} {A : Around} {s : Shared} {E : Value → Shared → Prop} {Q : Value → Shared → Prop} {mg mb : Str → Option Value} {b : Bool} {wl l : List Nat} {t v : Tok} {j : Nat} {sr : Addr} {h₀ : Heap} {args : List Value}
    (W : Wd w mg mb s.heap) (T : Tb s.heap) (hroom : A.depth + 1 < recursionLimit) (X : Srch h₀ s.heap sr b wl) (hw : wl ≠ []) (hl : ∀ c ∈ l, c < 256) (hwl : ∀ c ∈ wl, c < 256) (hj : j ≤ l.length) (hlen : wl.length ≤ 100000)
    (hargs : (args = [V b l t] ∧ j = 0) ∨ args = [V b l t, .int (j : Int) v])
    (h0 : ∀ h' tk, Finds l wl j none → LeT s.heap h' → Tb h' → Q .none { s with heap := h', toks := tk })
    (h1 : ∀ p f h' tk, Finds l wl j (some p) → LeT s.heap h' → Tb h' → s.heap.get? f = none → Hit s.heap h' f p (p + wl.length : Nat) → Q (.ref f) { s with heap := h', toks := tk }) :
    wpAny (model prog w) A (call (.ref sr) args) Q E s := by
  obtain ⟨Ta, c, pm, cv, doc, ct, t0, u, e1, e2, e3, e4, e5⟩ := X
  have hb : ∃ v', BindsTo s (srchFn Ta c pm cv doc ct) ⟨args, []⟩ [(nm "chars", V b l t), (nm "at", .int (j : Int) v')] := by
    rcases hargs with ⟨rfl, rfl⟩ | rfl
    · exact ⟨t0, BindsTo.of_defaults rfl e2 rfl rfl rfl⟩
    · exact ⟨v, BindsTo.of_defaults rfl e2 rfl rfl rfl⟩
  obtain ⟨v', hb⟩ := hb
  refine c_fun W.nl (by omega) e1 e3.rec_ rfl hb ?_
  intro h₁ tk Fa
  have W1 := W.le Fa.keep
  have T1 := T.le Fa.keep
  have cA := e4.keeps Fa.keep
  have hL0 : s.heap.get? s.heap.objs.size = none := none_at_size _
  generalize s.heap.objs.size = L at Fa hL0 ⊢
  show wpAny _ _ (execs (_ :: _ :: _) _) _ _ _
  repeat (walk_at "mj")
  refine meth_find ?_
  repeat (walk_at "mj")
  refine n_free (c := c) cA ?_ (by rfl)
  repeat (walk_at "mj")
  refine call_find hw hl hwl hj fun r u2 tk2 hr => ?_
  refine s_loc Fa (fun h2 tk3 F2 hs2 => ?_)
  have W2 := W.le F2.keep
  have T2 := T.le F2.keep
  have cA2 := e4.keeps F2.keep
  dsimp only
  repeat (walk_at "mj")
  refine split_dec (fun hc => ?_) (fun hc => ?_)
  · repeat (walk_at "mj")
    cases r with
    | some p => simp [placeInt] at hc; omega
    | none => exact h0 h2 _ hr F2.keep.toT T2
  · cases r with
    | none => exact absurd (by decide) hc
    | some p =>
      repeat (walk_at "mj")
      refine n_glob (.ref 40) W2 ?_
      refine cw_def (look_found w.params) ?_
      repeat (walk_at "mj")
      refine n_blt (.builtin "len") W2 (by decide +kernel) ?_
      repeat (walk_at "mj")
      refine n_free (c := c) cA2 ?_ (by rfl)
      repeat (walk_at "mj")
      refine len_V hlen fun u3 tk4 => ?_
      repeat (walk_at "mj")
      refine ⟨W2.K, ?_⟩
      refine call_found W2 T2 (by show A.depth + 1 < _; omega) fun f h3 tk5 hf k3 T3 X3 => ?_
      refine h1 p f h3 _ hr (F2.keep.toT.trans k3) T3 (none_of_le F2.keep hf) ?_
      have := X3.mono (h₀ := s.heap) fun a ha => none_of_le F2.keep ha
      rw [Int.natCast_add]
      exact this

/-! small steps for search_reverse -/
theorem truthy_fn {M : Model} {A : Around} {E : Value → Shared → Prop} {s : Shared} {Q : Bool → Shared → Prop} {f : Addr} {d : Option Addr} {fd : FuncData} (hf : s.heap.get? f = some (fnO d fd)) (h : Q true s) : wpAny M A (truthy (.ref f)) Q E s := by
  have hT : s.TypeIs (.ref f) "function" := ⟨_, hf, rfl⟩
  unfold truthy
  refine wpAny_bind (m := callSpecial? (.ref f) (Str.ofString "__bool__")) (wpAny_callSpecial?_none hT (by rw [typeLookup_type, builtinLookup_eq_fast]; kernel_rfl) ?_)
  refine wpAny_bind (m := specialOf (.ref f) (Str.ofString "__len__")) (wpAny_specialOf hT (show typeLookup (.type "function") (Str.ofString "__len__") = pure none by rw [typeLookup_type, builtinLookup_eq_fast]; kernel_rfl) ?_)
  exact wpAny_pure h
theorem assign2 {prog : Program} {w : World} {A : Around} {s : Shared} {E : Value → Shared → Prop} {Q : Unit → Shared → Prop} {env : Env} {g : Heap} {m : Str → Option Value} {x y : Str} {px py pos : Pos} {k : Nat} {t : Addr} {a b : Value}
    (F : Fm g env.locals s.heap m) (hh : A.handled = none) (ht : s.heap.get? t = some (tupO #[a, b]))
    (h : ∀ h' tk, Fm g env.locals h' (fun z => if z = y then some b else if z = x then some a else m z) → (∀ c o, c ≠ env.locals → s.heap.get? c = some o → h'.get? c = some o) → Q () { s with heap := h', toks := tk })
    (hk : (env.scope.kind == .class || (env.scope.kind == .module && env.locals != env.globals)) = false := by kernel_rfl) (hx : env.kindOf x = some .local := by kernel_rfl) (hy : env.kindOf y = some .local := by kernel_rfl) :
    wpAny (model prog w) A (assign (.Tuple [.Name x px, .Name y py] k pos) env (.ref t)) Q E s := by
  refine wpAny_assign_Tuple hh (items := #[a, b]) ⟨_, ht, rfl, 0, rfl⟩ rfl rfl fun h1 k1 => ?_
  have k1' : Le s.heap h1 := fun c o e => k1 c o (Nat.ne_of_lt (Heap.lt_size e)) e
  show wpAny _ _ (do holding [b] (assign (.Name x px) env a); (do holding [] (assign (.Name y py) env b); pure ())) _ _ _
  refine wpAny_bind (wpAny_holding (wpAny_assign_Name (s_loc (F.le k1') (fun h2 tk2 F2 hs2 => ?_) hk hx)))
  refine wpAny_bind (wpAny_holding (wpAny_assign_Name (s_loc F2 (fun h3 tk3 F3 hs3 => ?_) hk hy)))
  exact wpAny_pure (h h3 tk3 F3 fun c o n e => (hs3.2 c n).trans ((hs2.2 c n).trans (k1' c o e)))
inductive Chain (l wl : List Nat) : Nat → List Nat → Prop
  | nil {j : Nat} : Finds l wl j none → Chain l wl j []
  | cons {j p : Nat} {ps : List Nat} : Finds l wl j (some p) → Chain l wl (p + wl.length) ps → Chain l wl j (p :: ps)
theorem Finds.unique {l wl : List Nat} {j : Nat} : ∀ {r r' : Option Nat}, Finds l wl j r → Finds l wl j r' → r = r'
  | none, none, _, _ => rfl
  | none, some p, h, h' => absurd h'.2.1 (h p h'.1)
  | some p, none, h, h' => absurd h.2.1 (h' p h.1)
  | some p, some q, h, h' => by
    congr 1
    rcases Nat.lt_trichotomy p q with hlt | heq | hgt
    · exact absurd h.2.1 (h'.2.2 p h.1 hlt)
    · exact heq
    · exact absurd h'.2.1 (h.2.2 q h'.1 hgt)
theorem Chain.none {l wl : List Nat} {j : Nat} {ps : List Nat} (h : Chain l wl j ps) (hf : Finds l wl j none) : ps = [] := by
  cases h with
  | nil => rfl
  | cons h1 _ => cases h1.unique hf
theorem Chain.some {l wl : List Nat} {j p : Nat} {ps : List Nat} (h : Chain l wl j ps) (hf : Finds l wl j (some p)) : ∃ ps', ps = p :: ps' ∧ Chain l wl (p + wl.length) ps' := by
  cases h with
  | nil h1 => cases h1.unique hf
  | cons h1 h2 => cases h1.unique hf; exact ⟨_, rfl, h2⟩
/-- what search_reverse hands back -/
def lastBy (ps : List Nat) (n col : Nat) : Option Nat := (ps.takeWhile fun p => decide (p + n ≤ col)).getLast?
def FoundIs (h₀ h : Heap) (n : Nat) (v : Value) : Option Nat → Prop
  | none => v = .none
  | some p => ∃ f, v = .ref f ∧ Hit h₀ h f p (p + n : Nat)
theorem FoundIs.stay {h₀ h h' : Heap} {n : Nat} {v : Value} {r : Option Nat} (x : FoundIs h₀ h n v r) (k : Kept h₀ h h') : FoundIs h₀ h' n v r := by
  cases r with
  | none => exact x
  | some p => obtain ⟨f, e, X⟩ := x; exact ⟨f, e, X.stay k⟩
theorem lastBy_stop {d ps : List Nat} {p n col : Nat} (hd : ∀ q ∈ d, q + n ≤ col) (hp : ¬ p + n ≤ col) : lastBy (d ++ p :: ps) n col = d.getLast? := by
  unfold lastBy
  rw [List.takeWhile_append_of_pos (by intro q hq; simpa using hd q hq), List.takeWhile_cons_of_neg (by simpa using hp), List.append_nil]
theorem lastBy_all {d : List Nat} {n col : Nat} (hd : ∀ q ∈ d, q + n ≤ col) : lastBy d n col = d.getLast? := by
  unfold lastBy
  congr 1
  have : d.takeWhile (fun p => decide (p + n ≤ col)) = d := by
    have := List.takeWhile_append_of_pos (l₂ := []) (p := fun p => decide (p + n ≤ col)) (l₁ := d) (by intro q hq; simpa using hd q hq)
    simpa using this
  exact this

/-! search_reverse -/
abbrev Ex (h h' : Heap) : Prop := ∀ a, h'.get? a = none → h.get? a = none
theorem Ex.leT {h h' : Heap} (T : Tb h') (k : LeT h h') : Ex h h' := fun _ e => none_of_leT T k e
theorem Ex.ns {h h' : Heap} {L : Addr} {m' : Str → Option Value} (n : h'.Ns L m') (k : ∀ b o, b ≠ L → h.get? b = some o → h'.get? b = some o) : Ex h h' := fun a e => by
  have ne := ns_ne n e
  cases q : h.get? a with
  | none => rfl
  | some o => have := k a o ne q; rw [e] at this; cases this
structure RevInv (h₁ G : Heap) (L p : Addr) (b : Bool) (l wl ps : List Nat) (col : Nat) (t u : Tok) (n : Nat) (mm : Str → Option Value) (h : Heap) : Prop where
  F : Fm G L h mm
  T : Tb h
  ex : Ex h₁ h
  hprog : mm (nm "prog") = some (.ref p)
  hchars : mm (nm "chars") = some (V b l t)
  hcol : mm (nm "col") = some (.int (col : Int) u)
  hrest : ∃ (done : List Nat) (q : Nat) (rest : List Nat) (fm : Addr) (fv : Value) (t1 t2 : Tok), mm (nm "m") = some (.ref fm) ∧ mm (nm "found") = some fv ∧ mm (nm "i") = some (.int (q : Int) t1) ∧ mm (nm "j") = some (.int ((q + wl.length : Nat) : Int) t2) ∧
    ps = done ++ q :: rest ∧ (∀ x ∈ done, x + wl.length ≤ col) ∧ Chain l wl (q + wl.length) rest ∧ q + wl.length ≤ l.length ∧ Hit h₁ h fm q (q + wl.length : Nat) ∧ FoundIs h₁ h wl.length fv done.getLast? ∧ n = rest.length + 1
theorem call_rev {prog : Program} {w : World} {A : Around} {s : Shared} {E : Value → Shared → Prop} {Q : Value → Shared → Prop} {mg mb : Str → Option Value} {b : Bool} {wl l ps : List Nat} {t u : Tok} {col : Nat} {p : Addr} {h₀ : Heap}
    (W : Wd w mg mb s.heap) (T : Tb s.heap) (hroom : A.depth + 2 < recursionLimit) (hh : A.handled = none) (X : Finder h₀ s.heap p b wl) (hw : wl ≠ []) (hl : ∀ c ∈ l, c < 256) (hwl : ∀ c ∈ wl, c < 256) (hlen : wl.length ≤ 100000)
    (C : Chain l wl 0 ps)
    (h : ∀ v h' tk, LeT s.heap h' → Tb h' → FoundIs s.heap h' wl.length v (lastBy ps wl.length col) → Q v { s with heap := h', toks := tk }) :
    wpAny (model prog w) A (call (.ref 33) [.ref p, V b l t, .int (col : Int) u]) Q E s := by
  have hwp : 0 < wl.length := List.length_pos_iff.mpr hw
  refine c_def W (by omega) (look_rev w.params) rfl (binds := [(nm "prog", .ref p), (nm "chars", V b l t), (nm "col", .int (col : Int) u)]) (BindsTo.of_eq rfl) ?_
  intro h₁ tk Fa
  have W1 := W.le Fa.keep
  have T1 := T.le Fa.keep
  have F1 := Fa.hidden
  have n1 := Fa.ns
  have hL0 : s.heap.get? s.heap.objs.size = none := none_at_size _
  have k01 : Le s.heap h₁ := Fa.keep
  generalize s.heap.objs.size = L at F1 n1 hL0 ⊢
  clear Fa
  show wpAny _ _ (execs (_ :: _ :: _) _) _ _ _
  repeat (walk_at "mj")
  have X1 := X.leT T k01.toT
  obtain ⟨d, sr, fdP, m, e1, e2, e3, S1, e5⟩ := id X1
  obtain ⟨oc, od, of_, os_, e6⟩ : FnAt sr h₁ := by obtain ⟨Ta, c, pm, cv, doc, ct, t, u, f1, _⟩ := S1; exact ⟨_, _, _, _, f1⟩
  refine meth_fn e1 lk_fn_search e2 e3 fun tk2 => ?_
  refine callWith_F ⟨_, _, _, _, e6⟩ ?_
  repeat (walk_at "mj")
  refine ⟨⟨_, _, _, _, e6⟩, ?_⟩
  refine call_search (j := 0) (v := 0) W1 T1 (by show A.depth + 1 + 1 < _; omega) S1 hw hl hwl (Nat.zero_le _) hlen (.inl ⟨rfl, rfl⟩) ?_ ?_
  · intro h2 tk3 hr k2 T2
    have F2 := F1.leT T1 k2 (hid_35 _) (hid_42 _)
    refine s_loc F2 (fun h3 tk4 F3 hs3 => ?_)
    have T3 := T2.ns F2.ns hs3
    dsimp only
    repeat (walk_at "mj")
    refine truthy_none ?_
    rw [if_pos (show (!false) = true from rfl)]
    repeat (walk_at "mj")
    have := C.none hr
    subst this
    exact h .none h3 _ (hid_LeT F3.keep) T3 rfl
  · intro q f h2 tk3 hr k2 T2 hf0 XH
    obtain ⟨ps', rfl, C'⟩ := C.some hr
    have hql := pre_len hw hr.2.1
    have F2 := F1.leT T1 k2 (hid_35 _) (hid_42 _)
    refine s_loc F2 (fun h3 tk4 F3 hs3 => ?_)
    have T3 := T2.ns F2.ns hs3
    have XH3 := XH.stay (Kept.ns n1 F2.ns hs3)
    have ex3 : Ex h₁ h3 := fun a e => Ex.leT T2 k2 a (Ex.ns F3.ns (fun b o z e => (hs3.2 b z).trans e) a e)
    have fo : ∃ d fd, h3.get? f = some (fnO d fd) := by obtain ⟨d, sp, c1, c2, fdF, pm, cv, doc, ct, t, u, m, e1, _⟩ := XH3; exact ⟨_, _, e1⟩
    obtain ⟨fd_, ff_, fo⟩ := fo
    dsimp only
    repeat (walk_at "mj")
    refine truthy_fn fo ?_
    rw [if_neg (show ¬ (!true) = true by decide)]
    repeat (walk_at "mj")
    refine s_loc F3 (fun h4 tk5 F4 hs4 => ?_)
    have T4 := T3.ns F3.ns hs4
    have XH4 := XH3.stay (Kept.ns n1 F3.ns hs4)
    have ex4 : Ex h₁ h4 := fun a e => ex3 a (Ex.ns F4.ns (fun b o z e => (hs4.2 b z).trans e) a e)
    have W4 := W.leT T (hid_LeT F4.keep)
    dsimp only
    repeat (walk_at "mj")
    refine Assign_Tuple ?_
    repeat (walk_at "mj")
    refine do_span W4 (by show A.depth + 1 < _; omega) XH4 fun a h5 tk6 t1 t2 ha k5 ho => ?_
    refine assign2 (F4.le k5) hh ho (fun h6 tk7 F6 hk6 => ?_)
    have T5 := T4.le k5
    have T6 : Tb h6 := T5.nsB (F4.le k5).ns hk6
    have kp6 : Kept h₁ h5 h6 := Kept.nsB n1 (F4.le k5).ns hk6
    have XH6 := (XH4.stay (Kept.leT T1 T4 k5.toT)).stay kp6
    have ex6 : Ex h₁ h6 := fun a e => ex4 a (none_of_le k5 (Ex.ns F6.ns (fun b o z e => hk6 b o z e) a e))
    dsimp only
    refine wpAny_execs_cons ?_
    refine wpAny_While ?_
    refine codeAny_whileLoop (fun n s' => ∃ h' tk' mm, s' = { s with heap := h', toks := tk' } ∧ RevInv h₁ (hid s.heap) L p b l wl (q :: ps') col t u n mm h') ?_ (ps'.length + 1) ⟨h6, _, _, rfl, F6, T6, ex6, rfl, rfl, rfl, [], q, ps', f, .none, t1, t2, rfl, rfl, rfl, rfl, rfl, (by simp), C', hql, XH6, rfl, rfl⟩
    rintro n s' ⟨h7, tk8, mm, rfl, I⟩
    obtain ⟨done, q, rest, fm, fv, t1, t2, hm, hfound, hi, hj, hps, hdone, CC, hql, XH, XF, hn⟩ := I.hrest
    have F7 := I.F
    have i1 := I.hprog
    have i2 := I.hchars
    have i3 := I.hcol
    have stop : ¬ q + wl.length ≤ col → ∀ tk', Q fv { s with heap := h7, toks := tk' } := fun hc tk' => by
      refine h fv h7 tk' (hid_LeT F7.keep) I.T ?_
      rw [hps, lastBy_stop hdone hc]
      cases hg : done.getLast? with
      | none => rw [hg] at XF; exact XF
      | some x => rw [hg] at XF; obtain ⟨f, e, Y⟩ := XF; exact ⟨f, e, Y.mono fun a e => none_of_le k01 e⟩
    repeat (walk_at "mj")
    refine split_dec (fun c1 => ?_) (fun c1 => ?_)
    · repeat (walk_at "mj")
      refine split_dec (fun c2 => ?_) (fun c2 => ?_)
      · have c2' : q + wl.length ≤ col := by omega
        repeat (walk_at "mj")
        rw [if_pos rfl]
        refine hideQ fun Q' hQ' => ?_
        repeat (walk_at "mj")
        refine s_loc F7 (fun h8 tk9 F8 hs8 => ?_)
        have T8 := I.T.ns F7.ns hs8
        have XH8 := XH.stay (Kept.ns n1 F7.ns hs8)
        have ex8 : Ex h₁ h8 := fun a e => I.ex a (Ex.ns F8.ns (fun b o z e => (hs8.2 b z).trans e) a e)
        dsimp only
        repeat (walk_at "mj")
        rw [if_neg (by rw [beq_iff_eq]; omega)]
        repeat (walk_at "mj")
        have W8 := W.leT T (hid_LeT F8.keep)
        have X8 := X.leT T (hid_LeT F8.keep)
        obtain ⟨d, sr, fdP, m, e1, e2, e3, S8, e5⟩ := id X8
        obtain ⟨oc, od, of_, os_, e6⟩ : FnAt sr h8 := by obtain ⟨Ta, c, pm, cv, doc, ct, t, u, f1, _⟩ := S8; exact ⟨_, _, _, _, f1⟩
        refine meth_fn e1 lk_fn_search e2 e3 fun tk2 => ?_
        refine callWith_F ⟨_, _, _, _, e6⟩ ?_
        repeat (walk_at "mj")
        refine ⟨⟨_, _, _, _, e6⟩, ?_⟩
        refine call_search (j := q + wl.length) W8 T8 (by show A.depth + 1 + 1 < _; omega) S8 hw hl hwl hql hlen (.inr rfl) ?_ ?_
        · intro h9 tk10 hr k9 T9
          have F9 := F8.leT T8 k9 (hid_35 _) (hid_42 _)
          have XH9 := XH8.stay (Kept.leT T1 T8 k9)
          refine s_loc F9 (fun ha tka Fa hsa => ?_)
          have Ta := T9.ns F9.ns hsa
          have XHa := XH9.stay (Kept.ns n1 F9.ns hsa)
          dsimp only
          repeat (walk_at "mj")
          refine truthy_none ?_
          rw [if_pos (show (!false) = true from rfl)]
          repeat (walk_at "mj")
          refine wpAny_Break ?_
          dsimp only
          refine hQ' .brk _ ?_
          dsimp only
          repeat (walk_at "mj")
          have := CC.none hr
          subst this
          refine h (.ref fm) ha _ (hid_LeT Fa.keep) Ta ?_
          rw [hps, lastBy_all (by intro x hx; rcases List.mem_append.mp hx with hx | hx; exact hdone x hx; rw [List.mem_singleton] at hx; omega)]
          rw [List.getLast?_concat]
          exact ⟨fm, rfl, XHa.mono fun a e => none_of_le k01 e⟩
        · intro q2 f2 h9 tk10 hr k9 T9 hf2 XN
          obtain ⟨rest', hrest', CC'⟩ := CC.some hr
          have hql2 := pre_len hw hr.2.1
          have F9 := F8.leT T8 k9 (hid_35 _) (hid_42 _)
          have XH9 := XH8.stay (Kept.leT T1 T8 k9)
          have XN9 := XN.mono (h₀ := h₁) ex8
          have ex9 : Ex h₁ h9 := fun a e => ex8 a (Ex.leT T9 k9 a e)
          refine s_loc F9 (fun ha tka Fa hsa => ?_)
          have Ta := T9.ns F9.ns hsa
          have XHa := XH9.stay (Kept.ns n1 F9.ns hsa)
          have XNa := XN9.stay (Kept.ns n1 F9.ns hsa)
          have exa : Ex h₁ ha := fun a e => ex9 a (Ex.ns Fa.ns (fun b o z e => (hsa.2 b z).trans e) a e)
          have fo : ∃ d fd, ha.get? f2 = some (fnO d fd) := by obtain ⟨d, sp, c1, c2, fdF, pm, cv, doc, ct, t, u, m, e1, _⟩ := XNa; exact ⟨_, _, e1⟩
          obtain ⟨fd_, ff_, fo⟩ := fo
          dsimp only
          repeat (walk_at "mj")
          refine truthy_fn fo ?_
          rw [if_neg (show ¬ (!true) = true by decide)]
          repeat (walk_at "mj")
          refine Assign_Tuple ?_
          repeat (walk_at "mj")
          have Wa := W.leT T (hid_LeT Fa.keep)
          refine do_span Wa (by show A.depth + 1 < _; omega) XNa fun a hb tkb t1' t2' ha' kb ho => ?_
          refine assign2 (Fa.le kb) hh ho (fun hc tkc Fc hkc => ?_)
          have Tb' := Ta.le kb
          have Tc : Tb hc := Tb'.nsB (Fa.le kb).ns hkc
          have kpc : Kept h₁ hb hc := Kept.nsB n1 (Fa.le kb).ns hkc
          have XHc := (XHa.stay (Kept.leT T1 Ta kb.toT)).stay kpc
          have XNc := (XNa.stay (Kept.leT T1 Ta kb.toT)).stay kpc
          have exc : Ex h₁ hc := fun a e => exa a (none_of_le kb (Ex.ns Fc.ns (fun b o z e => hkc b o z e) a e))
          dsimp only
          repeat (walk_at "mj")
          refine hQ' .next _ ⟨rest'.length + 1, by rw [hn, hrest']; simp, hc, _, _, rfl, Fc, Tc, exc, ?_, ?_, ?_, done ++ [q], q2, rest', f2, .ref fm, t1', t2', ?_, ?_, ?_, ?_, ?_, ?_, CC', hql2, XNc, ?_, rfl⟩
          · walk_at "get"
          · walk_at "get"
          · walk_at "get"
          · walk_at "get"
          · walk_at "get"
          · walk_at "get"
          · walk_at "get"
          · rw [hps, hrest']; simp
          · intro x hx; rcases List.mem_append.mp hx with hx | hx
            · exact hdone x hx
            · rw [List.mem_singleton] at hx; omega
          · rw [List.getLast?_concat]; exact ⟨fm, rfl, XHc⟩
      · have c2' : ¬ q + wl.length ≤ col := by omega
        rw [if_neg (by decide)]
        repeat (walk_at "mj")
        exact stop c2' _
    · have c2' : ¬ q + wl.length ≤ col := by omega
      rw [if_neg (by decide)]
      repeat (walk_at "mj")
      exact stop c2' _

/-! _law_answers -/
def Ans (h : Heap) (v : Value) : Option (Nat × Nat) → Prop
  | none => v = .none
  | some (a, b) => ∃ t x y, v = .ref t ∧ h.get? t = some (tupO #[.int (a : Int) x, .int (b : Int) y])
inductive AnsAll (h : Heap) : List Value → List (Option (Nat × Nat)) → Prop
  | nil : AnsAll h [] []
  | cons {v : Value} {r : Option (Nat × Nat)} {vs : List Value} {rs : List (Option (Nat × Nat))} : Ans h v r → AnsAll h vs rs → AnsAll h (v :: vs) (r :: rs)
abbrev TupKept (h h' : Heap) : Prop := ∀ b vs, h.get? b = some (tupO vs) → h'.get? b = some (tupO vs)
theorem Ans.kept {h h' : Heap} {v : Value} {r : Option (Nat × Nat)} (x : Ans h v r) (k : TupKept h h') : Ans h' v r := by
  cases r with
  | none => exact x
  | some p => obtain ⟨t, a, b, e, ho⟩ := x; exact ⟨t, a, b, e, k _ _ ho⟩
theorem AnsAll.kept {h h' : Heap} {vs : List Value} {rs : List (Option (Nat × Nat))} (x : AnsAll h vs rs) (k : TupKept h h') : AnsAll h' vs rs := by
  induction x with
  | nil => exact .nil
  | cons a _ ih => exact .cons (a.kept k) ih
theorem AnsAll.snoc {h : Heap} {vs : List Value} {rs : List (Option (Nat × Nat))} {v : Value} {r : Option (Nat × Nat)} (x : AnsAll h vs rs) (y : Ans h v r) : AnsAll h (vs ++ [v]) (rs ++ [r]) := by
  induction x with
  | nil => exact .cons y .nil
  | cons a _ ih => exact .cons a ih
theorem AnsAll.length {h : Heap} {vs : List Value} {rs : List (Option (Nat × Nat))} (x : AnsAll h vs rs) : vs.length = rs.length := by
  induction x with
  | nil => rfl
  | cons _ _ ih => simp [ih]
theorem TupKept.leT {h h' : Heap} (T : Tb h) (k : LeT h h') : TupKept h h' := fun b vs e => T.get k e (.inr fun _ q => by cases q)
theorem TupKept.le {h h' : Heap} (k : Le h h') : TupKept h h' := fun b vs e => k b _ e
theorem TupKept.ns {h h' : Heap} {L : Addr} {m : Str → Option Value} (n : h.Ns L m) (hs : Heap.SameBut L h h') : TupKept h h' := fun b vs e => by
  refine (hs.2 b ?_).trans e
  rintro rfl
  obtain ⟨o', _, _, ho, hd, _⟩ := n; rw [ho] at e; cases e; cases hd
theorem TupKept.list {h h' : Heap} {a : Addr} {its : Array Value} (n : h.PlainList a its) (hs : Heap.SameBut a h h') : TupKept h h' := fun b vs e => by
  refine (hs.2 b ?_).trans e
  rintro rfl
  obtain ⟨k, n⟩ := n; rw [n] at e; simp at e
theorem Tb.list {h h' : Heap} {a : Addr} {its : Array Value} (x : Tb h) (n : h.PlainList a its) (hs : Heap.SameBut a h h') : Tb h' :=
  x.but (fun b => b = a) (fun b o z e => (hs.2 b z).trans e) fun b o z e => by
    subst z
    obtain ⟨k, n⟩ := n; rw [n] at e; cases e
    exact .inr fun vs q => by cases q
theorem list_leT {h h' : Heap} (T : Tb h) (k : LeT h h') {a : Addr} {its : Array Value} (n : h.PlainList a its) : h'.PlainList a its := n.at fun o e => T.get k e (.inr fun vs q => by
  obtain ⟨k, n⟩ := n; rw [n] at e; cases e; cases q)
theorem list_ne_ns {h : Heap} {a L : Addr} {its : Array Value} {m : Str → Option Value} (n : h.PlainList a its) (x : h.Ns L m) : a ≠ L := by
  rintro rfl
  obtain ⟨k, n⟩ := n; obtain ⟨o', _, _, ho, hd, _⟩ := x; rw [ho] at n; cases n; cases hd
theorem list_ne_it {h : Heap} {a I : Addr} {its : Array Value} {x y z : Int} (n : h.PlainList a its) (i : IsRangeIter h I x y z) : a ≠ I := by
  rintro rfl
  obtain ⟨k, n⟩ := n; have i' : h.get? a = some _ := i; rw [i'] at n; simp at n
theorem it_leT {h h' : Heap} (T : Tb h) (k : LeT h h') {I : Addr} {x y z : Int} (i : IsRangeIter h I x y z) : h'.get? I = h.get? I := by
  have i' : h.get? I = some _ := i
  rw [i']; exact T.get k i' (.inl (by intro q; cases q))
/-- a turn of the loop touches the frame and the iterator alone -/
theorem TupKept.turn {h h' : Heap} {I L : Addr} {m : Str → Option Value} {x y z : Int} (i : IsRangeIter h I x y z) (n : h.Ns L m) (k : ∀ b o, b ≠ I → b ≠ L → h.get? b = some o → h'.get? b = some o) : TupKept h h' := fun b vs e => by
  refine k b _ ?_ ?_ e
  · rintro rfl; have i' : h.get? b = some _ := i; rw [i'] at e; simp at e
  · rintro rfl; obtain ⟨o', _, _, ho, hd, _⟩ := n; rw [ho] at e; cases e; cases hd
theorem Tb.turn {h h' : Heap} {I L : Addr} {m : Str → Option Value} {x y z : Int} (T : Tb h) (i : IsRangeIter h I x y z) (n : h.Ns L m) (k : ∀ b o, b ≠ I → b ≠ L → h.get? b = some o → h'.get? b = some o) : Tb h' :=
  T.but (fun b => b = I ∨ b = L) (fun b o c e => k b o (fun q => c (.inl q)) (fun q => c (.inr q)) e) fun a o c e => by
    rcases c with rfl | rfl
    · have i' : h.get? a = some _ := i
      rw [i'] at e; cases e
      exact .inl ⟨by simp, by simp⟩
    · obtain ⟨o', _, _, ho, hd, _⟩ := n; rw [ho] at e; cases e
      exact .inr fun vs q => by rw [hd] at q; cases q
theorem list_turn {h h' : Heap} {I L a : Addr} {m : Str → Option Value} {x y z : Int} {its : Array Value} (l : h.PlainList a its) (i : IsRangeIter h I x y z) (n : h.Ns L m) (k : ∀ b o, b ≠ I → b ≠ L → h.get? b = some o → h'.get? b = some o) : h'.PlainList a its :=
  l.at fun o e => k a o (list_ne_it l i) (list_ne_ns l n) e
def dueOf (ps : List Nat) (n col : Nat) : Option (Nat × Nat) := (lastBy ps n col).map fun p => (p, p + n)
/-- the ghost: all but the frame and the tables -/
theorem Fm.ghost {h₀ h : Heap} {L : Addr} {m : Str → Option Value} (F : Fm (hid h₀) L h m) : ∃ G : Heap, Fm G L h m ∧ Le (hid h₀) G ∧ G.get? 35 = none ∧ G.get? 42 = none ∧ ∀ b o, b ≠ L → b ≠ 35 → b ≠ 42 → h.get? b = some o → G.get? b = some o := by
  refine ⟨(hid h).hide L, ⟨F.ns, fun b o e => hid_le _ _ _ (Heap.of_hide e), Heap.hide_self _ _⟩, fun c o e => ?_, ?_, ?_, fun b o n1 n2 n3 e => ?_⟩
  · have h1 : c ≠ 35 := by rintro rfl; rw [hid_35] at e; cases e
    have h2 : c ≠ 42 := by rintro rfl; rw [hid_42] at e; cases e
    have h3' : c ≠ L := by rintro rfl; rw [F.gL] at e; cases e
    rw [Heap.hide_ne _ h3']
    exact hid_get (F.keep _ _ e) h1 h2
  · cases q : ((hid h).hide L).get? 35 with
    | none => rfl
    | some o => have := Heap.of_hide q; rw [hid_35] at this; cases this
  · cases q : ((hid h).hide L).get? 42 with
    | none => rfl
    | some o => have := Heap.of_hide q; rw [hid_42] at this; cases this
  · rw [Heap.hide_ne _ n1]
    exact hid_get e n2 n3
theorem call_answers {prog : Program} {w : World} {A : Around} {s : Shared} {E : Value → Shared → Prop} {Q : Value → Shared → Prop} {mg mb : Str → Option Value} {b : Bool} {wl l ps : List Nat} {t u : Tok}
    (W : Wd w mg mb s.heap) (T : Tb s.heap) (hroom : A.depth + 3 < recursionLimit) (hh : A.handled = none) (hw : wl ≠ []) (hl : ∀ c ∈ l, c < 256) (hwl : ∀ c ∈ wl, c < 256) (hlen : wl.length ≤ 100000) (hll : l.length ≤ 100000)
    (C : Chain l wl 0 ps)
    (h : ∀ a vs h' tk, LeT s.heap h' → Tb h' → h'.PlainList a vs.toArray → AnsAll h' vs ((List.range (l.length + 1)).map (dueOf ps wl.length)) → Q (.ref a) { s with heap := h', toks := tk }) :
    wpAny (model prog w) A (call (.ref 75) [V b l t, V b wl u]) Q E s := by
  refine c_def W (by omega) (look_answers w.params) rfl (binds := [(nm "chars", V b l t), (nm "word", V b wl u)]) (BindsTo.of_eq rfl) ?_
  intro h₁ tk Fa
  have W1 := W.le Fa.keep
  have T1 := T.le Fa.keep
  have F1 := Fa.hidden
  have n1 := Fa.ns
  have hL0 : s.heap.get? s.heap.objs.size = none := none_at_size _
  have k01 : Le s.heap h₁ := Fa.keep
  generalize s.heap.objs.size = L at F1 n1 hL0 ⊢
  clear Fa
  show wpAny _ _ (execs (_ :: _ :: _) _) _ _ _
  repeat (walk_at "mj")
  refine n_glob (.ref 47) W1 ?_
  refine cw_def (look_finder w.params) ?_
  repeat (walk_at "mj")
  refine ⟨W1.K, ?_⟩
  refine call_finder W1 T1 (by show A.depth + 1 < _; omega) fun p h2 tk2 k2 T2 X2 => ?_
  have F2 := F1.leT T1 k2 (hid_35 _) (hid_42 _)
  refine s_loc F2 (fun h3 tk3 F3 hs3 => ?_)
  have T3 := T2.ns F2.ns hs3
  have X3 := X2.stay (Kept.ns n1 F2.ns hs3)
  obtain ⟨G, FG, kG, g35, g42, kk⟩ := F3.ghost
  have XG : Finder h₁ G p b wl := X3.stay fun c o z e => by
    refine kk c o ?_ ?_ ?_ e
    · rintro hcL
      have hcL' : c = L := hcL
      rw [hcL'] at z e
      rcases z with z | ⟨_, vs, z⟩
      · obtain ⟨o', _, _, ho, _⟩ := n1; rw [ho] at z; cases z
      · obtain ⟨o', _, _, ho, hd, _⟩ := F3.ns
        have ho' : h3.get? L = some o' := ho
        rw [ho'] at e; cases e; rw [z] at hd; cases hd
    · rintro rfl
      obtain ⟨ps, e1, _⟩ := T3.a; rw [e1] at e; cases e
      rcases z with z | ⟨z, _⟩
      · obtain ⟨ps, e2, _⟩ := T1.a; rw [e2] at z; cases z
      · cases z
    · rintro rfl
      obtain ⟨ps, e1, _⟩ := T3.b; rw [e1] at e; cases e
      rcases z with z | ⟨z, _⟩
      · obtain ⟨ps, e2, _⟩ := T1.b; rw [e2] at z; cases z
      · cases z
  clear F3 X3 X2 F2
  dsimp only
  repeat (walk_at "mj")
  refine PyProof.Rows.List_ ?_
  repeat (walk_at "mj")
  refine new_list (fun Aa h4 hAa k4 hl4 => ?_)
  have F4 := FG.le k4
  have T4 := T3.le k4
  refine s_loc F4 (fun h5 tk5 F5 hs5 => ?_)
  have T5 := T4.ns F4.ns hs5
  have hl5 : h5.PlainList Aa ([] : List Value).toArray := hl4.at fun o e => (hs5.2 _ (list_ne_ns hl4 F4.ns)).trans e
  have W5 := W.leT T (hid_LeT (kG.trans F5.keep))
  dsimp only
  repeat (walk_at "mj")
  refine wpAny_For ?_
  repeat (walk_at "mj")
  refine n_blt (.type "range") W5 PyProof.Rows.boot_range ?_
  repeat (walk_at "mj")
  refine n_blt (.builtin "len") W5 (by decide +kernel) ?_
  repeat (walk_at "mj")
  refine len_V hll fun u3 tk6 => ?_
  repeat (walk_at "mj")
  rw [show ((l.length : Int) + 1) = ((l.length + 1 : Nat) : Int) by omega]
  refine for_range (fun _ i m h => m (nm "finder") = some (.ref p) ∧ m (nm "chars") = some (V b l t) ∧ m (nm "answers") = some (.ref Aa) ∧ Tb h ∧ ∃ vs : List Value, h.PlainList Aa vs.toArray ∧ AnsAll h vs ((List.range i).map (dueOf ps wl.length))) hh (by omega) F5 ?_ ?_ ?_ ?_
  · rintro I i m h h' mm ⟨j1, j2, j3, j4, vs, j5, j6⟩ ⟨x, y, z, it⟩ n k
    exact ⟨j1, j2, j3, j4.turn it n k, vs, list_turn j5 it n k, j6.kept (TupKept.turn it n k)⟩
  · intro I h' _ k
    exact ⟨rfl, rfl, rfl, T5.le k, [], hl5.at fun o e => k _ _ e, .nil⟩
  · rintro I i ti m h6 tk7 hi hI ⟨x, y, z, it⟩ F6 ⟨j1, j2, j3, T6, vs, j5, j6⟩
    refine hideQ fun Q' hQ' => ?_
    have W6 := W.leT T (hid_LeT (kG.trans F6.keep))
    have X6 : Finder h₁ h6 p b wl := XG.stay fun b o _ e => F6.keep b o e
    repeat (walk_at "mj")
    refine n_glob (.ref 33) W6 ?_
    refine cw_def (look_rev w.params) ?_
    repeat (walk_at "mj")
    refine ⟨W6.K, ?_⟩
    refine call_rev W6 T6 (by show A.depth + 1 + 2 < _; omega) hh X6 hw hl hwl hlen C fun v h7 tk8 k7 T7 XF => ?_
    have F7 := F6.leT T6 k7 g35 g42
    have l7 := list_leT T6 k7 j5
    have a7 := j6.kept (TupKept.leT T6 k7)
    have it7 := it_leT T6 k7 it
    refine s_loc F7 (fun h8 tk9 F8 hs8 => ?_)
    have T8 := T7.ns F7.ns hs8
    have l8 : h8.PlainList Aa vs.toArray := l7.at fun o e => (hs8.2 _ (list_ne_ns l7 F7.ns)).trans e
    have a8 := a7.kept (TupKept.ns F7.ns hs8)
    have it8 : h8.get? I = h6.get? I := (hs8.2 I (by
      rintro q
      obtain ⟨o', _, _, ho, hd, _⟩ := F7.ns
      have i' : h6.get? I = some _ := it
      rw [← q, it7, i'] at ho; cases ho; cases hd)).trans it7
    have XF8 : FoundIs h6 h8 wl.length v (lastBy ps wl.length i) := XF.stay (Kept.ns F6.ns F7.ns hs8)
    have W8 := W.leT T (hid_LeT (kG.trans F8.keep))
    dsimp only
    refine wpAny_execs_cons ?_
    refine wpAny_Expr_any ?_
    repeat (walk_at "mj")
    have lo := l8
    obtain ⟨nn, lo⟩ := lo
    refine Calls.getMethod_list_append lo rfl rfl ?_
    repeat (walk_at "mj")
    have fin : ∀ (h9 : Heap) (tk10 : Nat) (x : Value), Le h8 h9 → Ans h9 x (dueOf ps wl.length i) → wpAny (model prog w) (A.deeper (callEnv (fnOf (nm "_law_answers") (nm "_law_answers") (fdArgs (stOf 11)) (fdBody (stOf 11)) (fdScope (stOf 11)) Value.none Value.none Value.none pm0 none (Value.ref 74) Value.none) L 75)) (call (.builtin "list.append") [.ref Aa, x])
        (fun _ s' => Q' .next s')
        (fun _ _ => False) { s with heap := h9, toks := tk10 } := by
      intro h9 tk10 x k9 hx
      have l9 : h9.PlainList Aa vs.toArray := l8.at fun o e => k9 _ _ e
      have F9 := F8.le k9
      refine wpAny_list_append_plain l9 (fun ha la hsa => ?_) (by
        have := j6.length
        rw [List.size_toArray, this, List.length_map, List.length_range, sizeLine_eq]; omega)
      have hAL : Aa ≠ L := list_ne_ns l9 F9.ns
      have hGA : G.get? Aa = none := none_of_le FG.keep hAa
      have hIA : Aa ≠ I := list_ne_it j5 it
      refine hQ' .next _ ⟨ha, tk10, _, rfl, ⟨F9.ns.sameBut hsa hAL.symm, fun b o e => (hsa.2 b (by rintro rfl; rw [hGA] at e; cases e)).trans (F9.keep b o e), F9.gL⟩, fun o e => ?_, ?_, ?_, ?_, (T8.le k9).list l9 hsa, vs ++ [x], ?_, ?_⟩
      · exact (hsa.2 I hIA.symm).trans (k9 _ _ (it8.trans e))
      · walk_at "get"
      · walk_at "get"
      · walk_at "get"
      · have : (vs.toArray.push x) = (vs ++ [x]).toArray := by simp
        rw [← this]; exact la
      · rw [List.range_succ, List.map_append]
        exact ((a8.kept (TupKept.le k9)).kept (TupKept.list l9 hsa)).snoc (hx.kept (TupKept.list l9 hsa))
    refine wpAny_IfExp ?_
    repeat (walk_at "mj")
    refine is_none_gen ?_
    repeat (walk_at "mj")
    unfold dueOf at fin
    cases hlast : lastBy ps wl.length i with
    | none =>
      rw [hlast] at XF8 fin
      have hv : v = .none := XF8
      subst hv
      rw [if_pos (by rfl)]
      repeat (walk_at "mj")
      exact wpAny_mono (fin h8 _ .none Le.rfl rfl) (fun _ s' hs' => wpAny_execs_nil hs') (fun _ _ y => y)
    | some q =>
      rw [hlast] at XF8 fin
      obtain ⟨f, rfl, XH⟩ := XF8
      rw [if_neg (by intro q; cases q)]
      repeat (walk_at "mj")
      refine do_span W8 (by show A.depth + 1 < _; omega) XH fun a h9 tk10 t1 t2 ha9 k9 ho => ?_
      repeat (walk_at "mj")
      exact wpAny_mono (fin h9 _ (.ref a) k9 ⟨a, t1, t2, rfl, ho⟩) (fun _ s' hs' => wpAny_execs_nil hs') (fun _ _ y => y)
  · rintro I m' h' tk' hI F6 ⟨j1, j2, j3, T6, vs, j5, j6⟩
    dsimp only
    repeat (walk_at "mj")
    exact h Aa vs h' _ (hid_LeT (kG.trans F6.keep)) T6 j5 j6

/-! the plain law -/
def wd (m c : Nat) : Nat := if spec c then m else 1
def enc1 (m c : Nat) : List Nat := List.replicate (wd m c - 1) 92 ++ [c]
def enc (m : Nat) (T : List Nat) : List Nat := T.flatMap (enc1 m)
theorem enc_nil (m : Nat) : enc m [] = [] := rfl
theorem enc_cons (m c : Nat) (T : List Nat) : enc m (c :: T) = enc1 m c ++ enc m T := by simp [enc]
theorem enc_append (m : Nat) (a b : List Nat) : enc m (a ++ b) = enc m a ++ enc m b := by simp [enc]
theorem spec92 : spec 92 = true := by decide
theorem enc1_spec {m c : Nat} (h : spec c = true) : enc1 m c = List.replicate (m - 1) 92 ++ [c] := by simp [enc1, wd, h]
theorem enc1_plain {m c : Nat} (h : spec c = false) : enc1 m c = [c] := by simp [enc1, wd, h]
theorem enc1_len {m c : Nat} (hm : 2 ≤ m) : (enc1 m c).length = wd m c := by
  unfold enc1 wd; simp only [List.length_append, List.length_replicate, List.length_singleton]; split <;> omega
theorem escN_one (T : List Nat) : escN 1 T = enc 2 T := by
  show escL T = _
  unfold escL enc
  congr 1
  funext c
  cases h : spec c
  · rw [enc1_plain h]; rfl
  · rw [enc1_spec h]; rfl
theorem escN_two (T : List Nat) : escN 2 T = enc 4 T := by
  show escL (escL T) = _
  induction T with
  | nil => rfl
  | cons c T ih =>
    rw [escL_cons, escL_append, ih, enc_cons]
    congr 1
    cases h : spec c
    · rw [enc1_plain h, if_neg (by decide), escL_cons, h]; rfl
    · rw [enc1_spec h, if_pos rfl, escL_cons, escL_cons, h, spec92]; rfl
theorem rep_succ {m : Nat} (hm : 2 ≤ m) : List.replicate (m - 1) 92 = 92 :: List.replicate (m - 2) (92 : Nat) := by
  rw [show m - 1 = (m - 2) + 1 by omega, List.replicate_succ]
theorem enc_pre {m : Nat} (hm : 2 ≤ m) : ∀ (W T : List Nat), enc m W <+: enc m T ↔ W <+: T
  | [], T => by simp [enc]
  | d :: W, [] => by
    rw [enc_cons, enc_nil]
    constructor
    · intro h
      have := List.prefix_nil.mp h
      have h2 := enc1_len (c := d) hm
      have : (enc1 m d ++ enc m W).length = 0 := by rw [this]; rfl
      rw [List.length_append, h2] at this
      unfold wd at this; split at this <;> omega
    · intro h; cases List.prefix_nil.mp h
  | d :: W, c :: T => by
    rw [enc_cons, enc_cons, List.cons_prefix_cons]
    cases hd : spec d <;> cases hc : spec c
    · rw [enc1_plain hd, enc1_plain hc]
      simp only [List.singleton_append, List.cons_prefix_cons, enc_pre hm W T]
    · rw [enc1_plain hd, enc1_spec hc, rep_succ hm]
      simp only [List.singleton_append, List.cons_append, List.cons_prefix_cons]
      constructor
      · rintro ⟨rfl, _⟩; rw [spec92] at hd; cases hd
      · rintro ⟨rfl, _⟩; rw [hc] at hd; cases hd
    · rw [enc1_spec hd, enc1_plain hc, rep_succ hm]
      simp only [List.singleton_append, List.cons_append, List.cons_prefix_cons]
      constructor
      · rintro ⟨rfl, _⟩; rw [spec92] at hc; cases hc
      · rintro ⟨rfl, _⟩; rw [hd] at hc; cases hc
    · rw [enc1_spec hd, enc1_spec hc]
      simp only [List.append_assoc, List.prefix_append_right_inj, List.singleton_append, List.cons_prefix_cons, enc_pre hm W T]
/-- a match that begins within the backslashes of a sign: then one begins at the sign's own first -/
theorem enc_off {m r : Nat} (hm : 2 ≤ m) (h0 : 0 < r) (h1 : r < m) : ∀ (W : List Nat) (c : Nat) (T : List Nat), spec c = true → enc m W <+: List.replicate (m - 1 - r) 92 ++ c :: enc m T → W <+: c :: T
  | [], _, _, _, _ => List.nil_prefix
  | d :: W, c, T, hc, h => by
    rw [enc_cons] at h
    cases hd : spec d
    · rw [enc1_plain hd] at h
      exfalso
      cases hk : m - 1 - r with
      | zero =>
        rw [hk] at h
        simp only [List.replicate_zero, List.nil_append, List.singleton_append, List.cons_prefix_cons] at h
        rw [h.1, hc] at hd; cases hd
      | succ k =>
        rw [hk, List.replicate_succ] at h
        simp only [List.cons_append, List.singleton_append, List.cons_prefix_cons] at h
        rw [h.1, spec92] at hd; cases hd
    · rw [enc1_spec hd, show m - 1 = (m - 1 - r) + ((r - 1) + 1) by omega, ← List.replicate_append_replicate, List.append_assoc, List.append_assoc, show m - 1 - r + (r - 1 + 1) - r = m - 1 - r by omega, List.prefix_append_right_inj, List.replicate_succ] at h
      simp only [List.cons_append, List.singleton_append, List.cons_prefix_cons] at h
      obtain ⟨rfl, h⟩ := h
      cases T with
      | nil =>
        rw [enc_nil] at h
        have := List.prefix_nil.mp h
        simp at this
      | cons e T =>
        rw [enc_cons] at h
        have he : spec e = true := by
          cases he : spec e with
          | true => rfl
          | false =>
            exfalso
            rw [enc1_plain he] at h
            cases hk : r - 1 with
            | zero =>
              rw [hk] at h
              simp only [List.replicate_zero, List.nil_append, List.singleton_append, List.cons_prefix_cons] at h
              rw [h.1, he] at hd; cases hd
            | succ k =>
              rw [hk, List.replicate_succ] at h
              simp only [List.cons_append, List.singleton_append, List.cons_prefix_cons] at h
              rw [← h.1, spec92] at he; cases he
        rw [enc1_spec he, show m - 1 = (r - 1) + ((m - 1 - r) + 1) by omega, ← List.replicate_append_replicate, List.append_assoc, List.append_assoc, List.prefix_append_right_inj, List.replicate_succ] at h
        simp only [List.cons_append, List.singleton_append, List.cons_prefix_cons] at h
        obtain ⟨rfl, h⟩ := h
        rw [List.cons_prefix_cons]
        exact ⟨rfl, enc_off hm h0 h1 W e T he h⟩
def off (m : Nat) (T : List Nat) (k : Nat) : Nat := (enc m (T.take k)).length
theorem enc_drop (m : Nat) (T : List Nat) (k : Nat) : (enc m T).drop (off m T k) = enc m (T.drop k) := by
  conv => lhs; rw [← List.take_append_drop k T, enc_append]
  unfold off
  rw [List.take_append_drop]
  exact List.drop_left
theorem off_succ {m : Nat} (hm : 2 ≤ m) (T : List Nat) {k : Nat} (hk : k < T.length) : off m T (k + 1) = off m T k + wd m T[k] := by
  unfold off
  rw [List.take_succ_eq_append_getElem hk, enc_append, List.length_append, enc_cons, enc_nil, List.append_nil, enc1_len hm]
theorem wd_pos {m : Nat} (hm : 2 ≤ m) (c : Nat) : 1 ≤ wd m c := by unfold wd; split <;> omega
theorem off_lt {m : Nat} (hm : 2 ≤ m) (T : List Nat) : ∀ {i j : Nat}, i < j → j ≤ T.length → off m T i < off m T j := by
  intro i j hij hj
  obtain ⟨d, rfl⟩ : ∃ d, j = i + 1 + d := ⟨j - (i + 1), by omega⟩
  clear hij
  induction d with
  | zero => rw [Nat.add_zero, off_succ hm T (by omega)]; have := wd_pos hm T[i]; omega
  | succ d ih =>
    have := ih (by omega)
    rw [show i + 1 + (d + 1) = (i + 1 + d) + 1 by omega, off_succ hm T (by omega)]; omega
theorem off_le {m : Nat} (hm : 2 ≤ m) (T : List Nat) {i j : Nat} (hij : i ≤ j) (hj : j ≤ T.length) : off m T i ≤ off m T j := by
  rcases Nat.lt_or_eq_of_le hij with h | rfl
  · exact Nat.le_of_lt (off_lt hm T h hj)
  · exact Nat.le_refl _
theorem off_zero (m : Nat) (T : List Nat) : off m T 0 = 0 := rfl
theorem off_all (m : Nat) (T : List Nat) : off m T T.length = (enc m T).length := by unfold off; rw [List.take_length]
theorem off_place {m : Nat} (hm : 2 ≤ m) (T : List Nat) {q : Nat} (hq : q < (enc m T).length) : ∃ k r, ∃ hk : k < T.length, q = off m T k + r ∧ r < wd m T[k] := by
  have key : ∀ n, n ≤ T.length → q < off m T n → ∃ k r, ∃ hk : k < T.length, q = off m T k + r ∧ r < wd m T[k] := by
    intro n
    induction n with
    | zero => intro _ h; rw [off_zero] at h; omega
    | succ n ih =>
      intro hn h
      by_cases hc : q < off m T n
      · exact ih (by omega) hc
      · rw [off_succ hm T (by omega)] at h
        exact ⟨n, q - off m T n, by omega, by omega, by omega⟩
  exact key T.length (Nat.le_refl _) (by rw [off_all]; exact hq)
/-- a match in what is written tells one in the text, at that sign -/
theorem match_at {m : Nat} (hm : 2 ≤ m) {T W : List Nat} {k r : Nat} (hk : k < T.length) (hr : r < wd m T[k]) (h : enc m W <+: (enc m T).drop (off m T k + r)) : W <+: T.drop k := by
  rw [← List.drop_drop, enc_drop, List.drop_eq_getElem_cons hk, enc_cons] at h
  by_cases h0 : r = 0
  · subst h0
    rw [List.drop_zero, ← enc_cons, ← List.drop_eq_getElem_cons hk, enc_pre hm] at h
    exact h
  · have hs : spec T[k] = true := by
      cases hs : spec T[k] with
      | true => rfl
      | false => unfold wd at hr; rw [hs] at hr; simp at hr; omega
    have hrm : r < m := by unfold wd at hr; rw [hs] at hr; simpa using hr
    rw [enc1_spec hs, List.append_assoc, List.drop_append_of_le_length (by rw [List.length_replicate]; omega), List.drop_replicate] at h
    rw [List.drop_eq_getElem_cons hk]
    exact enc_off hm (by omega) hrm W _ _ hs h
theorem finds_some {m : Nat} (hm : 2 ≤ m) {T W : List Nat} (hW : W ≠ []) {i k : Nat} (hik : i ≤ k) (hk : W <+: T.drop k) (hmin : ∀ j, i ≤ j → j < k → ¬ W <+: T.drop j) : Finds (enc m T) (enc m W) (off m T i) (some (off m T k)) := by
  have hlen := pre_len hW hk
  refine ⟨off_le hm T hik (by omega), by rw [enc_drop, enc_pre hm]; exact hk, fun q h1 h2 h3 => ?_⟩
  have hkn : off m T k ≤ (enc m T).length := by rw [← off_all]; exact off_le hm T (by omega) (Nat.le_refl _)
  obtain ⟨k', r, hk', rfl, hr⟩ := off_place hm T (show q < (enc m T).length by omega)
  refine hmin k' ?_ ?_ (match_at hm hk' hr h3)
  · rcases Nat.lt_or_ge k' i with hlt | hge
    · have h4 := off_le hm T (show k' + 1 ≤ i by omega) (by omega)
      rw [off_succ hm T hk'] at h4; omega
    · exact hge
  · rcases Nat.lt_or_ge k' k with hlt | hge
    · exact hlt
    · have h4 := off_le hm T hge (by omega); omega
theorem enc_ne {m : Nat} (hm : 2 ≤ m) {W : List Nat} (hW : W ≠ []) : enc m W ≠ [] := by
  obtain ⟨c, W', rfl⟩ := List.exists_cons_of_ne_nil hW
  rw [enc_cons]
  intro h
  have h1 := congrArg List.length h
  rw [List.length_append, enc1_len hm] at h1
  have := wd_pos hm c
  simp at h1; omega
theorem finds_none {m : Nat} (hm : 2 ≤ m) {T W : List Nat} (hW : W ≠ []) {i : Nat} (hi : i ≤ T.length) (hno : ∀ j, i ≤ j → ¬ W <+: T.drop j) : Finds (enc m T) (enc m W) (off m T i) none := by
  intro q h1 h3
  have hl := pre_len (enc_ne hm hW) h3
  have hp : 0 < (enc m W).length := List.length_pos_iff.mpr (enc_ne hm hW)
  obtain ⟨k', r, hk', rfl, hr⟩ := off_place hm T (show q < (enc m T).length by omega)
  refine hno k' ?_ (match_at hm hk' hr h3)
  rcases Nat.lt_or_ge k' i with hlt | hge
  · have h4 := off_le hm T (show k' + 1 ≤ i by omega) hi
    rw [off_succ hm T hk'] at h4; omega
  · exact hge
theorem off_add {m : Nat} {T W : List Nat} {k : Nat} (hk : W <+: T.drop k) (hkl : k ≤ T.length) : off m T (k + W.length) = off m T k + (enc m W).length := by
  unfold off
  have e : T.take (k + W.length) = T.take k ++ W := by
    rw [List.take_add, (pre_iff T W k).mp hk]
  rw [e, enc_append, List.length_append]

/-! the text's own matches, and what is due -/
inductive MPre (T W : List Nat) : Nat → List Nat → Nat → Prop
  | nil {i : Nat} : MPre T W i [] i
  | cons {i k e : Nat} {ks : List Nat} : i ≤ k → W <+: T.drop k → (∀ j, i ≤ j → j < k → ¬ W <+: T.drop j) → MPre T W (k + W.length) ks e → MPre T W i (k :: ks) e
theorem MPre.snoc {T W : List Nat} {i e k : Nat} {ks : List Nat} (x : MPre T W i ks e) (h1 : e ≤ k) (h2 : W <+: T.drop k) (h3 : ∀ j, e ≤ j → j < k → ¬ W <+: T.drop j) : MPre T W i (ks ++ [k]) (k + W.length) := by
  induction x with
  | nil => exact .cons h1 h2 h3 .nil
  | cons a b c _ ih => exact .cons a b c (ih h1 h3)
theorem MPre.last {T W : List Nat} {i e : Nat} {ks : List Nat} (x : MPre T W i ks e) : e = (ks.getLast?.map (· + W.length)).getD i := by
  induction x with
  | nil => rfl
  | @cons i k e ks a b c d ih =>
    cases ks with
    | nil => cases d; rfl
    | cons k' ks' => rw [List.getLast?_cons_cons, ih]; cases h : (k' :: ks').getLast? <;> simp_all
theorem MPre.chain {T W : List Nat} (hW : W ≠ []) {m : Nat} (hm : 2 ≤ m) {i e : Nat} {ks : List Nat} (x : MPre T W i ks e) (hi : i ≤ T.length) (h : ∀ j, e ≤ j → ¬ W <+: T.drop j) : Chain (enc m T) (enc m W) (off m T i) (ks.map (off m T)) := by
  induction x with
  | nil => exact .nil (finds_none hm hW hi h)
  | cons a b c d ih =>
    have hl := pre_len hW b
    refine .cons (finds_some hm hW a b c) ?_
    rw [← off_add b (by omega)]
    exact ih (by omega) h
theorem MPre.mem {T W : List Nat} (hW : W ≠ []) {i e : Nat} {ks : List Nat} (x : MPre T W i ks e) : ∀ k ∈ ks, W <+: T.drop k ∧ i ≤ k := by
  induction x with
  | nil => simp
  | cons a b c d ih =>
    intro k hk
    rcases List.mem_cons.mp hk with rfl | hk
    · exact ⟨b, a⟩
    · exact ⟨(ih k hk).1, by have := (ih k hk).2; omega⟩
def spanOf (m : Nat) (T : List Nat) (z k : Nat) : Nat × Nat := (off m T k, off m T (k + z))
theorem due_eq {T W : List Nat} (hW : W ≠ []) {m : Nat} (hm : 2 ≤ m) {i e : Nat} {ks : List Nat} (x : MPre T W i ks e) (col : Nat) :
    ((ks.map (spanOf m T W.length)).filter fun s => decide (s.2 ≤ col)).getLast? = dueOf (ks.map (off m T)) (enc m W).length col := by
  have key : ∀ {i e : Nat} {ks : List Nat}, MPre T W i ks e → (ks.map (spanOf m T W.length)).filter (fun s => decide (s.2 ≤ col)) = ((ks.map (off m T)).takeWhile fun p => decide (p + (enc m W).length ≤ col)).map fun p => (p, p + (enc m W).length) := by
    intro i e ks x
    induction x with
    | nil => rfl
    | @cons i k e ks a b c d ih =>
      have hl := pre_len hW b
      have e1 : off m T (k + W.length) = off m T k + (enc m W).length := off_add b (by omega)
      rw [List.map_cons, List.map_cons]
      have e2 : spanOf m T W.length k = (off m T k, off m T k + (enc m W).length) := by unfold spanOf; rw [e1]
      by_cases hc : off m T k + (enc m W).length ≤ col
      · rw [List.filter_cons_of_pos (by rw [e2]; simpa using hc), List.takeWhile_cons_of_pos (by simpa using hc), List.map_cons, ih, e2]
      · rw [List.filter_cons_of_neg (by rw [e2]; simpa using hc), List.takeWhile_cons_of_neg (by simpa using hc), List.map_nil, List.filter_eq_nil_iff]
        intro s hs
        rw [List.mem_map] at hs
        obtain ⟨k', hk', rfl⟩ := hs
        have h5 := (d.mem hW k' hk')
        have h6 := pre_len hW h5.1
        have h7 := off_le hm T (show k + W.length ≤ k' + W.length by omega) (by omega)
        unfold spanOf
        simp only [decide_eq_true_eq]
        omega
  rw [key x, List.getLast?_map]
  rfl
/-- the law's own loop over the text's places, up to k -/
def Upto (T W : List Nat) (k : Nat) (ks : List Nat) : Prop := ∃ e, MPre T W 0 ks e ∧ ∀ j, e ≤ j → j < k → ¬ W <+: T.drop j
theorem Upto.zero (T W : List Nat) : Upto T W 0 [] := ⟨0, .nil, fun _ _ h => by omega⟩
theorem Upto.yes {T W : List Nat} (hW : W ≠ []) {k : Nat} {ks : List Nat} (x : Upto T W k ks) (h : W <+: T.drop k) (hl : ∀ l, ks.getLast? = some l → l + W.length ≤ k) : Upto T W (k + 1) (ks ++ [k]) := by
  obtain ⟨e, x, hn⟩ := x
  have he : e ≤ k := by
    have := x.last
    cases hg : ks.getLast? with
    | none => rw [hg] at this; simp at this; omega
    | some l => rw [hg] at this; simp at this; have := hl l hg; omega
  have hp : 0 < W.length := List.length_pos_iff.mpr hW
  exact ⟨k + W.length, x.snoc he h hn, fun j h1 h2 => by omega⟩
theorem Upto.no {T W : List Nat} {k : Nat} {ks : List Nat} (x : Upto T W k ks) (h : ¬ W <+: T.drop k ∨ ∃ l, ks.getLast? = some l ∧ ¬ l + W.length ≤ k) : Upto T W (k + 1) ks := by
  obtain ⟨e, x, hn⟩ := x
  refine ⟨e, x, fun j h1 h2 => ?_⟩
  rcases Nat.lt_or_eq_of_le (Nat.le_of_lt_succ h2) with h3 | rfl
  · exact hn j h1 h3
  · rcases h with h | ⟨l, hl, h⟩
    · exact h
    · have := x.last
      rw [hl] at this; simp at this; omega
theorem Upto.mem {T W : List Nat} (hW : W ≠ []) {k : Nat} {ks : List Nat} (x : Upto T W k ks) : ∀ l ∈ ks, W <+: T.drop l := fun l hl => let ⟨_, x, _⟩ := x; (x.mem hW l hl).1
theorem MPre.len {T W : List Nat} (hW : W ≠ []) {i e : Nat} {ks : List Nat} (x : MPre T W i ks e) : i + ks.length ≤ e := by
  have hp : 0 < W.length := List.length_pos_iff.mpr hW
  induction x with
  | nil => simp
  | cons a b c d ih => simp only [List.length_cons]; omega
theorem MPre.end_le {T W : List Nat} (hW : W ≠ []) {i e : Nat} {ks : List Nat} (x : MPre T W i ks e) (hi : i ≤ T.length) : e ≤ T.length := by
  induction x with
  | nil => exact hi
  | cons a b c d ih => exact ih (pre_len hW b)
theorem Upto.len {T W : List Nat} (hW : W ≠ []) {k : Nat} {ks : List Nat} (x : Upto T W k ks) : ks.length ≤ T.length := by
  obtain ⟨e, x, _⟩ := x
  have h1 := x.len hW
  have h2 := x.end_le hW (Nat.zero_le _)
  omega
theorem Upto.whole {T W : List Nat} (hW : W ≠ []) {ks : List Nat} (x : Upto T W T.length ks) {m : Nat} (hm : 2 ≤ m) :
    Chain (enc m T) (enc m W) 0 (ks.map (off m T)) ∧ ∀ col, ((ks.map (spanOf m T W.length)).filter fun s => decide (s.2 ≤ col)).getLast? = dueOf (ks.map (off m T)) (enc m W).length col := by
  obtain ⟨e, x, hn⟩ := x
  refine ⟨?_, fun col => due_eq hW hm x col⟩
  have := x.chain hW hm (Nat.zero_le _) fun j h1 h2 => by
    have hl := pre_len hW h2
    have hp : 0 < W.length := List.length_pos_iff.mpr hW
    exact hn j h1 (by omega) h2
  exact this
theorem off_sum {m : Nat} (hm : 2 ≤ m) (T : List Nat) (k : Nat) : (((T.map (wd m)).take k).sum : Nat) = off m T k := by
  unfold off
  rw [← List.map_take]
  induction T.take k with
  | nil => rfl
  | cons c l ih => rw [List.map_cons, List.sum_cons, enc_cons, List.length_append, enc1_len hm, ih]

/-! slices, sums, joins -/
open Builtin.Str StrLaws in
theorem slice_clip (x : Str) (a : Nat) {b : Nat} (hb : x.length ≤ b) : strSliceIndices (some (a : Int)) (some (b : Int)) 1 x.length = strSliceIndices (some (a : Int)) (some (x.length : Int)) 1 x.length := by
  have e1 : max (0 : Int) (min (b : Int) (x.length : Int)) = x.length := by omega
  have e2 : max (0 : Int) (min (x.length : Int) (x.length : Int)) = x.length := by omega
  have h1 : ¬ ((b : Int) < 0) := by omega
  have h2 : ¬ ((x.length : Int) < 0) := by omega
  simp only [strSliceIndices, h1, h2, if_false, e1, e2, show ((1 : Int) > 0) = True from by simp, if_true]
open StrLaws in
theorem cut_text (l : List Nat) {a b : Nat} (hab : a ≤ b) (ha : a ≤ l.length) : sliceText (tx l) (some (a : Int)) (some (b : Int)) = tx ((l.drop a).take (b - a)) := by
  by_cases hb : b ≤ l.length
  · exact sliceText_nat (tx l) hab (by rw [tx_len]; exact hb)
  · have h1 : sliceText (tx l) (some (a : Int)) (some (b : Int)) = sliceText (tx l) (some (a : Int)) (some ((tx l).length : Int)) := by
      unfold sliceText
      rw [slice_clip (tx l) a (by rw [tx_len]; omega)]
    rw [h1, sliceText_nat (tx l) (by rw [tx_len]; exact ha) (Nat.le_refl _)]
    show tx _ = tx _
    congr 1
    rw [List.take_of_length_le (by simp [tx_len]), List.take_of_length_le (by simp; omega)]
theorem str_cut {prog : Program} {w : World} {A : Around} {E : Value → Shared → Prop} {s : Shared} {env : Env} {value lo hi : Expr} {p pos : Pos} {Q : Value → Shared → Prop}
    (h : wpAny (model prog w) A (eval value env) (fun o s₁ => wpAny (model prog w) A (eval lo env) (fun vl s₂ => wpAny (model prog w) A (eval hi env) (fun vu s₃ =>
      ∃ l t a b ua ub, o = .str (tx l) t ∧ vl = .int ((a : Nat) : Int) ua ∧ vu = .int ((b : Nat) : Int) ub ∧ a ≤ b ∧ a ≤ l.length ∧ l.length ≤ 100000 ∧
        ∀ t' h' tk, Le s₃.heap h' → Q (.str (tx ((l.drop a).take (b - a))) t') { s₃ with heap := h', toks := tk }) E s₂) E s₁) E s)
    (ht : ∀ o r, letTemporaryGo value o r = pure () := by intro _ _; rfl) :
    wpAny (model prog w) A (eval (.Subscript value (.Slice (some lo) (some hi) none p) pos) env) Q E s := by
  refine wpAny_Subscript_str_slice (wpAny_mono h (fun o s₁ h₁ => wpAny_evalPart_some (wpAny_mono h₁ (fun vl s₂ h₂ => wpAny_evalPart_some (wpAny_mono h₂ (fun vu s₃ h₃ => ?_) fun _ _ e => e)) fun _ _ e => e)) fun _ _ e => e) ht
  obtain ⟨l, t, a, b, ua, ub, rfl, rfl, rfl, hab, ha, hl, hQ⟩ := h₃
  refine ⟨tx l, t, some ((a : Int), ua), some ((b : Int), ub), rfl, rfl, rfl, ?_⟩
  have e := cut_text l hab ha
  unfold StrLaws.sliceText at e
  refine post_val_or_str ⟨?_, fun t' k => ?_⟩
  · show Str.length _ ≤ _
    have e' : (if ((1 : Int) == 1 && (Builtin.Str.strSliceIndices (some (a : Int)) (some (b : Int)) 1 (tx l).length).length == (tx l).length) = true then tx l else ⟨((Builtin.Str.strSliceIndices (some (a : Int)) (some (b : Int)) 1 (tx l).length).filterMap ((tx l).cps[·]?)).toArray⟩) = tx ((l.drop a).take (b - a)) := e
    have : (tx ((l.drop a).take (b - a))).length ≤ sizeLine := by rw [tx_len, sizeLine_eq, List.length_take, List.length_drop]; omega
    rw [← e'] at this
    exact this
  · have := hQ t' _ k (le_push s₃.heap { cls := .type "slice", data := .fields #[.int (a : Int) ua, .int (b : Int) ub, .none] })
    rw [← e] at this
    exact this
theorem list_upto {prog : Program} {w : World} {A : Around} {E : Value → Shared → Prop} {s : Shared} {env : Env} {value hi : Expr} {p pos : Pos} {Q : Value → Shared → Prop}
    (h : wpAny (model prog w) A (eval value env) (fun o s₁ => wpAny (model prog w) A (eval hi env) (fun vu s₃ =>
      ∃ l vs ns b ub, o = .ref l ∧ s₃.heap.IsList l (vs : List Value).toArray ∧ IntsAre vs ns ∧ vu = .int ((b : Nat) : Int) ub ∧ ns.length ≤ 100000 ∧
        ∀ a vs' h', s₃.heap.get? a = none → Le s₃.heap h' → h'.PlainList a (vs' : List Value).toArray → IntsAre vs' (ns.take b) → Q (.ref a) { s₃ with heap := h' }) E s₁) E s)
    (ht : ∀ o r, letTemporaryGo value o r = pure () := by intro _ _; rfl) :
    wpAny (model prog w) A (eval (.Subscript value (.Slice none (some hi) none p) pos) env) Q E s := by
  refine wpAny_Subscript_list_slice (wpAny_mono h (fun o s₁ h₁ => wpAny_evalPart_none (wpAny_evalPart_some (wpAny_mono h₁ (fun vu s₃ h₃ => ?_) fun _ _ e => e))) fun _ _ e => e) ht
  obtain ⟨l, vs, ns, b, ub, rfl, hl, hi, rfl, hlen, hQ⟩ := h₃
  refine ⟨l, vs.toArray, none, some (b : Int), rfl, hl, by rw [List.size_toArray, hi.length, sizeLine_eq]; omega, .none, .int _ _, ?_⟩
  have hx := slice_ints_uptoW hi (y := (b : Int)) (by omega)
  rw [Int.toNat_natCast] at hx
  generalize hh1 : s₃.heap.push { cls := .type "slice", data := .fields #[.none, .int (b : Int) ub, .none] } = h1
  have hs1 : s₃.heap.objs.size + 1 = h1.objs.size := by rw [← hh1, Heap.size_push]
  have k1 : Le s₃.heap h1 := by rw [← hh1]; exact le_push _ _
  rw [hs1]
  refine hQ _ (slicePick vs.toArray none (some (b : Int)) none).toList _ (none_of_le k1 (none_at_size _)) (k1.trans (le_push _ _)) ⟨0, ?_⟩ hx
  rw [Array.toArray_toList]
  exact Heap.get?_push_size _ rfl
theorem sum_ints {prog : Program} {w : World} {A : Around} {E : Value → Shared → Prop} {s : Shared} {l : Addr} {vs : List Value} {ns : List Int} {Q : Value → Shared → Prop} (hh : A.handled = none) (hl : s.heap.IsList l vs.toArray) (hi : IntsAre vs ns)
    (h : ∀ u h' tk, Le s.heap h' → Q (.int ns.sum u) { s with heap := h', toks := tk }) :
    wpAny (model prog w) A (call (.builtin "sum") [.ref l]) Q E s := by
  obtain ⟨xs, hx⟩ := (show AllInts vs.toArray from hi.allInts).items
  have hn : numsOf vs.toArray.toList = ns := hi.numsOf
  rw [hx] at hl hn
  rw [nums_intItems] at hn
  refine sum_intListG hh hl fun h' tk t' hk => ?_
  have := h t' h' tk hk
  rw [preSum_eq, List.take_of_length_le (by simp), hn]
  exact this
theorem add_lists_ {prog : Program} {w : World} {A : Around} {E : Value → Shared → Prop} {s : Shared} {a b : Addr} {vs ws : List Value} {Q : Value → Shared → Prop} (ha : s.heap.IsList a vs.toArray) (hb : s.heap.IsList b ws.toArray)
    (hsz : vs.length + ws.length ≤ 100000)
    (h : ∀ c h', s.heap.get? c = none → Le s.heap h' → h'.PlainList c (vs ++ ws).toArray → Q (.ref c) { s with heap := h' }) :
    wpAny (model prog w) A (binaryOp .Add (.ref a) (.ref b)) Q E s := by
  obtain ⟨⟨ca, da, xa, sa⟩, oa, ha1, na, ha2⟩ := id ha
  obtain ⟨⟨cb, db, xb, sb⟩, ob, hb1, nb, hb2⟩ := id hb
  dsimp only at ha1 ha2 hb1 hb2
  subst ha1 ha2 hb1 hb2
  refine concat_meets ⟨_, oa, rfl⟩ ⟨_, ob, rfl⟩ noFill_list_add seq_list_add PySem.F.slot_list_add PySem.F.entry_list_add (PySem.F.args_list_add_2 _ _) (list_addW a b vs.toArray ws.toArray na nb da db sa sb (by rw [List.size_toArray, List.size_toArray, sizeLine_eq]; omega)) ⟨oa, ob, ?_⟩
  rw [show vs.toArray ++ ws.toArray = (vs ++ ws).toArray by simp]
  exact h _ _ (none_at_size _) (le_push _ _) ⟨_, Heap.get?_push_size _ rfl⟩
theorem fold_cps (ys : List (List Nat)) (acc : Array Nat) : (ys.map tx).foldl (fun acc p => acc ++ (nm "").cps ++ p.cps) acc = acc ++ ys.flatten.toArray := by
  induction ys generalizing acc with
  | nil => simp
  | cons y ys ih =>
    rw [List.map_cons, List.foldl_cons, ih, show (nm "").cps = #[] from rfl]
    simp
theorem join_signs (ys : List (List Nat)) : Txt.join (nm "") (ys.map tx) = tx ys.flatten := by
  unfold Txt.join Builtin.Str.glued
  cases ys with
  | nil => rfl
  | cons y ys =>
    rw [List.map_cons, List.drop_succ_cons, List.drop_zero, List.headD_cons, fold_cps]
    show (⟨y.toArray ++ ys.flatten.toArray⟩ : Str) = ⟨(y ++ ys.flatten).toArray⟩
    rw [List.append_toArray]
inductive TxAre : List Value → List (List Nat) → Prop
  | nil : TxAre [] []
  | cons (l : List Nat) (t : Tok) {vs : List Value} {ls : List (List Nat)} : TxAre vs ls → TxAre (.str (tx l) t :: vs) (l :: ls)
theorem TxAre.strs {vs : List Value} {ls : List (List Nat)} (x : TxAre vs ls) : StrsAre vs (ls.map tx) := by
  induction x with
  | nil => exact .nil
  | cons l t _ ih => exact .cons _ _ ih
theorem call_join {prog : Program} {w : World} {A : Around} {E : Value → Shared → Prop} {s : Shared} {t : Tok} {Q : Value → Shared → Prop} {D : Addr} {vs : List Value} {ys : List (List Nat)}
    (hl : s.heap.IsList D vs.toArray) (hi : TxAre vs ys) (hw : (ys.map List.length).sum + ys.length ≤ 100000)
    (h : ∀ t' k, Q (.str (tx ys.flatten) t') { s with toks := k }) : wpAny (model prog w) A (call (.builtin "str.join") [.str (nm "") t, .ref D]) Q E s := by
  refine join_listW hl (ys := ys.map tx) hi.strs (by decide) ?_ fun t' k => ?_
  · rw [List.map_map, List.length_map]
    have e : (ys.map (Str.length ∘ tx)) = ys.map List.length := by
      apply List.map_congr_left; intro l _; exact tx_len l
    have e2 : (ys.map ((fun x => x.length) ∘ tx)) = ys.map List.length := e
    rw [e2]; omega
  · rw [join_signs]; exact h t' k
theorem mul_bs {prog : Program} {w : World} {A : Around} {E : Value → Shared → Prop} {s : Shared} {t u : Tok} {Q : Value → Shared → Prop} {n : Nat} (hn : n ≤ 3)
    (h : ∀ t' k, Q (.str (tx (List.replicate n 92)) t') { s with toks := k }) : wpAny (model prog w) A (binaryOp .Mult (.str (nm "\\") t) (.int (n : Int) u)) Q E s := by
  have hc : n = 0 ∨ n = 1 ∨ n = 2 ∨ n = 3 := by omega
  rcases hc with rfl | rfl | rfl | rfl <;> exact SB.mul (by unfold MulOk; refine ⟨by decide, by decide, by decide⟩) h
theorem tx_add (a b : List Nat) : tx a ++ tx b = tx (a ++ b) := by
  show (⟨a.toArray ++ b.toArray⟩ : Str) = ⟨(a ++ b).toArray⟩
  simp
theorem item_tx {l : List Nat} {k : Nat} (hk : k < l.length) : Txt.item (tx l) (k : Int) = tx [l[k]] := by
  unfold Txt.item Txt.charAt
  rw [StrLaws.at_nonneg (n := l[k]) (by omega) (by simp [hk])]
  rfl
theorem last_list {prog : Program} {w : World} {A : Around} {E : Value → Shared → Prop} {s : Shared} {value slice : Expr} {a : Addr} {l : List Value} {u : Tok} {x : Value} {Q : Value → Shared → Prop} (hl : s.heap.IsList a l.toArray)
    (hx : l.getLast? = some x) (h : Q x s)
    (hs : subscripted slice false (.ref a) (.int (-1) u) = operate [.ref a, .int (-1) u] (getItem (.ref a) (.int (-1) u)) := by with_unfolding_all rfl) (hg : ∀ r, letTemporaryGo value (.ref a) r = pure () := by intro _; with_unfolding_all rfl) :
    wpAny (model prog w) A (subscriptTail value slice (.ref a) (.int (-1) u)) Q E s := by
  have hp : 0 < l.length := by
    cases l with
    | nil => cases hx
    | cons _ _ => simp
  refine subscriptTail_builtin hl.typeIs slot_list_getitem.lookup (wpAny_getItem_list_neg hl (by decide) (by rw [List.size_toArray]; omega) (by decide) ?_ h) hs hg
  rw [List.size_toArray, List.getElem?_toArray, ← hx, List.getLast?_eq_getElem?]
  congr 1
  omega
theorem Ans.eqAt {h : Heap} {A : Around} {s : Shared} {v v' : Value} {r : Option (Nat × Nat)} (hs : s.heap = h) (x : Ans h v r) (y : Ans h v' r) (hu : A.units < cLine) : SeqAt.EqAt A s v v' true := by
  subst hs
  cases r with
  | none =>
    have e1 : v = .none := x
    have e2 : v' = .none := y
    rw [e1, e2]; exact SeqAt.EqAt.same _
  | some p =>
    obtain ⟨t, a, b, rfl, h1⟩ := x
    obtain ⟨t', a', b', rfl, h2⟩ := y
    by_cases ht : t = t'
    · subst ht; exact SeqAt.EqAt.same _
    · refine SeqAt.EqAt.of_refs ht ?_
      have := SeqAt.RcAt.tuples (A := A) (s := s) (e := fun _ => true) (l := t) (b := t') (items := #[.int (p.1 : Int) a, .int (p.2 : Int) b]) (items2 := #[.int (p.1 : Int) a', .int (p.2 : Int) b']) ⟨_, h1, rfl, 0, rfl⟩ ⟨_, h2, rfl, 0, rfl⟩ hu (by
        intro j j1 j2
        have hj : j = 0 ∨ j = 1 := by simp at j1; omega
        rcases hj with rfl | rfl
        · have := SeqAt.EqAt.int_int (A := A.in1) (s := s) (p.1 : Int) a (p.1 : Int) a'
          rw [beq_self_eq_true] at this; exact this
        · have := SeqAt.EqAt.int_int (A := A.in1) (s := s) (p.2 : Int) b (p.2 : Int) b'
          rw [beq_self_eq_true] at this; exact this)
      exact this
theorem ne_answers {prog : Program} {w : World} {A : Around} {E : Value → Shared → Prop} {s : Shared} {a b : Addr} {vs ws : List Value} {rs : List (Option (Nat × Nat))} {Q : Value → Shared → Prop}
    (ha : s.heap.IsList a vs.toArray) (hb : s.heap.IsList b ws.toArray) (xa : AnsAll s.heap vs rs) (xb : AnsAll s.heap ws rs) (hu : A.units < cLine) (hu1 : A.in1.units < cLine) (h : Q (.bool false) s) :
    wpAny (model prog w) A (compareOp .NotEq (.ref a) (.ref b)) Q E s := by
  have hlen : vs.length = ws.length := by rw [xa.length, xb.length]
  have get : ∀ {vs ws : List Value} {rs : List (Option (Nat × Nat))}, AnsAll s.heap vs rs → AnsAll s.heap ws rs → ∀ j (h1 : j < vs.length) (h2 : j < ws.length), ∃ r, Ans s.heap vs[j] r ∧ Ans s.heap ws[j] r := by
    intro vs ws rs xa
    induction xa generalizing ws with
    | nil => intro _ j h1; simp at h1
    | cons p _ ih =>
      intro xb j h1 h2
      cases xb with
      | cons q xb =>
        cases j with
        | zero => exact ⟨_, p, q⟩
        | succ j => exact ih xb j (by simpa using h1) (by simpa using h2)
  have := SeqAt.RcNeAt.lists (A := A) (s := s) (e := fun _ => true) ha hb (by simpa using hlen) hu (by
    intro j h1 h2
    obtain ⟨r, p, q⟩ := get xa xb j (by simpa using h1) (by simpa using h2)
    simp only [List.getElem_toArray]
    exact Ans.eqAt rfl p q hu1)
  refine EqBoolInt.of_rcne this ?_
  rw [List.all_eq_true.mpr (fun _ _ => rfl)]
  exact h

/-! comprehensions -/
def IterOf (prog : Program) (w : World) (A : Around) (xv : Value) (s₁ : Shared) (n : Nat) (P : Nat → Value → Prop) : Prop :=
  ∀ (Q : Value → Shared → Prop) (E : Value → Shared → Prop), (∀ I fp wr St h₂ tk₂, Walks prog w A I fp wr n P St → St 0 h₂ → Le s₁.heap h₂ → (∀ b ∈ wr, s₁.heap.get? b = none) → (∀ b ∈ fp, b < h₂.objs.size) →
    Q (.ref I) { s₁ with heap := h₂, toks := tk₂ }) → wpAny (model prog w) A (pyIter xv) Q E s₁
theorem IterOf.list {prog : Program} {w : World} {A : Around} {s : Shared} {l : Addr} {vs : List Value} (hh : A.handled = none) (hl : s.heap.IsList l vs.toArray) : IterOf prog w A (.ref l) s vs.length (fun i v => vs[i]? = some v) := by
  intro Q E h
  refine wpAny_pyIter_list hl ?_
  have hne : l ≠ s.heap.objs.size := by obtain ⟨o, ho, _⟩ := hl; exact Nat.ne_of_lt (Heap.lt_size ho)
  have W := Walks.list (prog := prog) (w := w) hh s.heap.objs.size l hne vs.toArray
  rw [List.size_toArray] at W
  have W' : Walks prog w A s.heap.objs.size [s.heap.objs.size, l] [s.heap.objs.size] vs.length (fun i v => vs[i]? = some v) (fun i h => h.IsListIter s.heap.objs.size l i ∧ h.IsList l vs.toArray) := by
    have e : (fun (i : Nat) (v : Value) => vs.toArray[i]? = some v) = fun i v => vs[i]? = some v := by funext i v; rw [List.getElem?_toArray]
    rw [← e]; exact W
  refine h _ _ _ _ _ s.toks W' ⟨⟨_, Heap.get?_push_size _ rfl, rfl, rfl⟩, hl.push _⟩ (le_push _ _) ?_ ?_
  · intro b hb; rw [List.mem_singleton] at hb; rw [hb]; exact none_at_size _
  · intro b hb
    rw [Heap.size_push]
    simp only [List.mem_cons, List.not_mem_nil, or_false] at hb
    rcases hb with rfl | rfl
    · exact Nat.lt_succ_self _
    · obtain ⟨o, ho, _⟩ := hl; exact Nat.lt_succ_of_lt (Heap.lt_size ho)
theorem IterOf.str {prog : Program} {w : World} {A : Around} {s : Shared} {l : List Nat} {t : Tok} (hh : A.handled = none) : IterOf prog w A (.str (tx l) t) s l.length (fun i v => ∃ c u, l[i]? = some c ∧ v = .str (tx [c]) u) := by
  intro Q E h
  refine wpAny_pyIter_str fun o St W st => ?_
  have W' := W A hh
  have e : (tx l).cps.size = l.length := by simp
  rw [e] at W'
  have e2 : SignAt (tx l) = fun i v => ∃ c u, l[i]? = some c ∧ v = .str (tx [c]) u := by
    funext i v; unfold SignAt; simp only [List.getElem?_toArray]
  rw [e2] at W'
  refine h _ _ _ _ _ s.toks W' st (le_push _ _) ?_ ?_
  · intro b hb; rw [List.mem_singleton] at hb; rw [hb]; exact none_at_size _
  · intro b hb; rw [List.mem_singleton] at hb; rw [Heap.size_push, hb]; exact Nat.lt_succ_self _
theorem IterOf.range {prog : Program} {w : World} {A : Around} {s : Shared} {r : Addr} {N : Nat} {t u v : Tok} (hh : A.handled = none) (hN : N < 1000000) (hr : IsRange s.heap r 0 (N : Int) 1 t u v) :
    IterOf prog w A (.ref r) s N (fun i v => ∃ t, v = .int (i : Int) t) := by
  intro Q E h
  refine wpAny_pyIter_range hr (small_one (by decide) (by decide) (by omega) (by omega)) ?_
  have hsz : Builtin.Range.rangeSize 0 (N : Int) 1 = (N : Int) := by rw [rangeSize_one]; split <;> omega
  rw [hsz]
  have W := Walks.range (prog := prog) (w := w) hh s.heap.objs.size 0 1 N
  have e : (fun (i : Nat) (v : Value) => ∃ t, v = .int (0 + (i : Int) * 1) t) = fun i v => ∃ t, v = .int (i : Int) t := by
    funext i v; rw [show (0 + (i : Int) * 1) = (i : Int) by omega]
  rw [e] at W
  refine h _ _ _ _ _ s.toks W ?_ (le_push _ _) ?_ ?_
  · show IsRangeIter _ _ (0 + ((0 : Nat) : Int) * 1) ((N : Int) - ((0 : Nat) : Int)) 1
    rw [show (0 + ((0 : Nat) : Int) * 1) = 0 by omega, show ((N : Int) - ((0 : Nat) : Int)) = N by omega]
    exact Heap.get?_push_size _ rfl
  · intro b hb; rw [List.mem_singleton] at hb; rw [hb]; exact none_at_size _
  · intro b hb; rw [List.mem_singleton] at hb; rw [Heap.size_push, hb]; exact Nat.lt_succ_self _
/-- what an element's walk must give -/
def EltOk (prog : Program) (w : World) (A : Around) (env : Env) (scope : Scope) (cl : List (Str × Addr)) (x : Str) (elt : Expr) (n : Nat) (P : Nat → Value → Prop) (F : Value → Value → Prop) (h₁ : Heap) : Prop :=
  ∀ C i v (s₃ : Shared) m₃ E', i < n → P i v → Fm h₁ C s₃.heap m₃ → m₃ x = some v → wpAny (model prog w) A (eval elt (compEnvC scope cl C env)) (fun y s₄ => F v y ∧ Keeps s₃ s₄) E' s₃
def TestOk (prog : Program) (w : World) (A : Around) (env : Env) (scope : Scope) (cl : List (Str × Addr)) (x : Str) (ifs : List Expr) (n : Nat) (P : Nat → Value → Prop) (p : Value → Bool) (h₁ : Heap) : Prop :=
  ∀ C i v (s₃ : Shared) m₃ E', i < n → P i v → Fm h₁ C s₃.heap m₃ → m₃ x = some v →
    wpAny (model prog w) A (forIn ifs true fun c r => if r = true then do let ok ← isTrue c (compEnvC scope cl C env) (eval c (compEnvC scope cl C env)); pure (ForInStep.yield ok) else pure (ForInStep.yield r))
      (fun ok s₄ => ok = p v ∧ Keeps s₃ s₄) E' s₃
theorem TestOk.nil {prog : Program} {w : World} {A : Around} {env : Env} {scope : Scope} {cl : List (Str × Addr)} {x : Str} {n : Nat} {P : Nat → Value → Prop} {h₁ : Heap} : TestOk prog w A env scope cl x [] n P (fun _ => true) h₁ := by
  intro C i v s₃ m₃ E' _ _ _ _
  rw [List.forIn_nil]
  exact wpAny_pure ⟨rfl, s₃.heap, s₃.toks, rfl, fun _ _ e => e⟩
theorem quiet_of {prog : Program} {w : World} {A : Around} {env : Env} {scope : Scope} {cl : List (Str × Addr)} {x : Str} {ifs : List Expr} {elt : Expr} {n : Nat} {P P' : Nat → Value → Prop} {p : Value → Bool} {F : Value → Value → Prop} {s₂ : Shared} {h₁ : Heap} {wr : List Addr}
    (hP : ∀ i v, P' i v → i < n ∧ P i v) (t : TestOk prog w A env scope cl x ifs n P p h₁) (e : EltOk prog w A env scope cl x elt n P F h₁) (k : Le h₁ s₂.heap) (hw : ∀ b ∈ wr, h₁.get? b = none) :
    QuietOnC prog w A env scope cl x ifs elt wr P' p F s₂ := by
  have fm : ∀ C (s₃ : Shared) m₃, s₂.heap.objs.size ≤ C → s₃.heap.Ns C m₃ → (∀ b o, b ∉ wr → s₂.heap.get? b = some o → s₃.heap.get? b = some o) → Fm h₁ C s₃.heap m₃ := fun C s₃ m₃ hC hn hk =>
    ⟨hn, fun b o e => hk b o (fun hb => by rw [hw b hb] at e; cases e) (k b o e), none_of_le k (Heap.get?_none_of_le hC)⟩
  exact ⟨fun C i v s₃ m₃ E' hC hv hn hm hk _ => t C i v s₃ m₃ E' (hP i v hv).1 (hP i v hv).2 (fm C s₃ m₃ hC hn hk) hm,
    fun C i v s₃ m₃ E' hC hv _ hn hm hk _ => e C i v s₃ m₃ E' (hP i v hv).1 (hP i v hv).2 (fm C s₃ m₃ hC hn hk) hm⟩
/-- no walk gives a place beyond its count: the items that it gives are those of the places -/
theorem walks_cut {prog : Program} {w : World} {A : Around} {I : Addr} {fp wr : List Addr} {n : Nat} {P : Nat → Value → Prop} {St : Nat → Heap → Prop} (W : Walks prog w A I fp wr n P St) : Walks prog w A I fp wr n (fun i v => i < n ∧ P i v) St :=
  { sub := W.sub, frame := W.frame, item := fun i s Q E hi st hQ => W.item i s Q E hi st fun v h' tk hv => hQ v h' tk ⟨hi, hv⟩, done := W.done, self := W.self }
theorem lc_gen {prog : Program} {w : World} {A : Around} {E : Value → Shared → Prop} {env : Env} {s : Shared} {elt iter : Expr} {x : Str} {px : Pos} {ifs : List Expr} {scope : Scope} {cl : List (Str × Addr)} {pos : Pos} {Q : Value → Shared → Prop} (p : Value → Bool) (F : Value → Value → Prop)
    (hclos : closureFor scope env = pure cl) (hcell : ∀ y ∈ scope.names, y.2 ≠ .cell) (hkind : scope.kind = .function)
    (hnames : ∀ y ∈ scope.names, y.2 = .local → scope.names.lookup y.1 = some .local) (hx : scope.names.lookup x = some .local)
    (h : wpAny (model prog w) A (eval iter env) (fun xv s₁ => ∃ n P, IterOf prog w A xv s₁ n P ∧ n ≤ 100000 ∧ TestOk prog w A env scope cl x ifs n P p s₁.heap ∧ EltOk prog w A env scope cl x elt n P F s₁.heap ∧
      (∀ D h' tk (ys vs : List Value), s₁.heap.get? D = none → Le s₁.heap h' → h'.PlainList D ys.toArray → vs.length = n → (∀ j v, vs[j]? = some v → P j v) → Paired F (vs.filter p) ys → Q (.ref D) { s₁ with heap := h', toks := tk })) E s)
    (hs : ∀ x, foldedSetIterable iter env x = pure x := by intro _; rfl) :
    wpAny (model prog w) A (eval (.ListComp elt [⟨.Name x px, iter, ifs, 0⟩] scope pos) env) Q E s := by
  refine wpAny_ListComp_free p F hclos hcell hkind hnames hx (wpAny_mono h (fun xv s₁ h₁ => ?_) fun _ _ e => e) hs
  obtain ⟨n, P, it, hn, ht, he, hQ⟩ := h₁
  refine it _ _ fun I fp wr St h₂ tk₂ W st k hw hf => ⟨I, fp, wr, n, _, St, rfl, walks_cut W, by rw [sizeLine_eq]; omega, st, hf, quiet_of (fun i v hv => hv) ht he k hw, ?_⟩
  intro D h' tk ys vs hD _ hpl hlen hP hF hk
  refine hQ D h' tk ys.toList vs (none_of_le k hD) (fun b o e => hk b o (fun hb => by rw [hw b hb] at e; cases e) (k b o e)) (by rw [Array.toArray_toList]; exact hpl) hlen (fun j v hv => (hP j v hv).2) hF
theorem lca_gen {prog : Program} {w : World} {A : Around} {E : Value → Shared → Prop} {env : Env} {s : Shared} {elt iter : Expr} {x y : Str} {px py : Pos} {ifs : List Expr} {scope : Scope} {cl : List (Str × Addr)} {pos spos : Pos} {Q : Flow → Shared → Prop} {g : Heap} (p : Value → Bool) (F : Value → Value → Prop)
    (hsw : swapsWith (.ListComp elt [⟨.Name x px, iter, ifs, 0⟩] scope pos) (some (.Name y py)) spos.line env = pure true)
    (hclos : closureFor scope env = pure cl) (hcell : ∀ y ∈ scope.names, y.2 ≠ .cell) (hkind : scope.kind = .function)
    (hnames : ∀ y ∈ scope.names, y.2 = .local → scope.names.lookup y.1 = some .local) (hx : scope.names.lookup x = some .local)
    (hy : env.kindOf y = some .local) (hp : (env.scope.kind == .class || (env.scope.kind == .module && env.locals != env.globals)) = false)
    (h : wpAny (model prog w) A (eval iter env) (fun xv s₁ => ∃ n P m, IterOf prog w A xv s₁ n P ∧ n ≤ 100000 ∧ Fm g env.locals s₁.heap m ∧ TestOk prog w A env scope cl x ifs n P p s₁.heap ∧ EltOk prog w A env scope cl x elt n P F s₁.heap ∧
      (∀ D h' tk (ys vs : List Value), s₁.heap.get? D = none → Fm g env.locals h' (fun z => if z = y then some (.ref D) else m z) → (∀ b o, b ≠ env.locals → s₁.heap.get? b = some o → h'.get? b = some o) → h'.PlainList D ys.toArray → vs.length = n → (∀ j v, vs[j]? = some v → P j v) → Paired F (vs.filter p) ys → Q .next { s₁ with heap := h', toks := tk })) E s)
    (hs : ∀ x, foldedSetIterable iter env x = pure x := by intro _; rfl) :
    wpAny (model prog w) A (exec (.Assign [.Name y py] (.ListComp elt [⟨.Name x px, iter, ifs, 0⟩] scope pos) spos) env) Q E s := by
  refine wpAny_Assign_ListComp_free p F hsw hclos hcell hkind hnames hx hy hp (wpAny_mono h (fun xv s₁ h₁ => ?_) fun _ _ e => e) hs
  obtain ⟨n, P, m, it, hn, Fa, ht, he, hQ⟩ := h₁
  refine it _ _ fun I fp wr St h₂ tk₂ W st k hw hf => ⟨I, fp, wr, n, _, St, m, rfl, walks_cut W, by rw [sizeLine_eq]; omega, st, hf, fun hm => ?_, Fa.ns.keeps k, quiet_of (fun i v hv => hv) ht he k hw, ?_⟩
  · obtain ⟨o, _, _, ho, _⟩ := Fa.ns; rw [hw _ hm] at ho; cases ho
  · intro D h' tk ys vs hD _ hpl hlen hP hF hn' hk
    have kk : ∀ b o, b ≠ env.locals → s₁.heap.get? b = some o → h'.get? b = some o := fun b o hb e => hk b o hb (fun hb => by rw [hw b hb] at e; cases e) (k b o e)
    refine hQ D h' tk ys.toList vs (none_of_le k hD) ⟨hn', fun b o e => kk b o (fun hb => by rw [hb, Fa.gL] at e; cases e) (Fa.keep b o e), Fa.gL⟩ kk (by rw [Array.toArray_toList]; exact hpl) hlen (fun j v hv => (hP j v hv).2) hF

/-! the law's own frame -/
noncomputable abbrev lawEnv (L : Nat) (fa : Addr) (cd : Value) : Env := envOfC (nm "law") (fdScope (stOf 12)) L fa cd
theorem nn {a b : Nat} (h : a ≠ b) : @Ne Addr a b := h
structure LS (w : World) (mg mb : Str → Option Value) (g : Heap) (L : Nat) (h : Heap) (m : Str → Option Value) (vt vl vw vc : Option Value) : Prop where
  F : Fm g L h m
  W : Wd w mg mb g
  T : Tb h
  ct : h.IsCell (L + 1) vt
  cl : h.IsCell (L + 1 + 1) vl
  cw : h.IsCell (L + 1 + 1 + 1) vw
  cc : h.IsCell (L + 1 + 1 + 1 + 1) vc
  g35 : g.get? 35 = none
  g42 : g.get? 42 = none
  gc : ∀ c : Nat, L < c → c ≤ L + 1 + 1 + 1 + 1 → g.get? c = none
section
variable {w : World} {mg mb : Str → Option Value} {g h h' : Heap} {L : Nat} {m m' : Str → Option Value} {vt vl vw vc : Option Value}
theorem LS.Wh (S : LS w mg mb g L h m vt vl vw vc) : Wd w mg mb h := S.W.le S.F.keep
theorem LS.le (S : LS w mg mb g L h m vt vl vw vc) (k : Le h h') : LS w mg mb g L h' m vt vl vw vc :=
  ⟨S.F.le k, S.W, S.T.le k, S.ct.keeps k, S.cl.keeps k, S.cw.keeps k, S.cc.keeps k, S.g35, S.g42, S.gc⟩
theorem LS.loc (S : LS w mg mb g L h m vt vl vw vc) (F' : Fm g L h' m') (k : ∀ b o, b ≠ L → h.get? b = some o → h'.get? b = some o) : LS w mg mb g L h' m' vt vl vw vc :=
  ⟨F', S.W, S.T.but (fun b => b = L) (fun b o z e => k b o z e) (fun a o z e => by
      subst z
      obtain ⟨o', es, ep, e', d, _⟩ := S.F.ns
      rw [e'] at e; cases e
      exact .inr fun vs q => by rw [d] at q; cases q),
    (let ⟨o, e, r⟩ := S.ct; ⟨o, k _ _ (by show L + 1 ≠ L; exact Nat.ne_of_gt (by omega)) e, r⟩), (let ⟨o, e, r⟩ := S.cl; ⟨o, k _ _ (by show L + 1 + 1 ≠ L; exact Nat.ne_of_gt (by omega)) e, r⟩),
    (let ⟨o, e, r⟩ := S.cw; ⟨o, k _ _ (by show L + 1 + 1 + 1 ≠ L; exact Nat.ne_of_gt (by omega)) e, r⟩), (let ⟨o, e, r⟩ := S.cc; ⟨o, k _ _ (by show L + 1 + 1 + 1 + 1 ≠ L; exact Nat.ne_of_gt (by omega)) e, r⟩), S.g35, S.g42, S.gc⟩
theorem Tb.cell {c : Addr} {v : Option Value} (T : Tb h) (x : h.IsCell c v) (hs : Heap.SameBut c h h') : Tb h' :=
  T.but (fun b => b = c) (fun b o z e => (hs.2 b z).trans e) fun a o z e => by
    subst z
    obtain ⟨o', e', d⟩ := x
    rw [e'] at e; cases e
    exact .inr fun vs q => by rw [d] at q; cases q
theorem Fm.cell {c : Addr} (F : Fm g L h m) (hc : c ≠ L) (gc : g.get? c = none) (hs : Heap.SameBut c h h') : Fm g L h' m :=
  ⟨F.ns.sameBut hs hc.symm, fun b o e => (hs.2 b (by rintro rfl; rw [gc] at e; cases e)).trans (F.keep b o e), F.gL⟩
theorem LS.setT {v : Option Value} (S : LS w mg mb g L h m vt vl vw vc) (x : h'.IsCell (L + 1) v) (hs : Heap.SameBut (L + 1) h h') : LS w mg mb g L h' m v vl vw vc :=
  ⟨S.F.cell (Nat.ne_of_gt (by omega)) (S.gc _ (by omega) (by omega)) hs, S.W, S.T.cell S.ct hs, x, S.cl.sameBut hs (nn (by omega)), S.cw.sameBut hs (nn (by omega)), S.cc.sameBut hs (nn (by omega)), S.g35, S.g42, S.gc⟩
theorem LS.setL {v : Option Value} (S : LS w mg mb g L h m vt vl vw vc) (x : h'.IsCell (L + 1 + 1) v) (hs : Heap.SameBut (L + 1 + 1) h h') : LS w mg mb g L h' m vt v vw vc :=
  ⟨S.F.cell (Nat.ne_of_gt (by omega)) (S.gc _ (by omega) (by omega)) hs, S.W, S.T.cell S.cl hs, S.ct.sameBut hs (nn (by omega)), x, S.cw.sameBut hs (nn (by omega)), S.cc.sameBut hs (nn (by omega)), S.g35, S.g42, S.gc⟩
theorem LS.setW {v : Option Value} (S : LS w mg mb g L h m vt vl vw vc) (x : h'.IsCell (L + 1 + 1 + 1) v) (hs : Heap.SameBut (L + 1 + 1 + 1) h h') : LS w mg mb g L h' m vt vl v vc :=
  ⟨S.F.cell (Nat.ne_of_gt (by omega)) (S.gc _ (by omega) (by omega)) hs, S.W, S.T.cell S.cw hs, S.ct.sameBut hs (nn (by omega)), S.cl.sameBut hs (nn (by omega)), x, S.cc.sameBut hs (nn (by omega)), S.g35, S.g42, S.gc⟩
theorem LS.setC {v : Option Value} (S : LS w mg mb g L h m vt vl vw vc) (x : h'.IsCell (L + 1 + 1 + 1 + 1) v) (hs : Heap.SameBut (L + 1 + 1 + 1 + 1) h h') : LS w mg mb g L h' m vt vl vw v :=
  ⟨S.F.cell (Nat.ne_of_gt (by omega)) (S.gc _ (by omega) (by omega)) hs, S.W, S.T.cell S.cc hs, S.ct.sameBut hs (nn (by omega)), S.cl.sameBut hs (nn (by omega)), S.cw.sameBut hs (nn (by omega)), x, S.g35, S.g42, S.gc⟩
/-- the ghost grows: what the law has made stays -/
theorem LS.grow (S : LS w mg mb g L h m vt vl vw vc) : ∃ g', LS w mg mb g' L h m vt vl vw vc ∧ Le g g' ∧ (∀ a its, h.PlainList a its → g'.PlainList a its) ∧ TupKept h g' := by
  have key : ∃ g' : Heap, (∀ (b : Nat) o, g'.get? b = some o → h.get? b = some o ∧ b ≠ L ∧ b ≠ 35 ∧ b ≠ 42 ∧ ¬ (L < b ∧ b ≤ L + 1 + 1 + 1 + 1)) ∧
      (∀ (b : Nat) o, b ≠ L → b ≠ 35 → b ≠ 42 → ¬ (L < b ∧ b ≤ L + 1 + 1 + 1 + 1) → h.get? b = some o → g'.get? b = some o) := by
    refine ⟨((((((h.hide L).hide 35).hide 42).hide (L + 1)).hide (L + 1 + 1)).hide (L + 1 + 1 + 1)).hide (L + 1 + 1 + 1 + 1), fun b o e => ?_, fun b o n1 n2 n3 n4 e => ?_⟩
    · have ne : ∀ (x : Heap) (a : Addr), (x.hide a).get? b = some o → b ≠ a ∧ x.get? b = some o := fun x a e => ⟨(by rintro rfl; rw [Heap.hide_self] at e; cases e), Heap.of_hide e⟩
      obtain ⟨a1, e⟩ := ne _ _ e
      obtain ⟨a2, e⟩ := ne _ _ e
      obtain ⟨a3, e⟩ := ne _ _ e
      obtain ⟨a4, e⟩ := ne _ _ e
      obtain ⟨a5, e⟩ := ne _ _ e
      obtain ⟨a6, e⟩ := ne _ _ e
      obtain ⟨a7, e⟩ := ne _ _ e
      exact ⟨e, a7, a6, a5, fun q => by
        have a1' : b ≠ L + 1 + 1 + 1 + 1 := a1
        have a2' : b ≠ L + 1 + 1 + 1 := a2
        have a3' : b ≠ L + 1 + 1 := a3
        have a4' : b ≠ L + 1 := a4
        have q1 : L < b := q.1
        have q2 : b ≤ L + 1 + 1 + 1 + 1 := q.2
        exact absurd (Nat.lt_irrefl 0) (by omega)⟩
    · rw [Heap.hide_ne _ (by rintro rfl; exact n4 ⟨by omega, Nat.le_refl _⟩), Heap.hide_ne _ (by rintro rfl; exact n4 ⟨by omega, by omega⟩), Heap.hide_ne _ (by rintro rfl; exact n4 ⟨by omega, by omega⟩), Heap.hide_ne _ (by rintro rfl; exact n4 ⟨by omega, by omega⟩),
        Heap.hide_ne _ n3, Heap.hide_ne _ n2, Heap.hide_ne _ n1]
      exact e
  obtain ⟨g', k1, k2⟩ := key
  have cells : ∀ (b : Nat) o, h.get? b = some o → (L < b ∧ b ≤ L + 1 + 1 + 1 + 1) → ∃ v, o.data = .cell v := by
    intro b o e hb
    have hb' : b = L + 1 ∨ b = L + 1 + 1 ∨ b = L + 1 + 1 + 1 ∨ b = L + 1 + 1 + 1 + 1 := by
      have q1 : L < b := hb.1
      have q2 : b ≤ L + 1 + 1 + 1 + 1 := hb.2
      omega
    rcases hb' with rfl | rfl | rfl | rfl
    · obtain ⟨o', e', d⟩ := S.ct; rw [e'] at e; cases e; exact ⟨_, d⟩
    · obtain ⟨o', e', d⟩ := S.cl; rw [e'] at e; cases e; exact ⟨_, d⟩
    · obtain ⟨o', e', d⟩ := S.cw; rw [e'] at e; cases e; exact ⟨_, d⟩
    · obtain ⟨o', e', d⟩ := S.cc; rw [e'] at e; cases e; exact ⟨_, d⟩
  have seqs : ∀ b o its n, h.get? b = some o → o.data = .seq its n → g'.get? b = some o := by
    intro b o its n e d
    refine k2 b o ?_ ?_ ?_ ?_ e
    · rintro rfl; obtain ⟨o', _, _, ho, hd, _⟩ := S.F.ns; rw [ho] at e; cases e; rw [d] at hd; cases hd
    · rintro rfl; obtain ⟨ps, e1, _⟩ := S.T.a; rw [e1] at e; cases e; cases d
    · rintro rfl; obtain ⟨ps, e1, _⟩ := S.T.b; rw [e1] at e; cases e; cases d
    · intro q; obtain ⟨v, dv⟩ := cells b o e q; rw [d] at dv; cases dv
  have none_of : ∀ b : Nat, (b = L ∨ b = 35 ∨ b = 42 ∨ (L < b ∧ b ≤ L + 1 + 1 + 1 + 1)) → g'.get? b = none := by
    intro b hb
    cases q : g'.get? b with
    | none => rfl
    | some o =>
      obtain ⟨_, n1, n2, n3, n4⟩ := k1 b o q
      rcases hb with h | h | h | h
      · exact absurd h n1
      · exact absurd h n2
      · exact absurd h n3
      · exact absurd h n4
  have kg : Le g g' := fun b o e => k2 b o (by rintro rfl; rw [S.F.gL] at e; cases e) (by rintro rfl; rw [S.g35] at e; cases e) (by rintro rfl; rw [S.g42] at e; cases e) (fun q => by rw [S.gc b q.1 q.2] at e; cases e) (S.F.keep b o e)
  refine ⟨g', ⟨⟨S.F.ns, fun b o e => (k1 b o e).1, none_of L (.inl rfl)⟩, S.W.le kg, S.T, S.ct, S.cl, S.cw, S.cc, none_of 35 (.inr (.inl rfl)), none_of 42 (.inr (.inr (.inl rfl))), fun c h1 h2 => none_of c (.inr (.inr (.inr ⟨h1, h2⟩)))⟩, kg, ?_, ?_⟩
  · rintro a its ⟨n, e⟩; exact ⟨n, seqs a _ _ _ e rfl⟩
  · intro b vs e; exact seqs b _ _ _ e rfl
end
def codeOf (x : Int) : Nat := if Int.fmod x 3 = 0 then 92 else if Int.fmod x 3 = 1 then (if Int.fmod (Int.fdiv x 3) 2 = 0 then 46 else 97) else (Int.fmod (Int.fdiv x 3) 256).toNat
theorem signOf_eq (x : Int) : signOf x = tx [codeOf x] := by
  unfold signOf codeOf
  split
  · rfl
  · split
    · have hb := fmod_bounds (Int.fdiv x 3) (n := 2) (by decide)
      have hc : Int.fmod (Int.fdiv x 3) 2 = 0 ∨ Int.fmod (Int.fdiv x 3) 2 = 1 := by omega
      rcases hc with h | h
      · rw [h]; decide +kernel
      · rw [h]; decide +kernel
    · rfl
theorem codeOf_lt (x : Int) : codeOf x < 256 := by
  unfold codeOf
  split
  · decide
  · split
    · split <;> decide
    · have hb := fmod_bounds (Int.fdiv x 3) (n := 256) (by decide); omega

/-! the law's statements, one by one -/
noncomputable def sx (i : Nat) : Stmt := (fdBody (stOf 12)).getD i (.Pass default)
section
variable {prog : Program} {w : World} {A : Around} {s : Shared} {E : Value → Shared → Prop} {Q : Flow → Shared → Prop} {mg mb : Str → Option Value} {g : Heap} {L : Nat} {fa : Addr} {cd : Value} {m : Str → Option Value} {vt vl vw vc : Option Value} {rest : List Stmt}
theorem st_draw {a : Addr} {vs : List Value} {ns : List Int} (S : LS w mg mb g L s.heap m vt vl vw vc) (hm : m (nm "script") = some (.ref a)) (hl : g.IsList a vs.toArray) (hi : IntsAre vs ns) (hn : ns.length ≤ 63)
    (h : ∀ g' h' m' tk D (ds : List Value), LS w mg mb g' L h' m' vt vl vw vc → Le g g' → m' (nm "draw") = some (.ref D) → g'.PlainList D ds.toArray → IntsAre ds (ns.take 8 ++ [0, 0, 1, 4]) →
      wpAny (model prog w) A (execs rest (lawEnv L fa cd)) Q E { s with heap := h', toks := tk }) :
    wpAny (model prog w) A (execs (sx 0 :: rest) (lawEnv L fa cd)) Q E s := by
  refine wpAny_execs_cons ?_
  have Fa := S.F
  show wpAny _ _ (exec (Stmt.Assign [Expr.Name _ _] (Expr.BinOp (Expr.Subscript _ _ _) _ _ _) _) _) _ _ _
  refine wpAny_Assign_Name ?_
  refine wpAny_BinOp ?_
  refine list_upto ?_
  refine n_loc Fa hm ?_
  repeat (walk_at "mj")
  refine ⟨a, vs, ns, 8, _, rfl, hl.at fun o e => Fa.keep _ _ e, hi, rfl, by omega, fun b vs' h1 hb k1 hl1 hi1 => ?_⟩
  refine PyProof.Rows.List_ ?_
  repeat (walk_at "mj")
  refine new_list (fun c h2 hc k2 hl2 => ?_)
  refine add_lists_ (hl1.isList.at fun o e => k2 _ _ e) hl2.isList (by rw [hi1.length]; simp; omega) fun D h3 hD k3 hl3 => ?_
  refine s_loc (((Fa.le k1).le k2).le k3) (fun h4 tk4 F4 hs4 => ?_)
  have S4 := (((S.le k1).le k2).le k3).loc F4 (fun b o z e => (hs4.2 b z).trans e)
  have l4 := hl3.at fun o e => (hs4.2 D (list_ne_ns hl3 (((Fa.le k1).le k2).le k3).ns)).trans e
  obtain ⟨g', S', kg, kl, _⟩ := S4.grow
  refine h g' h4 _ tk4 D _ S' kg (if_pos rfl) (kl _ _ l4) (hi1.append ?_)
  exact .cons 0 _ (.cons 0 _ (.cons 1 _ (.cons 4 _ .nil)))
theorem Paired.texts {ns : List Int} {ds ys : List Value} {f : Int → List Nat} (hi : IntsAre ds ns) (x : Paired (fun v y => ∃ n t u, v = Value.int n t ∧ y = Value.str (tx (f n)) u) ds ys) : TxAre ys (ns.map f) := by
  induction hi generalizing ys with
  | nil => cases x; exact .nil
  | cons n t _ ih =>
    cases x with
    | cons a b =>
      obtain ⟨n', t', u', e1, rfl⟩ := a
      cases e1
      exact .cons _ _ (ih b)
theorem filter_true {α : Type} (l : List α) : l.filter (fun _ => true) = l := by simp
theorem list_of_get {α : Type} {l l' : List α} (hlen : l.length = l'.length) (h : ∀ (j : Nat) v, l[j]? = some v → l'[j]? = some v) : l = l' := by
  apply List.ext_getElem?
  intro j
  cases e : l[j]? with
  | some v => exact (h j v e).symm
  | none =>
    rw [List.getElem?_eq_none_iff] at e
    symm; rw [List.getElem?_eq_none_iff]; omega
theorem flat_one {α β : Type} (f : α → β) (l : List α) : (l.map fun n => [f n]).flatten = l.map f := by
  induction l with
  | nil => rfl
  | cons n l ih => rw [List.map_cons, List.flatten_cons, ih]; rfl
theorem st_text {D : Addr} {ds : List Value} {ns : List Int} (hroom : A.depth < recursionLimit) (hh : A.handled = none) (S : LS w mg mb g L s.heap m vt vl vw vc) (hm : m (nm "draw") = some (.ref D)) (hl : g.PlainList D ds.toArray) (hi : IntsAre ds ns) (hn : ns.length ≤ 100)
    (h : ∀ h' tk u, LS w mg mb g L h' m (some (.str (tx (ns.map codeOf)) u)) vl vw vc → wpAny (model prog w) A (execs rest (lawEnv L fa cd)) Q E { s with heap := h', toks := tk }) :
    wpAny (model prog w) A (execs (sx 1 :: rest) (lawEnv L fa cd)) Q E s := by
  refine wpAny_execs_cons ?_
  have Fa := S.F
  show wpAny _ _ (exec (Stmt.Assign [Expr.Name _ _] (Expr.Call (Expr.Attribute _ _ _) _ _ _) _) _) _ _ _
  refine wpAny_Assign_Name ?_
  repeat (walk_at "mj")
  with_reducible refine meth_str F.slot_str_join F.type_str_join ?_
  repeat (walk_at "mj")
  refine lc_gen (fun _ => true) (fun v y => ∃ n t u, v = .int n t ∧ y = .str (tx [codeOf n]) u) rfl (by decide +kernel) rfl (by decide +kernel) (by decide +kernel) ?_
  refine n_loc Fa hm ?_
  have hlen := hi.length
  refine ⟨ds.length, _, IterOf.list hh (hl.isList.at fun o e => Fa.keep _ _ e), by omega, TestOk.nil, ?_, ?_⟩
  · intro C i v s₃ m₃ E' hi' hv F3 hx
    have W3 := S.Wh.le F3.keep
    obtain ⟨n, t, rfl⟩ := hi.allInts v (by rw [List.mem_toArray]; exact List.mem_of_getElem? hv)
    refine Call_ ?_
    refine n_glob (.ref 54) W3 ?_
    refine cw_def (look_sign w.params) ?_
    repeat (walk_at "mj")
    refine ⟨W3.K, ?_⟩
    refine call_sign W3 hroom fun u h' tk k => ?_
    refine ⟨⟨n, t, u, rfl, ?_⟩, h', tk, rfl, k⟩
    rw [signOf_eq]
  · intro D' h1 tk ys vs hD k1 hl1 hlen' hP hF
    rw [filter_true, list_of_get hlen' hP] at hF
    have ht := Paired.texts (f := fun n => [codeOf n]) hi hF
    repeat (walk_at "mj")
    refine call_join hl1.isList ht ?_ fun t' k => ?_
    · rw [List.map_map, List.length_map]
      have e : ns.map (List.length ∘ fun n => [codeOf n]) = List.replicate ns.length 1 := by
        rw [List.eq_replicate_iff]
        exact ⟨by simp, by simp⟩
      rw [e]; simp; omega
    · have S1 := S.le k1
      refine wpAny_storeName_cell (by kernel_rfl) (by kernel_rfl) (by rfl) S1.ct (fun h2 hc hs => ?_)
      rw [flat_one] at hc
      exact h h2 _ t' (S1.setT hc hs)
theorem st_total {D : Addr} {ds : List Value} {ns : List Int} (hh : A.handled = none) (S : LS w mg mb g L s.heap m vt vl vw vc) (hm : m (nm "draw") = some (.ref D)) (hl : g.PlainList D ds.toArray) (hi : IntsAre ds ns)
    (h : ∀ h' m' tk u, LS w mg mb g L h' m' vt vl vw vc → m' (nm "total") = some (.int (ns.sum.natAbs : Int) u) → wpAny (model prog w) A (execs rest (lawEnv L fa cd)) Q E { s with heap := h', toks := tk }) :
    wpAny (model prog w) A (execs (sx 2 :: rest) (lawEnv L fa cd)) Q E s := by
  refine wpAny_execs_cons ?_
  have Fa := S.F
  have W1 := S.Wh
  show wpAny _ _ (exec (Stmt.Assign [Expr.Name _ _] (Expr.Call (Expr.Name _ _) _ _ _) _) _) _ _ _
  refine wpAny_Assign_Name ?_
  repeat (walk_at "mj")
  refine n_blt (.builtin "abs") W1 PyProof.Rows.boot_abs ?_
  repeat (walk_at "mj")
  refine n_blt (.builtin "sum") W1 PyProof.Rows.boot_sum ?_
  repeat (walk_at "mj")
  refine sum_ints hh (hl.isList.at fun o e => Fa.keep _ _ e) hi fun u h1 tk k1 => ?_
  repeat (walk_at "mj")
  refine call_abs_int fun u2 tk2 => ?_
  rw [show (if ns.sum < 0 then -ns.sum else ns.sum) = (ns.sum.natAbs : Int) by split <;> omega]
  refine s_loc (Fa.le k1) (fun h4 tk4 F4 hs4 => ?_)
  exact h h4 _ tk4 _ ((S.le k1).loc F4 (fun b o z e => (hs4.2 b z).trans e)) (if_pos rfl)
theorem st_layers {N : Nat} {u : Tok} (S : LS w mg mb g L s.heap m vt vl vw vc) (hm : m (nm "total") = some (.int (N : Int) u))
    (h : ∀ h' tk u, LS w mg mb g L h' m vt (some (.int ((1 + N % 2 : Nat) : Int) u)) vw vc → wpAny (model prog w) A (execs rest (lawEnv L fa cd)) Q E { s with heap := h', toks := tk }) :
    wpAny (model prog w) A (execs (sx 3 :: rest) (lawEnv L fa cd)) Q E s := by
  refine wpAny_execs_cons ?_
  have Fa := S.F
  show wpAny _ _ (exec (Stmt.Assign [Expr.Name _ _] (Expr.BinOp _ _ _ _) _) _) _ _ _
  refine wpAny_Assign_Name ?_
  repeat (walk_at "mj")
  refine wpAny_storeName_cell (by kernel_rfl) (by kernel_rfl) (by rfl) S.cl (fun h2 hc hs => ?_)
  rw [show (1 : Int) + Int.fmod (N : Int) 2 = ((1 + N % 2 : Nat) : Int) by rw [Int.fmod_eq_emod_of_nonneg _ (by decide)]; omega] at hc
  exact h h2 _ _ (S.setL hc hs)
theorem st_size {N : Nat} {u : Tok} (S : LS w mg mb g L s.heap m vt vl vw vc) (hm : m (nm "total") = some (.int (N : Int) u))
    (h : ∀ h' m' tk u u', LS w mg mb g L h' m' vt vl vw vc → m' (nm "size") = some (.int ((1 + N / 2 % 3 : Nat) : Int) u) → m' (nm "total") = some (.int (N : Int) u') → wpAny (model prog w) A (execs rest (lawEnv L fa cd)) Q E { s with heap := h', toks := tk }) :
    wpAny (model prog w) A (execs (sx 4 :: rest) (lawEnv L fa cd)) Q E s := by
  refine wpAny_execs_cons ?_
  have Fa := S.F
  show wpAny _ _ (exec (Stmt.Assign [Expr.Name _ _] (Expr.BinOp _ _ _ _) _) _) _ _ _
  refine wpAny_Assign_Name ?_
  repeat (walk_at "mj")
  rw [show (1 : Int) + Int.fmod (Int.fdiv (N : Int) 2) 3 = ((1 + N / 2 % 3 : Nat) : Int) by rw [Int.fmod_eq_emod_of_nonneg _ (by decide), Int.fdiv_eq_ediv_of_nonneg _ (by decide)]; omega]
  refine s_loc Fa (fun h4 tk4 F4 hs4 => ?_)
  exact h h4 _ tk4 _ _ (S.loc F4 (fun b o z e => (hs4.2 b z).trans e)) (if_pos rfl) (by walk_at "get")
theorem st_at {N z : Nat} {u u' ut : Tok} {T : List Nat} (S : LS w mg mb g L s.heap m (some (.str (tx T) ut)) vl vw vc) (hm : m (nm "total") = some (.int (N : Int) u)) (hz : m (nm "size") = some (.int (z : Int) u')) (hT : T.length ≤ 100) (hzT : z ≤ T.length)
    (h : ∀ h' m' tk u u', LS w mg mb g L h' m' (some (.str (tx T) ut)) vl vw vc → m' (nm "size") = some (.int (z : Int) u) → m' (nm "at") = some (.int ((N / 6 % (T.length - z + 1) : Nat) : Int) u') → wpAny (model prog w) A (execs rest (lawEnv L fa cd)) Q E { s with heap := h', toks := tk }) :
    wpAny (model prog w) A (execs (sx 5 :: rest) (lawEnv L fa cd)) Q E s := by
  refine wpAny_execs_cons ?_
  have Fa := S.F
  have W1 := S.Wh
  show wpAny _ _ (exec (Stmt.Assign [Expr.Name _ _] (Expr.BinOp _ _ _ _) _) _) _ _ _
  refine wpAny_Assign_Name ?_
  repeat (walk_at "mj")
  refine n_blt (.builtin "len") W1 (by decide +kernel) ?_
  repeat (walk_at "mj")
  refine n_cell S.ct ?_ (by rfl)
  repeat (walk_at "mj")
  refine len_V (b := false) (by omega) fun u3 tk6 => ?_
  repeat (walk_at "mj")
  refine PyProof.Rows.mod_int (by omega) ?_
  rw [show Int.fmod (Int.fdiv (N : Int) 6) ((T.length : Int) - (z : Int) + 1) = ((N / 6 % (T.length - z + 1) : Nat) : Int) by
    rw [Int.fmod_eq_emod_of_nonneg _ (by omega), Int.fdiv_eq_ediv_of_nonneg _ (by decide), Int.natCast_emod, Int.natCast_ediv, show ((T.length - z + 1 : Nat) : Int) = (T.length : Int) - (z : Int) + 1 by omega]; rfl]
  refine s_loc Fa (fun h4 tk4 F4 hs4 => ?_)
  exact h h4 _ tk4 _ _ (S.loc F4 (fun b o z e => (hs4.2 b z).trans e)) (by walk_at "get") (if_pos rfl)
theorem st_word {z a : Nat} {u u' ut : Tok} {T : List Nat} (S : LS w mg mb g L s.heap m (some (.str (tx T) ut)) vl vw vc) (hz : m (nm "size") = some (.int (z : Int) u')) (ha : m (nm "at") = some (.int (a : Int) u)) (hT : T.length ≤ 100) (haT : a ≤ T.length)
    (h : ∀ h' m' tk u u' u'', LS w mg mb g L h' m' (some (.str (tx T) ut)) vl vw vc → m' (nm "size") = some (.int (z : Int) u) → m' (nm "at") = some (.int (a : Int) u') → m' (nm "word") = some (.str (tx ((T.drop a).take z)) u'') → wpAny (model prog w) A (execs rest (lawEnv L fa cd)) Q E { s with heap := h', toks := tk }) :
    wpAny (model prog w) A (execs (sx 6 :: rest) (lawEnv L fa cd)) Q E s := by
  refine wpAny_execs_cons ?_
  have Fa := S.F
  show wpAny _ _ (exec (Stmt.Assign [Expr.Name _ _] (Expr.Subscript _ _ _) _) _) _ _ _
  refine wpAny_Assign_Name ?_
  refine str_cut ?_
  refine n_cell S.ct ?_ (by rfl)
  repeat (walk_at "mj")
  refine ⟨T, ut, a, a + z, _, _, rfl, rfl, by rw [Int.natCast_add], by omega, haT, by omega, fun t' h1 tk k1 => ?_⟩
  rw [show a + z - a = z by omega]
  refine s_loc (Fa.le k1) (fun h4 tk4 F4 hs4 => ?_)
  exact h h4 _ tk4 _ _ _ ((S.le k1).loc F4 (fun b o z e => (hs4.2 b z).trans e)) (by walk_at "get") (by walk_at "get") (if_pos rfl)
end

section
variable {prog : Program} {w : World} {A : Around} {s : Shared} {E : Value → Shared → Prop} {Q : Flow → Shared → Prop} {mg mb : Str → Option Value} {g : Heap} {L : Nat} {fa : Addr} {cd : Value} {m : Str → Option Value} {vt vl vw vc : Option Value} {rest : List Stmt}
theorem Paired.byPlace {α : Type} {T : List α} {vs ys : List Value} {P : α → Value → Prop} {F : Value → Value → Prop} {R : α → Value → Prop} (hlen : vs.length = T.length) (hP : ∀ (j : Nat) v, vs[j]? = some v → ∃ c, T[j]? = some c ∧ P c v)
    (hF : Paired F vs ys) (hR : ∀ c v y, P c v → F v y → R c y) : Paired R T ys := by
  induction hF generalizing T with
  | nil =>
    cases T with
    | nil => exact .nil
    | cons _ _ => simp at hlen
  | cons a _ ih =>
    cases T with
    | nil => simp at hlen
    | cons c T =>
      refine .cons ?_ (ih (by simpa using hlen) fun j v hv => ?_)
      · obtain ⟨c', e, hc⟩ := hP 0 _ rfl
        have : c' = c := by simpa using e.symm
        subst this
        exact hR _ _ _ hc a
      · have := hP (j + 1) v (by simpa using hv)
        simpa using this
theorem Paired.ints {α : Type} {T : List α} {ys : List Value} {f : α → Int} (x : Paired (fun c y => ∃ u, y = Value.int (f c) u) T ys) : IntsAre ys (T.map f) := by
  induction x with
  | nil => exact .nil
  | cons a _ ih => obtain ⟨u, rfl⟩ := a; exact .cons _ _ ih
theorem Paired.txs {α : Type} {T : List α} {ys : List Value} {f : α → List Nat} (x : Paired (fun c y => ∃ u, y = Value.str (tx (f c)) u) T ys) : TxAre ys (T.map f) := by
  induction x with
  | nil => exact .nil
  | cons a _ ih => obtain ⟨u, rfl⟩ := a; exact .cons _ _ ih
theorem wd_int (ly c : Nat) : (if codeList.any (· == (((tx [c]).cps.getD 0 0 : Nat) : Int)) then (2 : Int) ^ ((ly : Int)).toNat else 1) = ((wd (2 ^ ly) c : Nat) : Int) := by
  show (if spec c then _ else _) = _
  unfold wd
  rw [Int.toNat_natCast]
  cases spec c <;> simp
theorem call_range_ {N : Nat} {t : Tok} {Q : Value → Shared → Prop} (h : ∀ r h' tk t u v, Le s.heap h' → IsRange h' r 0 (N : Int) 1 t u v → Q (.ref r) { s with heap := h', toks := tk }) :
    wpAny (model prog w) A (call (.type "range") [.int (N : Int) t]) Q E s :=
  call_range_1 (h _ _ _ _ _ _ (le_push _ _) (IsRange.new ..))
theorem st_widths {ly : Nat} {ul ut : Tok} {T : List Nat} (hroom : A.depth < recursionLimit) (hh : A.handled = none) (S : LS w mg mb g L s.heap m (some (.str (tx T) ut)) (some (.int (ly : Int) ul)) vw vc) (hly : ly ≤ 2) (hT : T.length ≤ 100)
    (h : ∀ g' h' tk D (ys : List Value), LS w mg mb g' L h' m (some (.str (tx T) ut)) (some (.int (ly : Int) ul)) (some (.ref D)) vc → Le g g' → g'.PlainList D ys.toArray → IntsAre ys (T.map fun c => ((wd (2 ^ ly) c : Nat) : Int)) →
      wpAny (model prog w) A (execs rest (lawEnv L fa cd)) Q E { s with heap := h', toks := tk }) :
    wpAny (model prog w) A (execs (sx 7 :: rest) (lawEnv L fa cd)) Q E s := by
  refine wpAny_execs_cons ?_
  have Fa := S.F
  show wpAny _ _ (exec (Stmt.Assign [Expr.Name _ _] (Expr.ListComp _ _ _ _) _) _) _ _ _
  refine wpAny_Assign_Name ?_
  refine lc_gen (fun _ => true) (fun v y => ∃ c u u', v = .str (tx [c]) u ∧ y = .int ((wd (2 ^ ly) c : Nat) : Int) u') rfl (by decide +kernel) rfl (by decide +kernel) (by decide +kernel) ?_
  refine n_cell S.ct ?_ (by rfl)
  refine ⟨T.length, _, IterOf.str hh, by omega, TestOk.nil, ?_, ?_⟩
  · intro C i v s₃ m₃ E' hi' hv F3 hx
    obtain ⟨c, u, hc, rfl⟩ := hv
    have W3 := S.Wh.le F3.keep
    have cl3 := S.cl.keeps F3.keep
    refine Call_ ?_
    refine n_glob (.ref 61) W3 ?_
    refine cw_def (look_width w.params) ?_
    repeat (walk_at "mj")
    refine n_cell cl3 ?_ (by rfl)
    repeat (walk_at "mj")
    refine ⟨W3.K, ?_⟩
    refine call_width W3 hroom rfl ⟨by omega, by omega⟩ fun u' h' tk k => ?_
    rw [wd_int]
    exact ⟨⟨c, u, u', rfl, rfl⟩, h', tk, rfl, k⟩
  · intro D h1 tk ys vs hD k1 hl1 hlen hP hF
    rw [filter_true] at hF
    have hI := Paired.ints (Paired.byPlace (P := fun c v => ∃ u, v = .str (tx [c]) u) (R := fun c y => ∃ u, y = Value.int ((wd (2 ^ ly) c : Nat) : Int) u) hlen (fun j v hv => by obtain ⟨c, u, e1, e2⟩ := hP j v hv; exact ⟨c, e1, u, e2⟩) hF (by
      rintro c v y ⟨u, rfl⟩ ⟨c', u', u'', e1, rfl⟩
      have : c = c' := by simp at e1; exact e1.1
      subst this
      exact ⟨_, rfl⟩))
    have S1 := S.le k1
    refine wpAny_storeName_cell (by kernel_rfl) (by kernel_rfl) (by rfl) S1.cw (fun h2 hc hs => ?_)
    have S2 := S1.setW hc hs
    have l2 : h2.PlainList D ys.toArray := hl1.at fun o e => (hs.2 D (by
      rintro rfl
      obtain ⟨n, e⟩ := hl1
      obtain ⟨o', e', d⟩ := S1.cw
      rw [e'] at e; cases e; cases d)).trans e
    obtain ⟨g', S', kg, kl, _⟩ := S2.grow
    exact h g' h2 _ D ys S' kg (kl _ _ l2) hI
theorem st_places {ut : Tok} {T : List Nat} {Dw : Addr} {ws : List Value} {ns : List Int} (hh : A.handled = none) (S : LS w mg mb g L s.heap m (some (.str (tx T) ut)) vl (some (.ref Dw)) vc) (hw : g.PlainList Dw ws.toArray) (hi : IntsAre ws ns) (hT : T.length ≤ 100) (hns : ns.length ≤ 100)
    (h : ∀ g' h' tk D (ys : List Value), LS w mg mb g' L h' (fun y => if y = nm "places" then some (.ref D) else m y) (some (.str (tx T) ut)) vl (some (.ref Dw)) vc → Le g g' → g'.PlainList D ys.toArray → IntsAre ys ((List.range (T.length + 1)).map fun k => (ns.take k).sum) →
      wpAny (model prog w) A (execs rest (lawEnv L fa cd)) Q E { s with heap := h', toks := tk }) :
    wpAny (model prog w) A (execs (sx 8 :: rest) (lawEnv L fa cd)) Q E s := by
  refine wpAny_execs_cons ?_
  have Fa := S.F
  have W1 := S.Wh
  show wpAny _ _ (exec (Stmt.Assign [Expr.Name _ _] (Expr.ListComp _ _ _ _) _) _) _ _ _
  refine lca_gen (g := g) (fun _ => true) (fun v y => ∃ (k : Nat) (u u' : Tok), v = .int (k : Int) u ∧ y = .int (ns.take k).sum u') (by kernel_rfl) rfl (by decide +kernel) rfl (by decide +kernel) (by decide +kernel) (by kernel_rfl) (by kernel_rfl) ?_
  refine Call_ ?_
  refine n_blt (.type "range") W1 PyProof.Rows.boot_range ?_
  repeat (walk_at "mj")
  refine n_blt (.builtin "len") W1 (by decide +kernel) ?_
  repeat (walk_at "mj")
  refine n_cell S.ct ?_ (by rfl)
  repeat (walk_at "mj")
  refine len_V (b := false) (by omega) fun u3 tk6 => ?_
  repeat (walk_at "mj")
  rw [show ((T.length : Int) + 1) = ((T.length + 1 : Nat) : Int) by omega]
  refine call_range_ fun r h1 tk t1 t2 t3 k1 hr => ?_
  refine ⟨T.length + 1, _, m, IterOf.range hh (by omega) hr, by omega, Fa.le k1, TestOk.nil, ?_, ?_⟩
  · intro C i v s₃ m₃ E' hi' hv F3 hx
    obtain ⟨u, rfl⟩ := hv
    have W3 := (W1.le k1).le F3.keep
    have cw3 := (S.cw.keeps k1).keeps F3.keep
    have lw : s₃.heap.IsList Dw ws.toArray := hw.isList.at fun o e => F3.keep _ _ (k1 _ _ (Fa.keep _ _ e))
    refine Call_ ?_
    refine n_blt (.builtin "sum") W3 PyProof.Rows.boot_sum ?_
    refine PyProof.Rows.callWith_builtin1 ?_
    refine spliced_more ?_
    refine list_upto ?_
    refine n_cell cw3 ?_ (by rfl)
    repeat (walk_at "mj")
    refine ⟨Dw, ws, ns, i, u, rfl, lw, hi, rfl, by omega, fun a vs' h2 ha k2 hl2 hi2 => ?_⟩
    repeat (walk_at "mj")
    refine sum_ints hh hl2.isList hi2 fun u' h3 tk k3 => ?_
    exact ⟨⟨i, u, u', rfl, rfl⟩, h3, tk, rfl, fun b o e => k3 _ _ (k2 _ _ e)⟩
  · intro D h2 tk ys vs hD F2 kk hl2 hlen hP hF
    rw [filter_true] at hF
    have hI := Paired.ints (Paired.byPlace (T := List.range (T.length + 1)) (P := fun k v => ∃ u, v = .int (k : Int) u) (R := fun k y => ∃ u, y = Value.int ((ns.take k).sum) u) (by rw [hlen, List.length_range]) (fun j v hv => by
        obtain ⟨u, e2⟩ := hP j v hv
        have hj : j < vs.length := (List.getElem?_eq_some_iff.mp hv).1
        exact ⟨j, by rw [List.getElem?_range (by omega)], u, e2⟩) hF (by
      rintro c v y ⟨u, rfl⟩ ⟨c', u', u'', e1, rfl⟩
      have : c = c' := by simp at e1; have := e1.1; omega
      subst this
      exact ⟨_, rfl⟩))
    have S2 := (S.le k1).loc F2 kk
    obtain ⟨g', S', kg, kl, _⟩ := S2.grow
    exact h g' h2 _ D ys S' kg (kl _ _ hl2) hI
theorem IntsAre.get : ∀ {ws : List Value} {ns : List Int} (_ : IntsAre ws ns) {k : Nat} (hk : k < ns.length), ∃ u, ws[k]? = some (.int ns[k] u)
  | _, _, .cons n t _, 0, _ => ⟨t, rfl⟩
  | _, _, .cons n t h, k + 1, hk => IntsAre.get h (by simpa using hk)
theorem st_written {mm : Nat} {ut : Tok} {T : List Nat} {Dw : Addr} {ws : List Value} (hm2 : 2 ≤ mm) (hm4 : mm ≤ 4) (hh : A.handled = none) (S : LS w mg mb g L s.heap m (some (.str (tx T) ut)) vl (some (.ref Dw)) vc) (hw : g.PlainList Dw ws.toArray) (hi : IntsAre ws (T.map fun c => ((wd mm c : Nat) : Int))) (hT : T.length ≤ 100)
    (h : ∀ h' tk u, LS w mg mb g L h' (fun y => if y = nm "written" then some (.str (tx (enc mm T)) u) else m y) (some (.str (tx T) ut)) vl (some (.ref Dw)) vc →
      wpAny (model prog w) A (execs rest (lawEnv L fa cd)) Q E { s with heap := h', toks := tk }) :
    wpAny (model prog w) A (execs (sx 9 :: rest) (lawEnv L fa cd)) Q E s := by
  refine wpAny_execs_cons ?_
  have Fa := S.F
  have W1 := S.Wh
  show wpAny _ _ (exec (Stmt.Assign [Expr.Name _ _] (Expr.Call (Expr.Attribute _ _ _) _ _ _) _) _) _ _ _
  refine wpAny_Assign_Name ?_
  repeat (walk_at "mj")
  with_reducible refine meth_str F.slot_str_join F.type_str_join ?_
  repeat (walk_at "mj")
  refine lc_gen (fun _ => true) (fun v y => ∃ (k : Nat) (u u' : Tok) (c : Nat), v = .int (k : Int) u ∧ T[k]? = some c ∧ y = .str (tx (enc1 mm c)) u') rfl (by decide +kernel) rfl (by decide +kernel) (by decide +kernel) ?_
  refine Call_ ?_
  refine n_blt (.type "range") W1 PyProof.Rows.boot_range ?_
  repeat (walk_at "mj")
  refine n_blt (.builtin "len") W1 (by decide +kernel) ?_
  repeat (walk_at "mj")
  refine n_cell S.ct ?_ (by rfl)
  repeat (walk_at "mj")
  refine len_V (b := false) (by omega) fun u3 tk6 => ?_
  repeat (walk_at "mj")
  refine call_range_ fun r h1 tk t1 t2 t3 k1 hr => ?_
  refine ⟨T.length, _, IterOf.range hh (by omega) hr, by omega, TestOk.nil, ?_, ?_⟩
  · intro C i v s₃ m₃ E' hi' hv F3 hx
    obtain ⟨u, rfl⟩ := hv
    have cw3 := (S.cw.keeps k1).keeps F3.keep
    have ct3 := (S.ct.keeps k1).keeps F3.keep
    have lw : s₃.heap.IsList Dw ws.toArray := hw.isList.at fun o e => F3.keep _ _ (k1 _ _ (Fa.keep _ _ e))
    obtain ⟨uw, ew⟩ := IntsAre.get hi (k := i) (by simpa using hi')
    rw [List.getElem_map] at ew
    have hwd := wd_pos hm2 T[i]
    have hwd4 : wd mm T[i] ≤ 4 := by unfold wd; split <;> omega
    repeat (walk_at "mj")
    refine n_cell cw3 ?_ (by rfl)
    repeat (walk_at "mj")
    refine item_listL lw (by omega) (by omega) (by rw [Int.toNat_natCast]; exact ew) ?_
    repeat (walk_at "mj")
    rw [show ((wd mm T[i] : Nat) : Int) - 1 = ((wd mm T[i] - 1 : Nat) : Int) by omega]
    refine mul_bs (by omega) fun u4 tk4 => ?_
    repeat (walk_at "mj")
    refine n_cell ct3 ?_ (by rfl)
    repeat (walk_at "mj")
    refine item_str (fitsSsize_of (N := 9223372036854775808) (by omega) (by omega) (Int.le_refl _)) ?_ ?_ ?_
    · rw [tx_len]; omega
    · rw [tx_len]; omega
    · intro _
      rw [item_tx hi']
      refine PyProof.Rows.add_str ?_ (by rw [tx_len, tx_len, sizeLine_eq]; simp; omega)
      intro t' tk'
      rw [tx_add]
      exact ⟨⟨i, u, t', T[i], rfl, by simp [hi'], rfl⟩, s₃.heap, _, rfl, fun _ _ e => e⟩
  · intro D h2 tk ys vs hD k2 hl2 hlen hP hF
    rw [filter_true] at hF
    have ht := Paired.txs (Paired.byPlace (T := T) (P := fun c v => ∃ (k : Nat) (u : Tok), v = .int (k : Int) u ∧ T[k]? = some c) (R := fun c y => ∃ u, y = Value.str (tx (enc1 mm c)) u) hlen (fun j v hv => by
        obtain ⟨u, e2⟩ := hP j v hv
        have hj : j < vs.length := (List.getElem?_eq_some_iff.mp hv).1
        exact ⟨T[j], by simp [show j < T.length by omega], j, u, e2, by simp [show j < T.length by omega]⟩) hF (by
      rintro c v y ⟨k, u, rfl, e0⟩ ⟨k', u', u'', c', e1, e2, rfl⟩
      have : k = k' := by simp at e1; have := e1.1; omega
      subst this
      rw [e0] at e2; cases e2
      exact ⟨_, rfl⟩))
    repeat (walk_at "mj")
    have hsum : ∀ l : List Nat, ((l.map (enc1 mm)).map List.length).sum ≤ 4 * l.length := by
      intro l
      induction l with
      | nil => simp
      | cons c l ih =>
        simp only [List.map_cons, List.sum_cons, List.length_cons]
        rw [enc1_len hm2]
        have : wd mm c ≤ 4 := by unfold wd; split <;> omega
        omega
    refine call_join hl2.isList ht (by have := hsum T; rw [List.length_map]; omega) fun t' k => ?_
    have e : (T.map (enc1 mm)).flatten = enc mm T := by unfold enc; rw [List.flatMap_def]
    rw [e]
    refine s_loc ((Fa.le k1).le k2) (fun h4 tk4 F4 hs4 => ?_)
    exact h h4 tk4 t' (((S.le k1).le k2).loc F4 (fun b o z e => (hs4.2 b z).trans e))
end

/-! the spans -/
structure LC (L : Nat) (h : Heap) (vt vl vw vc : Option Value) : Prop where
  T : Tb h
  ct : h.IsCell (L + 1) vt
  cl : h.IsCell (L + 1 + 1) vl
  cw : h.IsCell (L + 1 + 1 + 1) vw
  cc : h.IsCell (L + 1 + 1 + 1 + 1) vc
section
variable {w : World} {mg mb : Str → Option Value} {g h h' : Heap} {L : Nat} {m m' : Str → Option Value} {vt vl vw vc : Option Value}
theorem LS.lc (S : LS w mg mb g L h m vt vl vw vc) : LC L h vt vl vw vc := ⟨S.T, S.ct, S.cl, S.cw, S.cc⟩
theorem LS.of (S : LS w mg mb g L h m vt vl vw vc) {vt' vl' vw' vc' : Option Value} (F : Fm g L h' m') (C : LC L h' vt' vl' vw' vc') : LS w mg mb g L h' m' vt' vl' vw' vc' := ⟨F, S.W, C.T, C.ct, C.cl, C.cw, C.cc, S.g35, S.g42, S.gc⟩
theorem cell_turn {I c : Addr} {v : Option Value} {x y z : Int} (X : h.IsCell c v) (it : IsRangeIter h I x y z) (n : h.Ns L m) (k : ∀ b o, b ≠ I → b ≠ L → h.get? b = some o → h'.get? b = some o) : h'.IsCell c v := by
  obtain ⟨o, e, d⟩ := X
  refine ⟨o, k c o ?_ ?_ e, d⟩
  · rintro rfl; have i' : h.get? c = some _ := it; rw [i'] at e; cases e; cases d
  · rintro rfl; obtain ⟨o', _, _, ho, hd, _⟩ := n; rw [ho] at e; cases e; rw [d] at hd; cases hd
theorem LC.turn {I : Addr} {x y z : Int} (C : LC L h vt vl vw vc) (it : IsRangeIter h I x y z) (n : h.Ns L m) (k : ∀ b o, b ≠ I → b ≠ L → h.get? b = some o → h'.get? b = some o) : LC L h' vt vl vw vc :=
  ⟨C.T.turn it n k, cell_turn C.ct it n k, cell_turn C.cl it n k, cell_turn C.cw it n k, cell_turn C.cc it n k⟩
theorem LC.le (C : LC L h vt vl vw vc) (k : Le h h') : LC L h' vt vl vw vc := ⟨C.T.le k, C.ct.keeps k, C.cl.keeps k, C.cw.keeps k, C.cc.keeps k⟩
theorem cell_list {c a : Addr} {v : Option Value} {its : Array Value} (X : h.IsCell c v) (l : h.PlainList a its) (hs : Heap.SameBut a h h') : h'.IsCell c v := by
  refine X.sameBut hs ?_
  rintro rfl
  obtain ⟨n, e⟩ := l; obtain ⟨o, e', d⟩ := X; rw [e'] at e; cases e; cases d
theorem LC.list {a : Addr} {its : Array Value} (C : LC L h vt vl vw vc) (l : h.PlainList a its) (hs : Heap.SameBut a h h') : LC L h' vt vl vw vc :=
  ⟨C.T.list l hs, cell_list C.ct l hs, cell_list C.cl l hs, cell_list C.cw l hs, cell_list C.cc l hs⟩
theorem Fm.list {a : Addr} {its : Array Value} (F : Fm g L h m) (l : h.PlainList a its) (ga : g.get? a = none) (hs : Heap.SameBut a h h') : Fm g L h' m :=
  ⟨F.ns.sameBut hs (list_ne_ns l F.ns).symm, fun b o e => (hs.2 b (by rintro rfl; rw [ga] at e; cases e)).trans (F.keep b o e), F.gL⟩
end
section
variable {prog : Program} {w : World} {A : Around} {s : Shared} {E : Value → Shared → Prop}
theorem item1 {value slice : Expr} {t : Addr} {a b : Value} {u : Tok} {Q : Value → Shared → Prop} (ht : s.heap.get? t = some (tupO #[a, b])) (h : Q b s)
    (hs : subscripted slice false (.ref t) (.int 1 u) = operate [.ref t, .int 1 u] (getItem (.ref t) (.int 1 u)) := by with_unfolding_all rfl) :
    wpAny (model prog w) A (subscriptTail value slice (.ref t) (.int 1 u)) Q E s :=
  tail_any (T := "tuple") ⟨_, ht, rfl⟩ slot_tuple_getitem.lookup (getItem_tuple (items := #[a, b]) (j := 1) ⟨_, ht, rfl, 0, rfl⟩ (by decide) (by decide) (show seqIndex? 1 2 = some 1 by decide) rfl h) hs
theorem eq_empty {a e : Addr} {vs : List Value} {Q : Value → Shared → Prop} (ha : s.heap.IsList a vs.toArray) (he : s.heap.IsList e ([] : List Value).toArray) (hu : A.units < cLine) (h : Q (.bool vs.isEmpty) s) :
    wpAny (model prog w) A (compareOp .Eq (.ref a) (.ref e)) Q E s := by
  cases vs with
  | nil =>
    refine SeqAt.eq_listAt (e := fun _ => true) ha he rfl hu (fun j h1 => by simp at h1) ?_
    exact h
  | cons v vs => exact SeqAt.eq_list_lengthsAt ha he (by simp) hu h
theorem ne_empty {a e : Addr} {vs : List Value} {Q : Value → Shared → Prop} (ha : s.heap.IsList a vs.toArray) (he : s.heap.IsList e ([] : List Value).toArray) (hu : A.units < cLine) (h : Q (.bool (!vs.isEmpty)) s) :
    wpAny (model prog w) A (compareOp .NotEq (.ref a) (.ref e)) Q E s := by
  cases vs with
  | nil => exact EqBoolInt.of_rcne (SeqAt.RcNeAt.lists (e := fun _ => true) ha he rfl hu (fun j h1 => by simp at h1)) h
  | cons v vs => exact EqBoolInt.of_rcne (SeqAt.RcNeAt.lists_lengths ha he (by simp) hu) h
end
theorem AnsAll.last {h : Heap} : ∀ {vs : List Value} {rs : List (Option (Nat × Nat))}, AnsAll h vs rs → ∀ {r : Option (Nat × Nat)}, rs.getLast? = some r → ∃ v, vs.getLast? = some v ∧ Ans h v r
  | _, _, .nil, _, e => by cases e
  | _, _, .cons (v := v) a .nil, r, e => by cases e; exact ⟨v, rfl, a⟩
  | _, _, .cons a (.cons b c), r, e => by
    rw [List.getLast?_cons_cons] at e ⊢
    exact AnsAll.last (.cons b c) e

section
variable {prog : Program} {w : World} {A : Around} {s : Shared} {E : Value → Shared → Prop} {Q : Flow → Shared → Prop} {mg mb : Str → Option Value} {g : Heap} {L : Nat} {fa : Addr} {cd : Value} {m : Str → Option Value} {vt vl vw vc : Option Value} {rest : List Stmt}
theorem st_spans {mm z : Nat} {ut uz uw : Tok} {T W : List Nat} {Dp : Addr} {ps : List Value} (hm2 : 2 ≤ mm) (hh : A.handled = none) (hu : A.units + 10 < cLine)
    (S : LS w mg mb g L s.heap m (some (.str (tx T) ut)) vl vw vc) (hz : m (nm "size") = some (.int (z : Int) uz)) (hword : m (nm "word") = some (.str (tx W) uw)) (hpl : m (nm "places") = some (.ref Dp))
    (hp : g.PlainList Dp ps.toArray) (hi : IntsAre ps ((List.range (T.length + 1)).map fun k => ((off mm T k : Nat) : Int))) (hT : T.length ≤ 100) (hW : W ≠ []) (hWz : W.length = z)
    (h : ∀ g' h' m' tk Ds ss ks, LS w mg mb g' L h' m' (some (.str (tx T) ut)) vl vw vc → Le g g' → (∀ x, x ≠ nm "spans" → x ≠ nm "k" → m' x = m x) → m' (nm "spans") = some (.ref Ds) → g'.PlainList Ds (ss : List Value).toArray →
      AnsAll g' ss (ks.map fun k => some (spanOf mm T z k)) → Upto T W T.length ks → wpAny (model prog w) A (execs rest (lawEnv L fa cd)) Q E { s with heap := h', toks := tk }) :
    wpAny (model prog w) A (execs (sx 10 :: sx 11 :: rest) (lawEnv L fa cd)) Q E s := by
  refine wpAny_execs_cons ?_
  have Fa := S.F
  show wpAny _ _ (exec (Stmt.Assign [Expr.Name _ _] (Expr.List [] _) _) _) _ _ _
  refine wpAny_Assign_Name ?_
  refine PyProof.Rows.List_ ?_
  repeat (walk_at "mj")
  refine new_list (fun Ds h1 hDs k1 hl1 => ?_)
  refine s_loc (Fa.le k1) (fun h2 tk2 F2 hs2 => ?_)
  have S2 := (S.le k1).loc F2 (fun b o z e => (hs2.2 b z).trans e)
  have l2 : h2.PlainList Ds ([] : List Value).toArray := hl1.at fun o e => (hs2.2 Ds (list_ne_ns hl1 (Fa.le k1).ns)).trans e
  have gDs : g.get? Ds = none := none_of_le Fa.keep hDs
  have W2 := S2.Wh
  refine wpAny_execs_cons ?_
  show wpAny _ _ (exec (Stmt.For (Expr.Name _ _) (Expr.Call (Expr.Name _ _) _ _ _) _ _ _) _) _ _ _
  refine wpAny_For ?_
  refine Call_ ?_
  refine n_blt (.type "range") W2 PyProof.Rows.boot_range ?_
  repeat (walk_at "mj")
  refine n_blt (.builtin "len") W2 (by decide +kernel) ?_
  repeat (walk_at "mj")
  refine n_cell S2.ct ?_ (by rfl)
  repeat (walk_at "mj")
  refine len_V (b := false) (by omega) fun u3 tk6 => ?_
  repeat (walk_at "mj")
  refine for_range (g := g) (fun _ i mm' h => LC L h (some (.str (tx T) ut)) vl vw vc ∧ (∀ x, x ≠ nm "spans" → x ≠ nm "k" → mm' x = m x) ∧ mm' (nm "spans") = some (.ref Ds) ∧
    ∃ ks ss, Upto T W i ks ∧ h.PlainList Ds (ss : List Value).toArray ∧ AnsAll h ss (ks.map fun k => some (spanOf mm T z k)) ∧ ks.length ≤ i) hh (by omega) F2 ?_ ?_ ?_ ?_
  · rintro I i m' h h' mx ⟨j1, j2, j3, ks, ss, j4, j5, j6, j7⟩ ⟨x, y, zz, it⟩ n k
    exact ⟨j1.turn it n k, j2, j3, ks, ss, j4, list_turn j5 it n k, j6.kept (TupKept.turn it n k), j7⟩
  · intro I h' _ k
    exact ⟨S2.lc.le k, fun x h1 _ => if_neg h1, if_pos rfl, [], [], Upto.zero T W, l2.at fun o e => k _ _ e, .nil, Nat.le_refl _⟩
  · rintro I k tk' m' h3 tk3 hk hI ⟨x, y, zz, it⟩ F3 ⟨C3, j2, j3, ks, ss, j4, j5, j6, j7⟩
    refine hideQ fun Q' hQ' => ?_
    have n1 : m' (nm "size") = some (.int (z : Int) uz) := (j2 _ (by decide) (by decide)).trans hz
    have n2 : m' (nm "word") = some (.str (tx W) uw) := (j2 _ (by decide) (by decide)).trans hword
    have n3 : m' (nm "places") = some (.ref Dp) := (j2 _ (by decide) (by decide)).trans hpl
    have lp : ∀ {h' : Heap}, Le h3 h' → h'.IsList Dp ps.toArray := fun k => hp.isList.at fun o e => k _ _ (F3.keep _ _ e)
    have stay : ∀ (h4 : Heap) (tk4 : Nat) , Le h3 h4 → Upto T W (k + 1) ks → Q' .next { s with heap := h4, toks := tk4 } := by
      intro h4 tk4 k4 hup
      refine hQ' .next _ ⟨h4, tk4, _, rfl, F3.le k4, fun o e => k4 _ _ e, C3.le k4, fun x h1 h2 => ?_, ?_, ks, ss, hup, j5.at fun o e => k4 _ _ e, j6.kept (TupKept.le k4), by omega⟩
      · show (if _ then _ else _) = _
        rw [if_neg h2]; exact j2 x h1 h2
      · show (if _ then _ else _) = _
        rw [if_neg (by decide)]; exact j3
    refine wpAny_execs_cons ?_
    refine wpAny_If ?_
    refine isTrue_and ?_
    refine wpAny_isTrue_Compare1 ?_
    refine str_cut ?_
    refine n_cell C3.ct ?_ (by rfl)
    repeat (walk_at "mj")
    refine ⟨T, ut, k, k + z, _, _, rfl, rfl, by rw [Int.natCast_add], by omega, by omega, by omega, fun t' h4 tk4 k4 => ?_⟩
    rw [show k + z - k = z by omega]
    have F4 := F3.le k4
    repeat (walk_at "mj")
    refine PyProof.Rows.eq_str ?_
    refine wpAny_truthy_bool ?_
    by_cases hmatch : W <+: T.drop k
    · have he : (T.drop k).take z = W := by rw [← hWz]; exact (pre_iff T W k).mp hmatch
      rw [he, if_pos (by rw [beq_self_eq_true])]
      have C4 := C3.le k4
      have l4 : h4.PlainList Ds ss.toArray := j5.at fun o e => k4 _ _ e
      have a4 := j6.kept (TupKept.le k4)
      have put : (∀ l, ks.getLast? = some l → l + W.length ≤ k) → ∀ (h5 : Heap) (tk5 : Nat), Le h4 h5 → wpAny (model prog w) A (execs [(match sx 11 with | .For _ _ ((.If _ (b :: _) _ _) :: _) _ _ => b | _ => .Pass default)] (lawEnv L fa cd))
          (fun f s' => f = .next ∧ Q' .next s') (fun _ _ => False) { s with heap := h5, toks := tk5 } := by
        intro hlast h5 tk5 k5
        have F5 := F4.le k5
        have lk := pre_len hW hmatch
        obtain ⟨u1, e1⟩ := IntsAre.get hi (k := k) (by simp; omega)
        obtain ⟨u2, e2⟩ := IntsAre.get hi (k := k + z) (by simp; omega)
        rw [List.getElem_map, List.getElem_range] at e1 e2
        refine wpAny_execs_cons ?_
        show wpAny _ _ (exec (Stmt.Expr (Expr.Call (Expr.Attribute _ _ _) _ _ _) _) _) _ _ _
        refine wpAny_Expr_any ?_
        repeat (walk_at "mj")
        have l5 : h5.PlainList Ds ss.toArray := l4.at fun o e => k5 _ _ e
        obtain ⟨nn5, lo⟩ := id l5
        refine Calls.getMethod_list_append lo rfl rfl ?_
        repeat (walk_at "mj")
        refine Tuple_ ?_
        repeat (walk_at "mj")
        refine item_listL (lp (k4.trans k5)) (by omega) (by omega) (by rw [Int.toNat_natCast]; exact e1) ?_
        repeat (walk_at "mj")
        refine item_listL (lp (k4.trans k5)) (by omega) (by omega) (by rw [← Int.natCast_add, Int.toNat_natCast]; exact e2) ?_
        repeat (walk_at "mj")
        refine new_tuple fun a h6 ha k6 ho => ?_
        repeat (walk_at "mj")
        have l6 : h6.PlainList Ds ss.toArray := l5.at fun o e => k6 _ _ e
        have F6 := F5.le k6
        refine wpAny_list_append_plain l6 (fun h7 l7 hs7 => ?_) (by rw [List.size_toArray, j6.length, List.length_map, sizeLine_eq]; omega)
        refine wpAny_execs_nil ⟨rfl, ?_⟩
        refine hQ' .next _ ⟨h7, _, _, rfl, F6.list l6 gDs hs7, fun o e => ?_, ((C4.le k5).le k6).list l6 hs7, fun x h1 h2 => ?_, ?_, ks ++ [k], ss ++ [.ref a], j4.yes hW hmatch hlast, ?_, ?_, ?_⟩
        · exact (hs7.2 I (list_ne_it j5 it).symm).trans (k6 _ _ (k5 _ _ (k4 _ _ e)))
        · show (if _ then _ else _) = _
          rw [if_neg h2]; exact j2 x h1 h2
        · show (if _ then _ else _) = _
          rw [if_neg (by decide)]; exact j3
        · have : (ss.toArray.push (Value.ref a)) = (ss ++ [Value.ref a]).toArray := by simp
          rw [← this]; exact l7
        · rw [List.map_append]
          exact (((a4.kept (TupKept.le k5)).kept (TupKept.le k6)).kept (TupKept.list l6 hs7)).snoc (Ans.kept (h := h6) ⟨a, u1, u2, rfl, ho⟩ (TupKept.list l6 hs7))
        · simp; omega
      refine isTrue_and ?_
      refine isTrue_or ?_
      refine wpAny_isTrue_Compare1 ?_
      repeat (walk_at "mj")
      refine PyProof.Rows.List_ ?_
      repeat (walk_at "mj")
      refine new_list (fun e5 h5 he5 k5 hl5 => ?_)
      refine eq_empty (l4.isList.at fun o e => k5 _ _ e) hl5.isList (by omega) ?_
      refine wpAny_truthy_bool ?_
      have F5 := F4.le k5
      cases hks : ks.getLast? with
      | none =>
        have hks0 : ks = [] := by simpa using hks
        subst hks0
        have hss : ss = [] := by have := j6.length; simpa using this
        subst hss
        rw [if_pos (by rfl)]
        refine isTrue_and_nil ?_
        rw [if_pos rfl]
        refine wpAny_mono (put (by intro l hl; cases hl) h5 _ k5) (fun f s' hs' => ?_) fun _ _ y => y
        obtain ⟨rfl, hs'⟩ := hs'
        exact wpAny_execs_nil hs'
      | some l =>
        obtain ⟨v, hv, hans⟩ := AnsAll.last a4 (r := some (spanOf mm T z l)) (by rw [List.getLast?_map, hks]; rfl)
        have hne : ss.isEmpty = false := by cases ss with | nil => cases hv | cons _ _ => rfl
        rw [hne, if_neg (by decide)]
        obtain ⟨ta, x1, x2, rfl, hta⟩ := hans
        refine isTrue_or ?_
        obtain ⟨u1, e1⟩ := IntsAre.get hi (k := k) (by simp; omega)
        rw [List.getElem_map, List.getElem_range] at e1
        refine wpAny_isTrue_Compare1 ?_
        refine Subscript_ ?_
        refine Subscript_ ?_
        repeat (walk_at "mj")
        refine wpAny_UnaryOp ?_
        repeat (walk_at "mj")
        refine PyProof.Rows.neg_int ?_
        refine last_list (l4.isList.at fun o e => k5 _ _ e) hv ?_
        repeat (walk_at "mj")
        refine item1 (k5 _ _ hta) ?_
        repeat (walk_at "mj")
        refine item_listL (lp (k4.trans k5)) (by omega) (by omega) (by rw [Int.toNat_natCast]; exact e1) ?_
        repeat (walk_at "mj")
        have hlm : W <+: T.drop l := j4.mem hW l (by
          have := List.mem_of_getLast? hks; exact this)
        have hll := pre_len hW hlm
        have hiff : ((spanOf mm T z l).2 : Int) ≤ ((off mm T k : Nat) : Int) ↔ l + W.length ≤ k := by
          show ((off mm T (l + z) : Nat) : Int) ≤ _ ↔ _
          rw [← hWz]
          constructor
          · intro hle
            rcases Nat.lt_or_ge k (l + W.length) with hlt | hge
            · have := off_lt hm2 T hlt (by omega); omega
            · exact hge
          · intro hle
            have := off_le hm2 T hle (by omega); omega
        refine split_dec (fun hc => ?_) (fun hc => ?_)
        · refine isTrue_and_nil ?_
          rw [if_pos rfl]
          refine wpAny_mono (put (by intro l' hl'; rw [hks] at hl'; cases hl'; exact hiff.mp hc) h5 _ k5) (fun f s' hs' => ?_) fun _ _ y => y
          obtain ⟨rfl, hs'⟩ := hs'
          exact wpAny_execs_nil hs'
        · refine isTrue_or_nil ?_
          rw [if_neg (by decide), if_neg (by decide)]
          exact wpAny_execs_nil (wpAny_execs_nil (stay h5 _ (k4.trans k5) (j4.no (.inr ⟨l, hks, fun q => hc (hiff.mpr q)⟩))))
    · rw [if_neg (by
        rw [beq_iff_eq]
        intro e
        apply hmatch
        rw [pre_iff, hWz]
        have := congrArg (fun x : Str => x.cps.toList) e
        simpa using this)]
      rw [if_neg (by decide)]
      exact wpAny_execs_nil (wpAny_execs_nil (stay h4 _ k4 (j4.no (.inl hmatch))))
  · rintro I m' h' tk' hI F3 ⟨C3, j2, j3, ks, ss, j4, j5, j6, j7⟩
    have S3 := S2.of F3 C3
    obtain ⟨g', S', kg, kl, kt⟩ := S3.grow
    exact h g' h' m' tk' Ds ss ks S' kg j2 j3 (kl _ _ j5) (j6.kept kt) j4
end

/-! a for over range(N) whose name is a cell -/
theorem for_rangeC {prog : Program} {w : World} {A : Around} {s : Shared} {E : Value → Shared → Prop} {Q : Flow → Shared → Prop} {env : Env} {x : Str} {px : Pos} {body : List Stmt} {N : Nat} {t : Tok} {cx : Addr} {v₀ : Option Value}
    {g : Heap} {m : Str → Option Value} (J : Addr → Nat → (Str → Option Value) → Heap → Prop)
    (hh : A.handled = none) (hN : N < 1000000) (Fa : Fm g env.locals s.heap m) (hc : s.heap.IsCell cx v₀) (gx : g.get? cx = none)
    (stable : ∀ I i m h h' mm v, J I i m h → (∃ x y z, IsRangeIter h I x y z) → h.Ns env.locals mm → h.IsCell cx v → (∀ b o, b ≠ I → b ≠ cx → h.get? b = some o → h'.get? b = some o) → J I i m h')
    (h0 : ∀ I h', s.heap.get? I = none → Le s.heap h' → J I 0 m h')
    (step : ∀ I i t m h tk, i < N → s.heap.get? I = none → (∃ x y z, IsRangeIter h I x y z) → Fm g env.locals h m → h.IsCell cx (some (.int (i : Int) t)) → J I i m h →
      wpAny (model prog w) A (execs body env) (fun f s' => match f with
        | .next | .cont => ∃ h' tk' m', s' = { s with heap := h', toks := tk' } ∧ Fm g env.locals h' m' ∧ (∀ o, h.get? I = some o → h'.get? I = some o) ∧ (∃ v, h'.IsCell cx v) ∧ J I (i + 1) m' h'
        | .brk => Q .next s'
        | .ret v => Q (.ret v) s') (fun _ _ => False) { s with heap := h, toks := tk })
    (fin : ∀ I m' h' tk', s.heap.get? I = none → Fm g env.locals h' m' → (∃ v, h'.IsCell cx v) → J I N m' h' → Q .next { s with heap := h', toks := tk' })
    (hk : env.scope.kind = .function := by kernel_rfl) (hx : env.kindOf x = some .cell := by kernel_rfl) (hcx : env.cells.lookup x = some cx := by rfl) :
    wpAny (model prog w) A (call (.type "range") [.int (N : Int) t]) (fun xv s₁ => wpAny (model prog w) A (pyIter xv) (fun it s₂ =>
      codeAny (model prog w) A (.forLoop (.Name x px) it body [] env) (fun r s' => match r with | .ok f => Q f s' | .error e => cameBackBy (model prog w) A env E e s') s₂) E s₁) E s := by
  refine call_range_ fun r h1 tk1 t1 t2 t3 k1 hr => ?_
  refine wpAny_pyIter_range hr (small_one (by decide) (by decide) (by omega) (by omega)) ?_
  have hsz : Builtin.Range.rangeSize 0 (N : Int) 1 = (N : Int) := by rw [rangeSize_one]; split <;> omega
  rw [hsz]
  dsimp only
  generalize hh2 : h1.push { cls := .type "range_iterator", data := .fields #[rawInt 0, rawInt (N : Int), rawInt 1] } = h2
  have k2 : Le h1 h2 := by rw [← hh2]; exact le_push _ _
  have hI1 : h1.get? h1.objs.size = none := none_at_size _
  have hI0 : s.heap.get? h1.objs.size = none := none_of_le k1 hI1
  have hst : IsRangeIter h2 h1.objs.size (0 + ((0 : Nat) : Int) * 1) ((N : Int) - ((0 : Nat) : Int)) 1 := by
    rw [show (0 + ((0 : Nat) : Int) * 1) = 0 by simp, show ((N : Int) - ((0 : Nat) : Int)) = N by simp, ← hh2]
    exact Heap.get?_push_size _ rfl
  generalize h1.objs.size = I at hI1 hI0 hst
  have hLI : env.locals ≠ I := (ns_ne Fa.ns hI0).symm
  have hcI : cx ≠ I := by rintro rfl; obtain ⟨o, e, _⟩ := hc; rw [hI0] at e; cases e
  have hcL : cx ≠ env.locals := by
    rintro rfl
    obtain ⟨o, e, d⟩ := hc; obtain ⟨o', _, _, ho, hd, _⟩ := Fa.ns; rw [ho] at e; cases e; rw [d] at hd; cases hd
  have hgI : g.get? I = none := none_of_le Fa.keep hI0
  have W := Walks.range (prog := prog) (w := w) hh I 0 1 N
  refine codeAny_forLoop
    (fun k s' => ∃ h' tk m' i, s' = { s with heap := h', toks := tk } ∧ IsRangeIter h' I (0 + (i : Nat) * 1) ((N : Int) - (i : Nat)) 1 ∧ Fm g env.locals h' m' ∧ (∃ v, h'.IsCell cx v) ∧ J I i m' h' ∧ i ≤ N ∧ k = N + 1 - i) ?_ (N + 1)
    ⟨h2, _, m, 0, rfl, hst, Fa.le (k1.trans k2), ⟨_, hc.keeps (k1.trans k2)⟩, h0 I h2 hI0 (k1.trans k2), Nat.zero_le _, rfl⟩
  rintro k s' ⟨h', tk, m', i, rfl, hst', F', ⟨v, hc'⟩, hJ, hi, rfl⟩
  have next : ∀ h₁ : Heap, (∀ b o, b ∉ [I] → h'.get? b = some o → h₁.get? b = some o) → Fm g env.locals h₁ m' ∧ h₁.IsCell cx v ∧ J I i m' h₁ := fun h₁ hk₁ =>
    ⟨⟨F'.ns.at' fun o e => hk₁ _ o (by simpa using hLI) e, fun b o e => hk₁ b o (by rintro hb; rw [List.mem_singleton] at hb; rw [hb, hgI] at e; cases e) (F'.keep b o e), F'.gL⟩,
      (let ⟨o, e, d⟩ := hc'; ⟨o, hk₁ _ _ (by simpa using hcI) e, d⟩),
      stable I i m' h' h₁ m' v hJ ⟨_, _, _, hst'⟩ F'.ns hc' fun b o hb _ e => hk₁ b o (by simpa using hb) e⟩
  by_cases hlt : i < N
  · refine W.item i _ _ _ hlt hst' fun v' h₁ tk₁ hP hst₁ hk₁ => ?_
    obtain ⟨F₁, c₁, J₁⟩ := next h₁ hk₁
    obtain ⟨t', rfl⟩ := hP
    refine wpAny_assign_Name (wpAny_storeName_cell hk hx hcx c₁ (fun h₂ hc₂ hs₂ => ?_))
    have F₂ := F₁.cell hcL gx hs₂
    rw [show (0 + (i : Int) * 1) = (i : Int) by omega] at hc₂
    have J₂ := stable I i m' h₁ h₂ m' v J₁ ⟨_, _, _, hst₁⟩ F₁.ns c₁ fun b o _ hb e => (hs₂.2 b hb).trans e
    have e2 : ∀ o, h₁.get? I = some o → h₂.get? I = some o := fun o e => (hs₂.2 I hcI.symm).trans e
    refine wpAny_mono (step I i t' m' h₂ _ hlt hI0 ⟨_, _, _, e2 _ hst₁⟩ F₂ hc₂ J₂) (fun f s₃ h₃ => ?_) fun _ _ e => e.elim
    cases f with
    | next =>
      obtain ⟨h₃', tk₃, m₂, rfl, F₃, hk₃, c₃, J₃⟩ := h₃
      exact ⟨N + 1 - (i + 1), by omega, h₃', tk₃, m₂, i + 1, rfl, hk₃ _ (e2 _ hst₁), F₃, c₃, J₃, hlt, rfl⟩
    | cont =>
      obtain ⟨h₃', tk₃, m₂, rfl, F₃, hk₃, c₃, J₃⟩ := h₃
      exact ⟨N + 1 - (i + 1), by omega, h₃', tk₃, m₂, i + 1, rfl, hk₃ _ (e2 _ hst₁), F₃, c₃, J₃, hlt, rfl⟩
    | brk => exact h₃
    | ret v => exact h₃
  · have hin : i = N := by omega
    subst hin
    refine W.done _ _ _ hst' fun h₁ tk₁ hk₁ => wpAny_execs_nil ?_
    obtain ⟨F₁, c₁, J₁⟩ := next h₁ hk₁
    exact fin I m' h₁ tk₁ hI0 F₁ ⟨_, c₁⟩ J₁
/-- the sign's own cells, but for col's -/
structure LD (L : Nat) (h : Heap) (vt vl vw : Option Value) : Prop where
  T : Tb h
  ct : h.IsCell (L + 1) vt
  cl : h.IsCell (L + 1 + 1) vl
  cw : h.IsCell (L + 1 + 1 + 1) vw
section
variable {g h h' : Heap} {L : Nat} {m m' : Str → Option Value} {vt vl vw vc : Option Value}
theorem cell_turnC {I c cx : Addr} {v vx : Option Value} {x y z : Int} (X : h.IsCell c v) (it : IsRangeIter h I x y z) (hne : c ≠ cx) (k : ∀ b o, b ≠ I → b ≠ cx → h.get? b = some o → h'.get? b = some o) : h'.IsCell c v := by
  obtain ⟨o, e, d⟩ := X
  refine ⟨o, k c o ?_ hne e, d⟩
  rintro rfl; have i' : h.get? c = some _ := it; rw [i'] at e; cases e; cases d
theorem LD.turn {I : Addr} {x y z : Int} {v : Option Value} (C : LD L h vt vl vw) (it : IsRangeIter h I x y z) (cc : h.IsCell (L + 1 + 1 + 1 + 1) v) (k : ∀ b o, b ≠ I → b ≠ (L + 1 + 1 + 1 + 1) → h.get? b = some o → h'.get? b = some o) : LD L h' vt vl vw :=
  ⟨C.T.but (fun b => b = I ∨ b = (L + 1 + 1 + 1 + 1)) (fun b o c e => k b o (fun q => c (.inl q)) (fun q => c (.inr q)) e) (fun a o c e => by
      rcases c with rfl | rfl
      · have i' : h.get? a = some _ := it
        rw [i'] at e; cases e
        exact .inl ⟨by simp, by simp⟩
      · obtain ⟨o', ho, hd⟩ := cc; rw [ho] at e; cases e
        exact .inr fun vs q => by rw [hd] at q; cases q),
    cell_turnC (vx := v) C.ct it (nn (by omega)) k, cell_turnC (vx := v) C.cl it (nn (by omega)) k, cell_turnC (vx := v) C.cw it (nn (by omega)) k⟩
theorem TupKept.turnC {I cx : Addr} {v : Option Value} {x y z : Int} (i : IsRangeIter h I x y z) (cc : h.IsCell cx v) (k : ∀ b o, b ≠ I → b ≠ cx → h.get? b = some o → h'.get? b = some o) : TupKept h h' := fun b vs e => by
  refine k b _ ?_ ?_ e
  · rintro rfl; have i' : h.get? b = some _ := i; rw [i'] at e; simp at e
  · rintro rfl; obtain ⟨o', ho, hd⟩ := cc; rw [ho] at e; cases e; cases hd
theorem list_turnC {I cx a : Addr} {v : Option Value} {x y z : Int} {its : Array Value} (l : h.PlainList a its) (i : IsRangeIter h I x y z) (cc : h.IsCell cx v) (k : ∀ b o, b ≠ I → b ≠ cx → h.get? b = some o → h'.get? b = some o) : h'.PlainList a its :=
  l.at fun o e => k a o (list_ne_it l i) (by rintro rfl; obtain ⟨n, l⟩ := l; obtain ⟨o', ho, hd⟩ := cc; rw [ho] at l; cases l; cases hd) e
end

/-! what is due -/
def sndOf (col : Int) : List Value → Bool
  | _ :: Value.int b _ :: _ => decide (b ≤ col)
  | _ => false
def seqOf (o : Obj) : List Value := match o.data with
  | .seq its _ => its.toList
  | _ => []
def sndBy (g : Heap) (col : Int) : Value → Bool
  | .ref t => match g.get? t with
    | some o => sndOf col (seqOf o)
    | none => false
  | _ => false
theorem sndBy_ans {g : Heap} {col a b : Nat} {v : Value} (x : Ans g v (some (a, b))) : sndBy g (col : Int) v = decide (b ≤ col) := by
  obtain ⟨t, u, u', rfl, e⟩ := x
  unfold sndBy
  dsimp only
  rw [e]
  show decide ((b : Int) ≤ (col : Int)) = _
  simp
theorem AnsAll.filter {g : Heap} {col : Nat} : ∀ {ss : List Value} {sp : List (Nat × Nat)}, AnsAll g ss (sp.map some) → AnsAll g (ss.filter (sndBy g (col : Int))) ((sp.filter fun s => decide (s.2 ≤ col)).map some)
  | ss, [], x => by cases x; exact .nil
  | ss, (a, b) :: sp, x => by
    cases x with
    | cons p q =>
      have hp := sndBy_ans (col := col) p
      have ih := AnsAll.filter (col := col) q
      by_cases hc : b ≤ col
      · rw [List.filter_cons_of_pos (by rw [hp]; simpa using hc), List.filter_cons_of_pos (by simpa using hc)]
        exact .cons p ih
      · rw [List.filter_cons_of_neg (by rw [hp]; simpa using hc), List.filter_cons_of_neg (by simpa using hc)]
        exact ih
theorem AnsAll.get {g : Heap} : ∀ {ss : List Value} {sp : List (Nat × Nat)}, AnsAll g ss (sp.map some) → ∀ {i : Nat} {v : Value}, ss[i]? = some v → ∃ p, Ans g v (some p)
  | ss, [], x, i, v, e => by cases x; simp at e
  | ss, p :: sp, x, i, v, e => by
    cases x with
    | cons a b =>
      cases i with
      | zero => simp at e; subst e; exact ⟨p, a⟩
      | succ i => exact AnsAll.get b (by simpa using e)
theorem Paired.eq {l l' : List Value} (x : Paired (fun v y => y = v) l l') : l' = l := by
  induction x with
  | nil => rfl
  | cons a _ ih => rw [a, ih]
section
variable {prog : Program} {w : World} {A : Around} {s : Shared} {E : Value → Shared → Prop} {Q : Flow → Shared → Prop} {mg mb : Str → Option Value} {g : Heap} {L : Nat} {fa : Addr} {cd : Value} {m : Str → Option Value} {vt vl vw vc : Option Value} {rest : List Stmt}
theorem st_due {N : Nat} {Dp Ds : Addr} {ps ss : List Value} {pn : List Int} {sp : List (Nat × Nat)} (hh : A.handled = none) (hu : A.units + 10 < cLine)
    (S : LS w mg mb g L s.heap m vt vl vw vc) (hpl : m (nm "places") = some (.ref Dp)) (hp : g.PlainList Dp ps.toArray) (hi : IntsAre ps pn) (hlast : pn.getLast? = some (N : Int)) (hN : N ≤ 10000)
    (hsp : m (nm "spans") = some (.ref Ds)) (hs : g.PlainList Ds ss.toArray) (ha : AnsAll g ss (sp.map some)) (hsl : sp.length ≤ 10000)
    (h : ∀ g' h' m' tk Dd ds v, LS w mg mb g' L h' m' vt vl vw v → Le g g' → (∀ x, x ≠ nm "due" → x ≠ nm "ended" → m' x = m x) → m' (nm "due") = some (.ref Dd) → g'.PlainList Dd (ds : List Value).toArray →
      AnsAll g' ds ((List.range (N + 1)).map fun col => (sp.filter fun s => decide (s.2 ≤ col)).getLast?) → wpAny (model prog w) A (execs rest (lawEnv L fa cd)) Q E { s with heap := h', toks := tk }) :
    wpAny (model prog w) A (execs (sx 12 :: sx 13 :: rest) (lawEnv L fa cd)) Q E s := by
  refine wpAny_execs_cons ?_
  have Fa := S.F
  show wpAny _ _ (exec (Stmt.Assign [Expr.Name _ _] (Expr.List [] _) _) _) _ _ _
  refine wpAny_Assign_Name ?_
  refine PyProof.Rows.List_ ?_
  repeat (walk_at "mj")
  refine new_list (fun Dd h1 hDd k1 hl1 => ?_)
  refine s_loc (Fa.le k1) (fun h2 tk2 F2 hs2 => ?_)
  have S2 := (S.le k1).loc F2 (fun b o z e => (hs2.2 b z).trans e)
  have l2 : h2.PlainList Dd ([] : List Value).toArray := hl1.at fun o e => (hs2.2 Dd (list_ne_ns hl1 (Fa.le k1).ns)).trans e
  have gDd : g.get? Dd = none := none_of_le Fa.keep hDd
  have W2 := S2.Wh
  have hpsl : ∃ u, ps.getLast? = some (.int (N : Int) u) := by
    have hlen : 0 < pn.length := by cases pn with | nil => cases hlast | cons _ _ => simp
    rw [List.getLast?_eq_getElem?, List.getElem?_eq_getElem (by omega)] at hlast
    obtain ⟨u, e⟩ := IntsAre.get hi (k := pn.length - 1) (by omega)
    have : pn[pn.length - 1] = (N : Int) := by simpa using hlast
    rw [this] at e
    exact ⟨u, by rw [List.getLast?_eq_getElem?, hi.length]; exact e⟩
  obtain ⟨up, hpsl⟩ := hpsl
  refine wpAny_execs_cons ?_
  show wpAny _ _ (exec (Stmt.For (Expr.Name _ _) (Expr.Call (Expr.Name _ _) _ _ _) _ _ _) _) _ _ _
  refine wpAny_For ?_
  refine Call_ ?_
  refine n_blt (.type "range") W2 PyProof.Rows.boot_range ?_
  repeat (walk_at "mj")
  refine wpAny_UnaryOp ?_
  repeat (walk_at "mj")
  refine PyProof.Rows.neg_int ?_
  refine last_list (hp.isList.at fun o e => F2.keep _ _ e) hpsl ?_
  repeat (walk_at "mj")
  rw [show ((N : Int) + 1) = ((N + 1 : Nat) : Int) by omega]
  refine for_rangeC (g := g) (cx := L + 1 + 1 + 1 + 1) (fun _ i m' h => LD L h vt vl vw ∧ (∀ x, x ≠ nm "due" → x ≠ nm "ended" → m' x = m x) ∧ m' (nm "due") = some (.ref Dd) ∧
    ∃ ds : List Value, h.PlainList Dd ds.toArray ∧ AnsAll h ds ((List.range i).map fun col => (sp.filter fun s => decide (s.2 ≤ col)).getLast?)) hh (by omega) F2 S2.cc (S.gc _ (by omega) (Nat.le_refl _)) ?_ ?_ ?_ ?_
  · rintro I i m' h h' mx v ⟨j1, j2, j3, ds, j4, j5⟩ ⟨x, y, z, it⟩ n c k
    exact ⟨j1.turn it c k, j2, j3, ds, list_turnC j4 it c k, j5.kept (TupKept.turnC it c k)⟩
  · intro I h' _ k
    exact ⟨⟨S2.T.le k, S2.ct.keeps k, S2.cl.keeps k, S2.cw.keeps k⟩, fun x h1 _ => if_neg h1, if_pos rfl, [], l2.at fun o e => k _ _ e, .nil⟩
  · rintro I col tc m' h3 tk3 hcol hI ⟨x, y, z, it⟩ F3 c3 ⟨C3, j2, j3, ds, j4, j5⟩
    refine hideQ fun Q' hQ' => ?_
    have n1 : m' (nm "spans") = some (.ref Ds) := (j2 _ (by decide) (by decide)).trans hsp
    have ls3 : h3.IsList Ds ss.toArray := hs.isList.at fun o e => F3.keep _ _ e
    refine wpAny_execs_cons ?_
    show wpAny _ _ (exec (Stmt.Assign [Expr.Name _ _] (Expr.ListComp _ _ _ _) _) _) _ _ _
    refine lca_gen (g := g) (sndBy g (col : Int)) (fun v y => y = v) (by kernel_rfl) rfl (by decide +kernel) rfl (by decide +kernel) (by decide +kernel) (by kernel_rfl) (by kernel_rfl) ?_
    refine n_loc F3 n1 ?_
    have hlen := ha.length
    rw [List.length_map] at hlen
    refine ⟨ss.length, _, m', IterOf.list hh ls3, by omega, F3, ?_, ?_, ?_⟩
    · intro C i v s₄ m₄ E' hi' hv F4 hx
      obtain ⟨⟨a, bq⟩, hans⟩ := AnsAll.get ha hv
      have hp' := sndBy_ans (col := col) hans
      obtain ⟨ta, u1, u2, rfl, hta⟩ := hans
      have hta4 : s₄.heap.get? ta = some (tupO #[.int (a : Int) u1, .int (bq : Int) u2]) := F4.keep _ _ (F3.keep _ _ hta)
      have c4 := c3.keeps F4.keep
      rw [List.forIn_cons]
      simp only [if_true]
      refine wpAny_bind (wpAny_bind ?_)
      refine wpAny_isTrue_Compare1 ?_
      repeat (walk_at "mj")
      refine item1 hta4 ?_
      refine n_cell c4 ?_ (by rfl)
      repeat (walk_at "mj")
      refine wpAny_pure ?_
      dsimp only
      rw [List.forIn_nil]
      refine wpAny_pure ⟨?_, s₄.heap, _, rfl, fun _ _ e => e⟩
      rw [hp']
      simp
    · intro C i v s₄ m₄ E' hi' hv F4 hx
      repeat (walk_at "mj")
      exact ⟨rfl, s₄.heap, s₄.toks, rfl, fun _ _ e => e⟩
    · intro De h4 tk4 ys vs hDe F4 kk hl4 hlen' hP hF
      have e1 := list_of_get hlen' hP
      rw [e1] at hF
      have e2 := Paired.eq hF
      subst e2
      have a4 := AnsAll.filter (col := col) ha
      have gkeep : Le g h4 := F4.keep
      have C4 : LD L h4 vt vl vw := ⟨C3.T.nsB F3.ns kk,
        (let ⟨o, e, r⟩ := C3.ct; ⟨o, kk _ _ (by show @Ne Addr (L + 1) L; exact nn (by omega)) e, r⟩), (let ⟨o, e, r⟩ := C3.cl; ⟨o, kk _ _ (by show @Ne Addr (L + 1 + 1) L; exact nn (by omega)) e, r⟩), (let ⟨o, e, r⟩ := C3.cw; ⟨o, kk _ _ (by show @Ne Addr (L + 1 + 1 + 1) L; exact nn (by omega)) e, r⟩)⟩
      have cc4 : h4.IsCell (L + 1 + 1 + 1 + 1) (some (.int (col : Int) tc)) := let ⟨o, e, r⟩ := c3; ⟨o, kk _ _ (by show @Ne Addr (L + 1 + 1 + 1 + 1) L; exact nn (by omega)) e, r⟩
      have l4 : h4.PlainList Dd ds.toArray := j4.at fun o e => kk _ _ (by have := list_ne_ns j4 F3.ns; exact this) e
      have tk34 : TupKept h3 h4 := fun b vs e => kk b _ (by
        intro hb
        have hb' : b = L := hb
        rw [hb'] at e
        obtain ⟨o', es, ep, e', d, _⟩ := F3.ns
        have e'' : h3.get? L = some o' := e'
        rw [e''] at e; cases e; cases d) e
      have a5 := j5.kept tk34
      have itI : ∀ o, h3.get? I = some o → h4.get? I = some o := fun o e => kk I o (by
        intro hb
        have hb' : I = L := hb
        have i' : h3.get? I = some _ := it
        obtain ⟨o', es, ep, e', d, _⟩ := F3.ns
        have e'' : h3.get? L = some o' := e'
        rw [← hb', i'] at e''; cases e''; cases d) e
      refine wpAny_execs_cons ?_
      show wpAny _ _ (exec (Stmt.Expr (Expr.Call (Expr.Attribute _ _ _) _ _ _) _) _) _ _ _
      refine wpAny_Expr_any ?_
      repeat (walk_at "mj")
      obtain ⟨nn4, lo⟩ := id l4
      refine Calls.getMethod_list_append lo rfl rfl ?_
      repeat (walk_at "mj")
      have fin : ∀ (h5 : Heap) (tk5 : Nat) (v : Value), Le h4 h5 → Ans h5 v ((sp.filter fun s => decide (s.2 ≤ col)).getLast?) → wpAny (model prog w) A (call (.builtin "list.append") [.ref Dd, v])
          (fun _ s' => Q' .next s')
          (fun _ _ => False) { s with heap := h5, toks := tk5 } := by
        intro h5 tk5 v k5 hv
        have l5 : h5.PlainList Dd ds.toArray := l4.at fun o e => k5 _ _ e
        have F5 := F4.le k5
        refine wpAny_list_append_plain l5 (fun h6 l6 hs6 => ?_) (by rw [List.size_toArray, j5.length, List.length_map, List.length_range, sizeLine_eq]; omega)
        refine hQ' .next _ ⟨h6, _, _, rfl, F5.list l5 gDd hs6, fun o e => ?_, ⟨_, cell_list (cc4.keeps k5) l5 hs6⟩, ⟨(C4.T.le k5).list l5 hs6, cell_list (C4.ct.keeps k5) l5 hs6, cell_list (C4.cl.keeps k5) l5 hs6, cell_list (C4.cw.keeps k5) l5 hs6⟩, fun x h1 h2 => ?_, ?_, ds ++ [v], ?_, ?_⟩
        · exact (hs6.2 I (list_ne_it j4 it).symm).trans (k5 _ _ (itI _ e))
        · show (if _ then _ else _) = _
          rw [if_neg h2]; exact j2 x h1 h2
        · show (if _ then _ else _) = _
          rw [if_neg (by decide)]; exact j3
        · have : (ds.toArray.push v) = (ds ++ [v]).toArray := by simp
          rw [← this]; exact l6
        · rw [List.range_succ, List.map_append]
          exact ((a5.kept (TupKept.le k5)).kept (TupKept.list l5 hs6)).snoc (hv.kept (TupKept.list l5 hs6))
      refine wpAny_IfExp ?_
      refine wpAny_isTrue_Compare1 ?_
      repeat (walk_at "mj")
      refine PyProof.Rows.List_ ?_
      repeat (walk_at "mj")
      refine new_list (fun e5 h5 he5 k5 hl5 => ?_)
      have F5 := F4.le k5
      refine ne_empty (hl4.isList.at fun o e => k5 _ _ e) hl5.isList (by omega) ?_
      refine wpAny_truthy_bool ?_
      cases hg : (sp.filter fun s => decide (s.2 ≤ col)).getLast? with
      | none =>
        rw [hg] at fin
        have hnil : (sp.filter fun s => decide (s.2 ≤ col)) = [] := by simpa using hg
        rw [hnil] at a4
        have hy : (ss.filter (sndBy g (col : Int))) = [] := by have := a4.length; simpa using this
        rw [hy, if_neg (by decide)]
        repeat (walk_at "mj")
        exact wpAny_mono (fin h5 _ .none k5 rfl) (fun _ s' hs' => wpAny_execs_nil hs') (fun _ _ y => y)
      | some q =>
        rw [hg] at fin
        obtain ⟨v, hv, hans⟩ := AnsAll.last a4 (r := some q) (by rw [List.getLast?_map, hg]; rfl)
        have hne : (ss.filter (sndBy g (col : Int))).isEmpty = false := by
          cases hy : (ss.filter (sndBy g (col : Int))) with
          | nil => rw [hy] at hv; cases hv
          | cons _ _ => rfl
        rw [hne, if_pos (by decide)]
        repeat (walk_at "mj")
        refine wpAny_UnaryOp ?_
        repeat (walk_at "mj")
        refine PyProof.Rows.neg_int ?_
        refine last_list (hl4.isList.at fun o e => k5 _ _ e) hv ?_
        repeat (walk_at "mj")
        exact wpAny_mono (fin h5 _ v k5 (hans.kept (TupKept.le (gkeep.trans k5)))) (fun _ s' hs' => wpAny_execs_nil hs') (fun _ _ y => y)
  · rintro I m' h' tk' hI F3 ⟨v, cc⟩ ⟨C3, j2, j3, ds, j4, j5⟩
    have S3 := S2.of F3 ⟨C3.T, C3.ct, C3.cl, C3.cw, cc⟩
    obtain ⟨g', S', kg, kl, kt⟩ := S3.grow
    exact h g' h' m' tk' Dd ds v S' kg j2 j3 (kl _ _ j4) (j5.kept kt)
end

/-! the last loop -/
section
variable {w : World} {mg mb : Str → Option Value} {g h h' : Heap} {L : Nat} {m m' : Str → Option Value} {vt vl vw vc : Option Value}
theorem LS.leT (S : LS w mg mb g L h m vt vl vw vc) (k : LeT h h') (T' : Tb h') : LS w mg mb g L h' m vt vl vw vc :=
  ⟨S.F.leT S.T k S.g35 S.g42, S.W, T', S.T.cellT k S.ct, S.T.cellT k S.cl, S.T.cellT k S.cw, S.T.cellT k S.cc, S.g35, S.g42, S.gc⟩
end
noncomputable def lastBody : List Stmt := match sx 15 with
  | .For _ _ b _ _ => b
  | _ => []
section
variable {prog : Program} {w : World} {A : Around} {s : Shared} {E : Value → Shared → Prop} {mg mb : Str → Option Value} {g : Heap} {L : Nat} {fa : Addr} {cd : Value} {m : Str → Option Value} {vt vl vw vc : Option Value}
theorem ne_V {b : Bool} {l : List Nat} {t u : Tok} {Q : Value → Shared → Prop} (h : Q (.bool false) s) : wpAny (model prog w) A (compareOp .NotEq (V b l t) (V b l u)) Q E s := by
  cases b with
  | false =>
    refine PyProof.Rows.ne_str ?_
    rw [bne_self_eq_false]; exact h
  | true =>
    refine ne_bytes ?_
    rw [bne_self_eq_false]; exact h
theorem fin_turn {Q : Flow → Shared → Prop} {b : Bool} {ly mm : Nat} {ul u1 u2 u3 : Tok} {T W ps : List Nat} {Dd : Addr} {ds : List Value} (hroom : A.depth + 5 < recursionLimit) (hh : A.handled = none) (hu : A.units + 10 < cLine) (hly : ly ≤ 2)
    (hm2 : 2 ≤ mm) (hT : T.length ≤ 100) (hTne : T ≠ []) (hT256 : ∀ c ∈ T, c < 256) (hWl : W.length ≤ 100) (hWne : W ≠ []) (hW256 : ∀ c ∈ W, c < 256)
    (eT : escN ly T = enc mm T) (eW : escN ly W = enc mm W) (C : Chain (enc mm T) (enc mm W) 0 ps)
    (S : LS w mg mb g L s.heap m vt (some (.int (ly : Int) ul)) vw vc) (h1 : m (nm "chars") = some (V b T u1)) (h2 : m (nm "sought") = some (V b W u2)) (h3 : m (nm "wanted") = some (V b (enc mm T) u3)) (h4 : m (nm "due") = some (.ref Dd))
    (hd : g.PlainList Dd ds.toArray) (ha : AnsAll g ds ((List.range ((enc mm T).length + 1)).map (dueOf ps (enc mm W).length)))
    (h : ∀ h' tk, LeT s.heap h' → LS w mg mb g L h' m vt (some (.int (ly : Int) ul)) vw vc → Q .next { s with heap := h', toks := tk }) :
    wpAny (model prog w) A (execs lastBody (lawEnv L fa cd)) Q E s := by
  have hlT : (enc mm T).length ≤ 1000 := by
    have h1 := escN_len T ly
    rw [eT] at h1
    have hp : 2 ^ ly ≤ 2 ^ 2 := Nat.pow_le_pow_right (by decide) hly
    have hp2 : 2 ^ ly * T.length ≤ 2 ^ 2 * 100 := Nat.mul_le_mul hp hT
    omega
  have hlW : (enc mm W).length ≤ 1000 := by
    have h1 := escN_len W ly
    rw [eW] at h1
    have hp : 2 ^ ly ≤ 2 ^ 2 := Nat.pow_le_pow_right (by decide) hly
    have hp2 : 2 ^ ly * W.length ≤ 2 ^ 2 * 100 := Nat.mul_le_mul hp hWl
    omega
  have eT256 : ∀ c ∈ enc mm T, c < 256 := by rw [← eT]; exact escN_lt hT256 ly
  have eW256 : ∀ c ∈ enc mm W, c < 256 := by rw [← eW]; exact escN_lt hW256 ly
  have Fa := S.F
  have W1 := S.Wh
  show wpAny _ _ (execs [Stmt.If _ _ _ _, Stmt.If _ _ _ _] _) _ _ _
  repeat (walk_at "mj")
  refine n_glob (.ref 68) W1 ?_
  refine cw_def (look_layers w.params) ?_
  repeat (walk_at "mj")
  refine n_cell S.cl ?_ (by rfl)
  repeat (walk_at "mj")
  refine ⟨W1.K, ?_⟩
  refine call_layers W1 (by omega) hh hT (by omega) hTne hT256 fun u4 hA tkA kA => ?_
  rw [eT]
  have SA := S.le kA
  have FA := SA.F
  repeat (walk_at "mj")
  refine ne_V ?_
  repeat (walk_at "mj")
  rw [if_neg (by decide)]
  have WA := SA.Wh
  repeat (walk_at "mj")
  refine n_glob (.ref 75) WA ?_
  refine cw_def (look_answers w.params) ?_
  repeat (walk_at "mj")
  refine n_glob (.ref 68) WA ?_
  refine cw_def (look_layers w.params) ?_
  repeat (walk_at "mj")
  refine n_cell SA.cl ?_ (by rfl)
  repeat (walk_at "mj")
  refine ⟨WA.K, ?_⟩
  refine call_layers WA (by omega) hh hWl (by omega) hWne hW256 fun u5 hB tkB kB => ?_
  rw [eW]
  have SB_ := SA.le kB
  have WB := SB_.Wh
  repeat (walk_at "mj")
  refine ⟨WB.K, ?_⟩
  refine call_answers WB SB_.T (by omega) hh (enc_ne hm2 hWne) eT256 eW256 (by omega) (by omega) C fun a vs hC tkC kC TC lC aC => ?_
  have SC_ := SB_.leT kC TC
  have FC := SC_.F
  repeat (walk_at "mj")
  refine ne_answers lC.isList (hd.isList.at fun o e => FC.keep _ _ e) aC (ha.kept (TupKept.le FC.keep)) (by omega) (by show A.units + 1 < _; omega) ?_
  repeat (walk_at "mj")
  rw [if_neg (by decide)]
  refine wpAny_execs_nil (wpAny_execs_nil ?_)
  exact h hC _ (fun b o n1 n2 e => kC b o n1 n2 (kB _ _ (kA _ _ e))) SC_
theorem assign3 {Q : Unit → Shared → Prop} {env : Env} {x y z : Str} {px py pz pos : Pos} {k : Nat} {t : Addr} {a b c : Value}
    (F : Fm g env.locals s.heap m) (hh : A.handled = none) (ht : s.heap.get? t = some (tupO #[a, b, c]))
    (h : ∀ h' tk, Fm g env.locals h' (fun q => if q = z then some c else if q = y then some b else if q = x then some a else m q) → (∀ d o, d ≠ env.locals → s.heap.get? d = some o → h'.get? d = some o) → Q () { s with heap := h', toks := tk })
    (hk : (env.scope.kind == .class || (env.scope.kind == .module && env.locals != env.globals)) = false := by kernel_rfl) (hx : env.kindOf x = some .local := by kernel_rfl) (hy : env.kindOf y = some .local := by kernel_rfl) (hz : env.kindOf z = some .local := by kernel_rfl) :
    wpAny (model prog w) A (assign (.Tuple [.Name x px, .Name y py, .Name z pz] k pos) env (.ref t)) Q E s := by
  refine wpAny_assign_Tuple hh (items := #[a, b, c]) ⟨_, ht, rfl, 0, rfl⟩ rfl rfl fun h1 k1 => ?_
  have k1' : Le s.heap h1 := fun c o e => k1 c o (Nat.ne_of_lt (Heap.lt_size e)) e
  show wpAny _ _ (do holding [b, c] (assign (.Name x px) env a); (do holding [c] (assign (.Name y py) env b); (do holding [] (assign (.Name z pz) env c); pure ()))) _ _ _
  refine wpAny_bind (wpAny_holding (wpAny_assign_Name (s_loc (F.le k1') (fun h2 tk2 F2 hs2 => ?_) hk hx)))
  refine wpAny_bind (wpAny_holding (wpAny_assign_Name (s_loc F2 (fun h3 tk3 F3 hs3 => ?_) hk hy)))
  refine wpAny_bind (wpAny_holding (wpAny_assign_Name (s_loc F3 (fun h4 tk4 F4 hs4 => ?_) hk hz)))
  exact wpAny_pure (h h4 tk4 F4 fun c o n e => (hs4.2 c n).trans ((hs3.2 c n).trans ((hs2.2 c n).trans (k1' c o e))))
end

theorem picked_octs {l : List Nat} {a z : Nat} (h : a + z ≤ l.length) : KBy.picked (octs l) (some (a : Int)) (some ((a + z : Nat) : Int)) = octs ((l.drop a).take z) := by
  rw [KBc.picked_eq]
  simp only [Option.elim_some]
  rw [clipAt_nat, clipAt_nat, octs_size, show min a l.length = a by omega, show min (a + z) l.length = a + z by omega, show a + z - a = z by omega]
  unfold octs
  rw [List.map_take, List.map_drop]
section
variable {prog : Program} {w : World} {A : Around} {s : Shared} {E : Value → Shared → Prop} {Q : Flow → Shared → Prop} {mg mb : Str → Option Value} {g : Heap} {L : Nat} {fa : Addr} {cd : Value} {m : Str → Option Value} {vt vl vw vc : Option Value} {rest : List Stmt}
theorem bytes_cut {env : Env} {value lo hi : Expr} {p pos : Pos} {Q : Value → Shared → Prop}
    (h : wpAny (model prog w) A (eval value env) (fun o s₁ => wpAny (model prog w) A (eval lo env) (fun vl s₂ => wpAny (model prog w) A (eval hi env) (fun vu s₃ =>
      ∃ l t a z ua ub, o = .bytes (octs l) t ∧ vl = .int ((a : Nat) : Int) ua ∧ vu = .int ((a + z : Nat) : Int) ub ∧ a + z ≤ l.length ∧ l.length ≤ 100000 ∧
        ∀ t' h' tk, Le s₃.heap h' → Q (.bytes (octs ((l.drop a).take z)) t') { s₃ with heap := h', toks := tk }) E s₂) E s₁) E s)
    (ht : ∀ o r, letTemporaryGo value o r = pure () := by intro _ _; rfl) :
    wpAny (model prog w) A (eval (.Subscript value (.Slice (some lo) (some hi) none p) pos) env) Q E s := by
  refine wpAny_Subscript_Slice (T := "bytes") FB.slot_bytes_getitem.lookup (wpAny_mono h (fun o s₁ h₁ => wpAny_Slice (wpAny_evalPart_some (wpAny_mono h₁ (fun vl s₂ h₂ => wpAny_evalPart_some (wpAny_mono h₂ (fun vu s₃ h₃ => ?_) fun _ _ e => e)) fun _ _ e => e))) fun _ _ e => e) ht
  obtain ⟨l, t, a, z, ua, ub, rfl, rfl, rfl, haz, hl, hQ⟩ := h₃
  rw [evalPart_none]
  refine wpAny_pure ⟨typeIs_bytes _ _ _, getItem_meets (typeIs_bytes _ _ _) (by decide) FB.slot_bytes_getitem FB.entry_bytes_getitem (FB.args_bytes_getitem_2 _ _) (KBc.meets_slice2 (octs l) t _ (.int _ _) (.int _ _)) ⟨Heap.IsSliceOf.new _ _ _ _, ?_, fun t' k => ?_⟩⟩
  · rw [picked_octs haz, octs_size, sizeLine_eq, List.length_take, List.length_drop]; omega
  · rw [picked_octs haz]
    exact hQ t' _ k (le_push _ _)
theorem st_octets {ut : Tok} {T : List Nat} (S : LS w mg mb g L s.heap m (some (.str (tx T) ut)) vl vw vc) (hT : T.length ≤ 100) (hT256 : ∀ c ∈ T, c < 256)
    (h : ∀ h' tk u, LS w mg mb g L h' (fun y => if y = nm "octets" then some (.bytes (octs T) u) else m y) (some (.str (tx T) ut)) vl vw vc → wpAny (model prog w) A (execs rest (lawEnv L fa cd)) Q E { s with heap := h', toks := tk }) :
    wpAny (model prog w) A (execs (sx 14 :: rest) (lawEnv L fa cd)) Q E s := by
  refine wpAny_execs_cons ?_
  have Fa := S.F
  show wpAny _ _ (exec (Stmt.Assign [Expr.Name _ _] (Expr.Call (Expr.Attribute _ _ _) _ _ _) _) _) _ _ _
  refine wpAny_Assign_Name ?_
  repeat (walk_at "mj")
  refine n_cell S.ct ?_ (by rfl)
  with_reducible refine meth_str F.slot_str_encode F.type_str_encode ?_
  repeat (walk_at "mj")
  refine call_encode (by intro c hc; exact hT256 c (by simpa using hc)) (by rw [tx_len]; omega) fun u' tk' => ?_
  refine s_loc Fa (fun h4 tk4 F4 hs4 => ?_)
  exact h h4 tk4 _ (S.loc F4 (fun b o z e => (hs4.2 b z).trans e))
theorem LS.it {h h' : Heap} {I Dl : Addr} {i : Nat} (S : LS w mg mb g L h m vt vl vw vc) (it : h.IsListIter I Dl i) (gI : g.get? I = none) (k : ∀ b o, b ≠ I → h.get? b = some o → h'.get? b = some o) : LS w mg mb g L h' m vt vl vw vc := by
  obtain ⟨oi, ei, ci, di⟩ := it
  have cell : ∀ {c : Addr} {v : Option Value}, h.IsCell c v → h'.IsCell c v := by
    rintro c v ⟨o, e, d⟩
    exact ⟨o, k c o (by rintro rfl; rw [ei] at e; cases e; rw [d] at di; cases di) e, d⟩
  refine ⟨⟨S.F.ns.at' fun o e => k _ _ ?_ e, fun b o e => k b o (by rintro rfl; rw [gI] at e; cases e) (S.F.keep b o e), S.F.gL⟩, S.W, S.T.but (fun b => b = I) (fun b o z e => k b o z e) (fun a o z e => ?_), cell S.ct, cell S.cl, cell S.cw, cell S.cc, S.g35, S.g42, S.gc⟩
  · rintro rfl; obtain ⟨o', _, _, ho, hd, _⟩ := S.F.ns; rw [ho] at ei; cases ei; rw [di] at hd; cases hd
  · subst z
    rw [ei] at e; cases e
    exact .inl ⟨by rw [ci]; simp, by rw [ci]; simp⟩
theorem st_last {ly mm a z : Nat} {ul ut uz ua uw uo ur : Tok} {T ps : List Nat} {Dd : Addr} {ds : List Value} (hroom : A.depth + 5 < recursionLimit) (hh : A.handled = none) (hu : A.units + 10 < cLine) (hly : ly ≤ 2)
    (hm2 : 2 ≤ mm) (hm4 : mm ≤ 4) (hT : T.length ≤ 100) (hT256 : ∀ c ∈ T, c < 256) (haz : a + z ≤ T.length) (hz : 1 ≤ z)
    (eT : escN ly T = enc mm T) (eW : escN ly ((T.drop a).take z) = enc mm ((T.drop a).take z)) (C : Chain (enc mm T) (enc mm ((T.drop a).take z)) 0 ps)
    (S : LS w mg mb g L s.heap m (some (.str (tx T) ut)) (some (.int (ly : Int) ul)) vw vc) (n1 : m (nm "word") = some (.str (tx ((T.drop a).take z)) uw)) (n2 : m (nm "written") = some (.str (tx (enc mm T)) ur)) (n3 : m (nm "octets") = some (.bytes (octs T) uo))
    (n4 : m (nm "at") = some (.int (a : Int) ua)) (n5 : m (nm "size") = some (.int (z : Int) uz)) (n6 : m (nm "due") = some (.ref Dd))
    (hd : g.PlainList Dd ds.toArray) (ha : AnsAll g ds ((List.range ((enc mm T).length + 1)).map (dueOf ps (enc mm ((T.drop a).take z)).length)))
    (h : ∀ h' tk, Le g h' → Tb h' → Q (.ret (.bool true)) { s with heap := h', toks := tk }) :
    wpAny (model prog w) A (execs [sx 15, sx 16] (lawEnv L fa cd)) Q E s := by
  have hlT : (enc mm T).length ≤ 1000 := by
    have h1 := escN_len T ly
    rw [eT] at h1
    have hp : 2 ^ ly ≤ 2 ^ 2 := Nat.pow_le_pow_right (by decide) hly
    have hp2 : 2 ^ ly * T.length ≤ 2 ^ 2 * 100 := Nat.mul_le_mul hp hT
    omega
  have eT256 : ∀ c ∈ enc mm T, c < 256 := by rw [← eT]; exact escN_lt hT256 ly
  have hTne : T ≠ [] := by rintro rfl; simp at haz; omega
  have hWlen : ((T.drop a).take z).length = z := by rw [List.length_take, List.length_drop]; omega
  have hWne : (T.drop a).take z ≠ [] := by intro q; rw [q] at hWlen; simp at hWlen; omega
  have hW256 : ∀ c ∈ (T.drop a).take z, c < 256 := fun c hc => hT256 c (List.mem_of_mem_drop (List.mem_of_mem_take hc))
  refine wpAny_execs_cons ?_
  have Fa := S.F
  show wpAny _ _ (exec (Stmt.For (Expr.Tuple [Expr.Name _ _, Expr.Name _ _, Expr.Name _ _] _ _) (Expr.List [_, _] _) lastBody _ _) _) _ _ _
  refine wpAny_For ?_
  refine PyProof.Rows.List_ ?_
  refine spliced_more ?_
  refine Tuple_ ?_
  repeat (walk_at "mj")
  refine n_cell S.ct ?_ (by rfl)
  repeat (walk_at "mj")
  refine new_tuple fun t0 h1 ht0 k1 ho0 => ?_
  have F1 := Fa.le k1
  refine spliced_more ?_
  refine Tuple_ ?_
  repeat (walk_at "mj")
  refine bytes_cut ?_
  repeat (walk_at "mj")
  refine ⟨T, uo, a, z, _, _, rfl, rfl, by rw [Int.natCast_add], haz, by omega, fun t' h2 tk2 k2 => ?_⟩
  have F2 := F1.le k2
  repeat (walk_at "mj")
  with_reducible refine meth_str F.slot_str_encode F.type_str_encode ?_
  repeat (walk_at "mj")
  refine call_encode (by intro c hc; exact eT256 c (by simpa using hc)) (by rw [tx_len]; omega) fun u' tk' => ?_
  repeat (walk_at "mj")
  refine new_tuple fun t1 h3 ht1 k3 ho1 => ?_
  repeat (walk_at "mj")
  refine new_list (fun Dl h4 hDl k4 hl4 => ?_)
  have S4 := (((S.le k1).le k2).le k3).le k4
  obtain ⟨g', S', kg, kl, kt⟩ := S4.grow
  have gl : g'.PlainList Dl [Value.ref t0, Value.ref t1].toArray := kl _ _ hl4
  have g0 := kt _ _ (k4 _ _ (k3 _ _ (k2 _ _ ho0)))
  have g1 := kt _ _ (k4 _ _ ho1)
  have gd : g'.PlainList Dd ds.toArray := hd.at fun o e => kg _ _ e
  have ga := ha.kept (TupKept.le kg)
  refine wpAny_pyIter_list hl4.isList ?_
  generalize hh5 : h4.push { cls := .type "list_iterator", data := .fields #[.ref Dl, .int 0 0] } = h5
  have k5 : Le h4 h5 := by rw [← hh5]; exact le_push _ _
  have hI4 : h4.get? h4.objs.size = none := none_at_size _
  have hit : h5.IsListIter h4.objs.size Dl 0 := by rw [← hh5]; exact ⟨_, Heap.get?_push_size _ rfl, rfl, rfl⟩
  generalize h4.objs.size = I at hI4 hit
  have gI : g'.get? I = none := none_of_le S'.F.keep hI4
  have S5 := S'.le k5
  have hDlI : Dl ≠ I := by rintro rfl; obtain ⟨n, e⟩ := hl4; rw [hI4] at e; cases e
  have Wk := Walks.list (prog := prog) (w := w) hh I Dl hDlI [Value.ref t0, Value.ref t1].toArray
  refine codeAny_forLoop_any
    (fun k s' => ∃ h' tk m' i, s' = { s with heap := h', toks := tk } ∧ LS w mg mb g' L h' m' (some (.str (tx T) ut)) (some (.int (ly : Int) ul)) vw vc ∧ h'.IsListIter I Dl i ∧ m' (nm "due") = some (.ref Dd) ∧ i ≤ 2 ∧ k = 3 - i) ?_ 3
    ⟨h5, _, m, 0, rfl, S5, hit, n6, by omega, rfl⟩
  rintro k s' ⟨h6, tk6, m6, i, rfl, S6, it6, d6, hi, rfl⟩
  have ls6 : h6.IsList Dl [Value.ref t0, Value.ref t1].toArray := gl.isList.at fun o e => S6.F.keep _ _ e
  by_cases hlt : i < 2
  · refine Wk.item i _ _ _ hlt ⟨it6, ls6⟩ fun v h7 tk7 hP st7 hk7 => ?_
    have S7 := S6.it it6 gI (fun b o hb e => hk7 b o (by simpa using hb) e)
    have hta : ∃ ta b x1 x2 x3, v = Value.ref ta ∧ g'.get? ta = some (tupO #[V b T x1, V b ((T.drop a).take z) x2, V b (enc mm T) x3]) := by
      have hc : i = 0 ∨ i = 1 := by omega
      rcases hc with rfl | rfl
      · have e : v = .ref t0 := by simpa using hP.symm
        exact ⟨t0, false, _, _, _, e, g0⟩
      · have e : v = .ref t1 := by simpa using hP.symm
        exact ⟨t1, true, _, _, _, e, g1⟩
    obtain ⟨ta, b, x1, x2, x3, rfl, hta⟩ := hta
    refine wpAny_letOwnedTupleGo_listiter st7.1 ?_
    refine assign3 S7.F hh (S7.F.keep _ _ hta) (fun h8 tk8 F8 hk8 => ?_)
    have S8 := S7.loc F8 hk8
    have it8 : h8.IsListIter I Dl (i + 1) := let ⟨o, e, r⟩ := st7.1; ⟨o, hk8 _ _ (by
      intro q
      have q' : I = L := q
      obtain ⟨o', _, _, ho, hd, _⟩ := S7.F.ns
      rw [← q', e] at ho; cases ho; rw [r.2] at hd; cases hd) e, r⟩
    refine fin_turn (b := b) (ps := ps) hroom hh hu hly hm2 hT hTne hT256 (by omega) hWne hW256 eT eW C S8 (by walk_at "get") (by walk_at "get") (by walk_at "get") (by walk_at "get") gd ga fun h9 tk9 k9 S9 => ?_
    refine ⟨3 - (i + 1), by omega, h9, _, _, i + 1, rfl, S9, ?_, ?_, by omega, rfl⟩
    · obtain ⟨o, e, r⟩ := it8
      exact ⟨o, S8.T.get k9 e (.inl (by rw [r.1]; simp)), r⟩
    · walk_at "get"
  · have hin : i = 2 := by omega
    subst hin
    refine Wk.done _ _ _ ⟨it6, ls6⟩ fun h7 tk7 hk7 => wpAny_execs_nil ?_
    have S7 := S6.it it6 gI (fun b o hb e => hk7 b o (by simpa using hb) e)
    show wpAny _ _ (execs [Stmt.Return (some (Expr.Constant _ _ _)) _] _) _ _ _
    repeat (walk_at "mj")
    exact h h7 _ (kg.trans S7.F.keep) S7.T
end

/-! the law's body -/
theorem body_eq : fdBody (stOf 12) = [sx 0, sx 1, sx 2, sx 3, sx 4, sx 5, sx 6, sx 7, sx 8, sx 9, sx 10, sx 11, sx 12, sx 13, sx 14, sx 15, sx 16] := by kernel_rfl
theorem escN_enc {ly : Nat} (h : ly = 1 ∨ ly = 2) (T : List Nat) : escN ly T = enc (2 ^ ly) T := by
  rcases h with rfl | rfl
  · exact escN_one T
  · exact escN_two T
theorem sum_off {mm : Nat} (hm : 2 ≤ mm) (T : List Nat) (k : Nat) : ((T.map fun c => ((wd mm c : Nat) : Int)).take k).sum = ((off mm T k : Nat) : Int) := by
  rw [← off_sum hm]
  have e : (T.map fun c => ((wd mm c : Nat) : Int)) = (T.map (wd mm)).map (fun n : Nat => (n : Int)) := by rw [List.map_map]; rfl
  rw [e, ← List.map_take]
  induction (T.map (wd mm)).take k with
  | nil => rfl
  | cons c l ih => rw [List.map_cons, List.sum_cons, List.sum_cons, ih, Int.natCast_add]
theorem law_body {prog : Program} {w : World} {A : Around} {s : Shared} {E : Value → Shared → Prop} {Q : Flow → Shared → Prop} {mg mb : Str → Option Value} {g : Heap} {L : Nat} {fa : Addr} {cd : Value} {m : Str → Option Value} {vt vl vw vc : Option Value} {a : Addr} {vs : List Value} {ns : List Int}
    (hroom : A.depth + 5 < recursionLimit) (hh : A.handled = none) (hu : A.units + 10 < cLine)
    (S : LS w mg mb g L s.heap m vt vl vw vc) (hm : m (nm "script") = some (.ref a)) (hl : g.IsList a vs.toArray) (hi : IntsAre vs ns) (hn : ns.length ≤ 63)
    (h : ∀ h' tk, Le g h' → Tb h' → Q (.ret (.bool true)) { s with heap := h', toks := tk }) :
    wpAny (model prog w) A (execs (fdBody (stOf 12)) (lawEnv L fa cd)) Q E s := by
  rw [body_eq]
  refine st_draw S hm hl hi hn fun g1 h1 m1 tk1 D ds S1 k1 n1 l1 i1 => ?_
  generalize hD : ns.take 8 ++ [0, 0, 1, 4] = dr at i1
  have hdl : 4 ≤ dr.length ∧ dr.length ≤ 12 := by rw [← hD]; simp; omega
  refine st_text (by omega) hh S1 n1 l1 i1 (by omega) fun h2 tk2 ut S2 => ?_
  refine st_total hh S2 n1 l1 i1 fun h3 m3 tk3 u3 S3 n3 => ?_
  generalize hN : dr.sum.natAbs = N at n3
  generalize hT : dr.map codeOf = T at S2 S3
  have hTl : T.length = dr.length := by rw [← hT, List.length_map]
  have hT256 : ∀ c ∈ T, c < 256 := by
    rw [← hT]; intro c hc; rw [List.mem_map] at hc; obtain ⟨x, _, rfl⟩ := hc; exact codeOf_lt x
  refine st_layers S3 n3 fun h4 tk4 u4 S4 => ?_
  have hly : 1 + N % 2 = 1 ∨ 1 + N % 2 = 2 := by omega
  generalize 1 + N % 2 = ly at S4 hly
  refine st_size S4 n3 fun h5 m5 tk5 u5 u5' S5 n5 n5' => ?_
  have hz : 1 ≤ 1 + N / 2 % 3 ∧ 1 + N / 2 % 3 ≤ 3 := by omega
  generalize 1 + N / 2 % 3 = z at n5 hz
  refine st_at S5 n5' n5 (by omega) (by omega) fun h6 m6 tk6 u6 u6' S6 n6 n6' => ?_
  have haz : N / 6 % (T.length - z + 1) + z ≤ T.length := by
    have := Nat.mod_lt (N / 6) (show 0 < T.length - z + 1 by omega)
    omega
  generalize N / 6 % (T.length - z + 1) = at_ at n6' haz
  refine st_word S6 n6 n6' (by omega) (by omega) fun h7 m7 tk7 u7 u7' u7'' S7 n7 n7' n7'' => ?_
  have hmm2 : 2 ≤ 2 ^ ly := by rcases hly with rfl | rfl <;> decide
  have hmm4 : 2 ^ ly ≤ 4 := by rcases hly with rfl | rfl <;> decide
  refine st_widths (by omega) hh S7 (by omega) (by omega) fun g8 h8 tk8 Dw ws S8 k8 l8 i8 => ?_
  refine st_places hh S8 l8 i8 (by omega) (by rw [List.length_map]; omega) fun g9 h9 tk9 Dp pv S9 k9 l9 i9 => ?_
  have l8' : g9.PlainList Dw ws.toArray := l8.at fun o e => k9 _ _ e
  have i9' : IntsAre pv ((List.range (T.length + 1)).map fun k => ((off (2 ^ ly) T k : Nat) : Int)) := by
    have e : (fun k => ((T.map fun c => ((wd (2 ^ ly) c : Nat) : Int)).take k).sum) = fun k => ((off (2 ^ ly) T k : Nat) : Int) := by funext k; exact sum_off hmm2 T k
    rw [← e]; exact i9
  refine st_written hmm2 hmm4 hh S9 l8' i8 (by omega) fun h10 tk10 u10 S10 => ?_
  generalize hW : (T.drop at_).take z = W at n7''
  have hWl : W.length = z := by rw [← hW, List.length_take, List.length_drop]; omega
  have hWne : W ≠ [] := by rintro rfl; simp at hWl; omega
  refine st_spans (W := W) (z := z) hmm2 hh hu S10 (by walk_at "get") (by walk_at "get") (by walk_at "get") l9 i9' (by omega) hWne hWl fun g11 h11 m11 tk11 Ds ss ks S11 k11 f11 n11 l11 a11 up => ?_
  have l9' : g11.PlainList Dp pv.toArray := l9.at fun o e => k11 _ _ e
  obtain ⟨C, hdue⟩ := up.whole hWne hmm2
  have hoff : off (2 ^ ly) T T.length = (enc (2 ^ ly) T).length := off_all _ _
  have hlen : (enc (2 ^ ly) T).length ≤ 10000 := by
    have h1 := escN_len T ly
    rw [escN_enc hly] at h1
    have hp2 : 2 ^ ly * T.length ≤ 4 * 100 := Nat.mul_le_mul hmm4 (by omega)
    omega
  refine st_due (N := (enc (2 ^ ly) T).length) (sp := ks.map (spanOf (2 ^ ly) T z)) hh hu S11 ((f11 _ (by decide) (by decide)).trans (by walk_at "get")) l9' i9' ?_ hlen n11 l11 (by rw [List.map_map]; exact a11) ?_ fun g12 h12 m12 tk12 Dd ds' vv S12 k12 f12 n12 l12 a12 => ?_
  · rw [List.range_succ, List.map_append, List.map_cons, List.map_nil, List.getLast?_concat, hoff]
  · rw [List.length_map]
    have h1 := a11.length
    have hb := up.len hWne
    omega
  refine st_octets S12 (by omega) hT256 fun h13 tk13 u13 S13 => ?_
  have a12' : AnsAll g12 ds' ((List.range ((enc (2 ^ ly) T).length + 1)).map (dueOf (ks.map (off (2 ^ ly) T)) (enc (2 ^ ly) W).length)) := by
    have e : (fun col => ((ks.map (spanOf (2 ^ ly) T z)).filter fun s => decide (s.2 ≤ col)).getLast?) = dueOf (ks.map (off (2 ^ ly) T)) (enc (2 ^ ly) W).length := by
      funext col; rw [← hdue col, hWl]
    rw [← e]; exact a12
  have nm12 : ∀ x, x ≠ nm "due" → x ≠ nm "ended" → x ≠ nm "spans" → x ≠ nm "k" → m12 x = (fun y => if y = nm "written" then some (.str (tx (enc (2 ^ ly) T)) u10) else if y = nm "places" then some (.ref Dp) else m7 y) x := fun x q1 q2 q3 q4 => (f12 x q1 q2).trans (f11 x q3 q4)
  subst hW
  have w1 : m12 (nm "word") = some (.str (tx ((T.drop at_).take z)) u7'') := (nm12 _ (by decide) (by decide) (by decide) (by decide)).trans (by walk_at "get")
  have w2 : m12 (nm "written") = some (.str (tx (enc (2 ^ ly) T)) u10) := (nm12 _ (by decide) (by decide) (by decide) (by decide)).trans (by walk_at "get")
  have w3 : m12 (nm "at") = some (.int (at_ : Int) u7') := (nm12 _ (by decide) (by decide) (by decide) (by decide)).trans (by walk_at "get")
  have w4 : m12 (nm "size") = some (.int (z : Int) u7) := (nm12 _ (by decide) (by decide) (by decide) (by decide)).trans (by walk_at "get")
  refine st_last (ps := ks.map (off (2 ^ ly) T)) hroom hh hu (by omega) hmm2 hmm4 (by omega) hT256 haz hz.1 (escN_enc hly T) (escN_enc hly _) C S13 (by walk_at "get") (by walk_at "get") (by walk_at "get") (by walk_at "get") (by walk_at "get") (by walk_at "get") l12 a12' fun h' tk k T' => ?_
  exact h h' tk (((((k1.trans k8).trans k9).trans k11).trans k12).trans k) T'

/-! the start and the end -/
theorem start {w : World} {mg mb : Str → Option Value} {p : Program} {loose : List Str} {mean : ExcName → Option Value} {g h : Heap} {L : Nat} {m : Str → Option Value} {o4 o3 o2 o1 : Obj} (F : Fr g L h m)
    (N : News g L h [(L + 1 + 1 + 1 + 1, o4), (L + 1 + 1 + 1, o3), (L + 1 + 1, o2), (L + 1, o1), (35, tabObj #[]), (42, tabObj #[])]) (T : Top p loose mean mg mb g) (X : (KF w.params).In g) (D1 : CodeHd g 39 35) (D2 : CodeHd g 46 42)
    (c4 : ∃ v, o4.data = .cell v) (c3 : ∃ v, o3.data = .cell v) (c2 : ∃ v, o2.data = .cell v) (c1 : ∃ v, o1.data = .cell v) : ∃ vt vl vw vc, LS w mg mb g L h m vt vl vw vc := by
  obtain ⟨v4, c4⟩ := c4
  obtain ⟨v3, c3⟩ := c3
  obtain ⟨v2, c2⟩ := c2
  obtain ⟨v1, c1⟩ := c1
  have n4 := N (L + 1 + 1 + 1 + 1, o4) (by simp)
  have n3 := N (L + 1 + 1 + 1, o3) (by simp)
  have n2 := N (L + 1 + 1, o2) (by simp)
  have n1 := N (L + 1, o1) (by simp)
  have na := N (35, tabObj #[]) (by simp)
  have nb := N (42, tabObj #[]) (by simp)
  refine ⟨v1, v2, v3, v4, ⟨F.ns, F.keep, Heap.get?_none_of_le F.above⟩, ⟨X, T.g, T.b, T.builtins, T.nolimit, T.bmain⟩, ⟨⟨#[], na.1, trivial, fun p _ cv e => by cases e⟩, ⟨#[], nb.1, trivial, fun p _ cv e => by cases e⟩, D1.keeps F.keep, D2.keeps F.keep⟩,
    ⟨_, n1.1, c1⟩, ⟨_, n2.1, c2⟩, ⟨_, n3.1, c3⟩, ⟨_, n4.1, c4⟩, na.2.2, nb.2.2, fun c h1 h2 => ?_⟩
  have hc : c = L + 1 ∨ c = L + 1 + 1 ∨ c = L + 1 + 1 + 1 ∨ c = L + 1 + 1 + 1 + 1 := by omega
  rcases hc with rfl | rfl | rfl | rfl
  · exact n1.2.2
  · exact n2.2.2
  · exact n3.2.2
  · exact n4.2.2

end Mine
theorem PySem.Challenge.cw_mj0047_01_holds : PySem.Challenge.rw_mj0047_01.Holds := by
  refine Mine.hd ?_
  k_go0
  rename News _ _ _ _ => N1
  rename Fr _ _ _ _ => F1
  rename Top _ _ _ _ _ _ => T1
  rename CodeHd _ 46 42 => D2
  rename CodeHd _ 39 35 => D1
  rename Frag.In _ _ => X1
  rename Heap.IsList _ _ _ => L1
  rename IntsAre _ _ => I1
  rename ¬ _ => B1
  rename Shared.gens _ = #[] => G1
  obtain ⟨vt, vl, vw, vc, S⟩ := Mine.start F1 N1 T1 X1 D1 D2 ⟨_, by assumption⟩ ⟨_, by assumption⟩ ⟨_, by assumption⟩ ⟨_, by assumption⟩
  refine Mine.law_body (by show callerA.depth + 1 + 5 < recursionLimit; decide) rfl (by show callerA.units + 3 + 10 < cLine; decide) S (by rfl) L1 I1 (by omega) fun h' tk k T' => ?_
  refine ⟨⟨.inl ⟨.bool true, .bool true, [], rfl, fun _ => rfl, .bool true, ?_, ?_⟩, k, rfl, G1⟩, ?_⟩
  · first
      | exact postW_of (by rfl) (by rfl) rfl
      | wrow_post
  · exact unshared_nil
  · obtain ⟨ps, e, _⟩ := T'.a
    obtain ⟨ps', e', _⟩ := T'.b
    exact ⟨⟨ps, e⟩, ⟨ps', e'⟩, trivial⟩
