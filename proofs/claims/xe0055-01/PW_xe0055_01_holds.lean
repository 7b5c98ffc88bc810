import PyProof.Rows.All
import Wide.All
import OpenK.AllK
import Wide.FinOn
import PySem.Challenge.RW_xe0055_01
set_option Elab.async false
set_option maxRecDepth 100000

namespace Mine
open PySem PySem.W PyProof.Rows PySem.Calls

/-- the n-th statement of the text's top -/
def stN (n : Nat) : Stmt := PySem.Challenge.pw_xe0055_01.main.body.getD n (.Pass ⟨0, 0, 0, 0⟩)
def fBody : Stmt → List Stmt
  | .FunctionDef _ _ b _ _ _ _ _ _ _ => b
  | _ => []
def fArgs : Stmt → Arguments
  | .FunctionDef _ a _ _ _ _ _ _ _ _ => a
  | _ => { posonlyargs := [], args := [], vararg := none, kwonlyargs := [], kw_defaults := [], kwarg := none, defaults := [] }
def fScope : Stmt → Scope
  | .FunctionDef _ _ _ _ _ _ s _ _ _ => s
  | _ => { kind := .function, names := [], isGenerator := false, isCoroutine := false, more := [] }

/-- old objects stand: keeps -/
abbrev Kp (h h' : Heap) : Prop := ∀ b o, h.get? b = some o → h'.get? b = some o

/-- a frame L with map m in the heap h, over a ghost heap hb of objects that the frame's own stores do not touch -/
structure Fm (hb : Heap) (L : Addr) (m : Str → Option Value) (h : Heap) : Prop where
  ns : h.Ns L m
  keep : Kp hb h
  off : hb.get? L = none

section
variable {hb h h' : Heap} {L : Addr} {m m' : Str → Option Value}
theorem Fm.kp (F : Fm hb L m h) (hk : Kp h h') : Fm hb L m h' := ⟨F.ns.keeps hk, fun b o e => hk b o (F.keep b o e), F.off⟩
theorem Fm.rb (F : Fm hb L m h) : Fm (h.hide L) L m h := ⟨F.ns, fun _ _ e => Heap.of_hide e, Heap.hide_self ..⟩
theorem Fm.up (F : Fm hb L m h) : Kp hb (h.hide L) := fun b o e => (Heap.hide_ne h fun (q : b = L) => by rw [q, F.off] at e; cases e).trans (F.keep b o e)
theorem Fm.set (F : Fm hb L m h) (hn : h'.Ns L m') (hs : Heap.SameBut L h h') : Fm hb L m' h' :=
  ⟨hn, fun b o e => (hs.2 b fun q => by rw [q, F.off] at e; cases e).trans (F.keep b o e), F.off⟩
end

section
variable {M : Model} {A : Around} {E : Value → Shared → Prop} {s : Shared} {q : Str} {scope : Scope} {L a : Addr} {cd : Value} {hb hh : Heap} {m : Str → Option Value}

theorem Fm.ld {x : Str} {pos : Pos} {v : Value} {Q : Value → Shared → Prop} (F : Fm hb L m hh) (hv : m x = some v) (h : Q v s) (hs : s.heap = hh := by rfl)
    (hk : scope.kind = .function := by rfl) (hl : (envOf q scope L a cd).kindOf x = some .local := by rfl) (hd : (x == ("__debug__" : Str)) = false := by decide) :
    wpAny M A (eval (.Name x pos) (envOf q scope L a cd)) Q E s := by
  subst hs; exact wpAny_Name (wpAny_loadName_local hk hl F.ns hv h) hd
theorem Fm.ldn {x : Str} {v : Value} {Q : Value → Shared → Prop} (F : Fm hb L m hh) (hv : m x = some v) (h : Q v s) (hs : s.heap = hh := by rfl)
    (hk : scope.kind = .function := by rfl) (hl : (envOf q scope L a cd).kindOf x = some .local := by rfl) :
    wpAny M A (loadName (envOf q scope L a cd) x) Q E s := by
  subst hs; exact wpAny_loadName_local hk hl F.ns hv h
theorem Fm.st {x : Str} {v : Value} {Q : Unit → Shared → Prop} (F : Fm hb L m hh)
    (h : ∀ h', Fm hb L (fun y => if y = x then some v else m y) h' → Heap.SameBut L hh h' → Q () { s with heap := h', toks := s.toks + 1 }) (hs : s.heap = hh := by rfl)
    (hk : scope.kind = .function := by rfl) (hl : (envOf q scope L a cd).kindOf x = some .local := by rfl) :
    wpAny M A (storeName (envOf q scope L a cd) x v) Q E s := by
  subst hs; exact wpAny_storeName_local hl F.ns (fun h' hn hs => h h' (F.set hn hs) hs) (by show (scope.kind == .class || (scope.kind == .module && L != mainGlobals)) = false; rw [hk]; rfl)
theorem nameG {env : Env} {mg : Str → Option Value} {x : Str} {pos : Pos} {v : Value} {Q : Value → Shared → Prop} (hg : hh.Ns mainGlobals mg) (hv : mg x = some v) (h : Q v s) (hs : s.heap = hh := by rfl)
    (hk : env.scope.kind = .function := by rfl) (hl : env.kindOf x = some .globalImplicit := by rfl) (hd : (x == ("__debug__" : Str)) = false := by decide) (hge : env.globals = mainGlobals := by rfl) :
    wpAny M A (eval (.Name x pos) env) Q E s := by
  subst hs; exact Name_function_global hk hl (loadGlobal_global (by rw [hge]; exact hg) hv h) hd
theorem nameB {env : Env} {mg mb : Str → Option Value} {x : Str} {pos : Pos} {v : Value} {Q : Value → Shared → Prop} (hg : hh.Ns mainGlobals mg) (hm : mg x = none) (hb : hh.Ns builtinsNs mb) (hv : mb x = some v) (h : Q v s) (hs : s.heap = hh := by rfl)
    (hk : env.scope.kind = .function := by rfl) (hl : env.kindOf x = some .globalImplicit := by rfl) (hd : (x == ("__debug__" : Str)) = false := by decide) (hge : env.globals = mainGlobals := by rfl) (hbe : env.builtins = builtinsNs := by rfl) :
    wpAny M A (eval (.Name x pos) env) Q E s := by
  subst hs; exact Name_function_global hk hl (loadGlobal_builtin (by rw [hge]; exact hg) hm (by rw [hbe]; exact hb) hv h) hd
/-- a local name of any frame -/
theorem ldE {env : Env} {x : Str} {pos : Pos} {v : Value} {Q : Value → Shared → Prop} (hn : hh.Ns env.locals m) (hv : m x = some v) (h : Q v s) (hs : s.heap = hh := by rfl)
    (hk : env.scope.kind = .function := by rfl) (hl : env.kindOf x = some .local := by rfl) (hd : (x == ("__debug__" : Str)) = false := by decide) :
    wpAny M A (eval (.Name x pos) env) Q E s := by
  subst hs; exact wpAny_Name (wpAny_loadName_local hk hl hn hv h) hd
/-- a name that stands in a cell -/
theorem ldC {env : Env} {x : Str} {pos : Pos} {c : Addr} {v : Value} {Q : Value → Shared → Prop} (hc : env.cells.lookup x = some c) (hv : hh.IsCell c (some v)) (h : Q v s) (hs : s.heap = hh := by rfl)
    (hk : env.scope.kind = .function := by rfl) (hl : env.kindOf x = some .cell := by rfl) (hd : (x == ("__debug__" : Str)) = false := by decide) :
    wpAny M A (eval (.Name x pos) env) Q E s := by
  subst hs; exact wpAny_Name (wpAny_loadName_cell hk hl hc hv h) hd
end

theorem call_fn {prog : Program} {w : World} {A : Around} {E : Value → Shared → Prop} {s : Shared} {a : Addr} {oc : Value} {od : Option Addr} {osl : Array (Option Value)} {name qual : Str} {params : Arguments} {body : List Stmt} {scope : Scope}
    {dV kV doc pm cdv ct : Value} {an : Option Addr} {vals : List Value} {binds : List (Str × Value)} {Q : Value → Shared → Prop}
    (hroom : A.depth < recursionLimit) (ho : s.heap.get? a = some ⟨oc, od, .func (fnOf name qual params body scope dV kV doc pm an cdv ct), osl⟩) (hlim : s.heap.NoLimit) (hcd : s.heap.CodeRec cdv qual)
    (hbind : bindArgs (fnOf name qual params body scope dV kV doc pm an cdv ct) ⟨vals, []⟩ = pure binds)
    (h : ∀ h₁, Fm s.heap s.heap.objs.size (fun x => binds.reverse.lookup x) h₁ →
      wpAny (model prog w) (A.deeper (envOf qual scope s.heap.objs.size a cdv)) (execs body (envOf qual scope s.heap.objs.size a cdv)) (fun f s' => Q (match f with | .ret v => v | _ => .none) s') (fun _ _ => False)
        { s with heap := h₁, toks := s.toks + binds.length })
    (hcell : ∀ x ∈ scope.names, x.2 ≠ .cell := by decide) (hloc : ∀ x ∈ binds, scope.names.lookup x.1 = some .local := by exact locs (by rfl))
    (hco : scope.isCoroutine = false := by rfl) (hgen : scope.isGenerator = false := by rfl) (hk : scope.kind = .function := by rfl) :
    wpAny (model prog w) A (call (.ref a) vals) Q E s := by
  refine wpAny_call (codeAny_call_function hroom ho rfl hco hgen rfl hcd ?_)
  rw [hbind]
  refine wpAny_pure (wpAny_newFunctionEnv hcell hloc (fun h₁ hns hsb => ⟨hlim.fresh _ hsb, ?_⟩) hk)
  show codeAny _ _ (.func body (envOf qual scope s.heap.objs.size a cdv)) _ _
  refine codeAny_func (wpAny_mono (h h₁ ⟨hns, fun b o e => hsb.extBut b o (Nat.ne_of_lt (Heap.lt_size e)) (Heap.get?_push_of_some _ e), ?_⟩) (fun _ _ x => x) fun _ _ x => x.elim)
  cases e : s.heap.get? s.heap.objs.size with
  | none => rfl
  | some o => exact absurd (Heap.lt_size e) (Nat.lt_irrefl _)
end Mine

namespace Mine
open PySem PySem.W PyProof.Rows PySem.Calls

section
variable {prog : Program} {w : World} {A : Around} {E : Value → Shared → Prop} {s : Shared} {env : Env}

theorem slice_to {value e : Expr} {p pos : Pos} {Q : Value → Shared → Prop}
    (h : wpAny (model prog w) A (eval value env) (fun o s₁ => wpAny (model prog w) A (eval e env) (fun u s₂ => ∃ x t j uj, o = .str x t ∧ u = .int j uj ∧ x.length ≤ sizeLine ∧
      ∀ h' t' k, Kp s₂.heap h' → Q (.str (Txt.slice x none (some j)) t') { s₂ with heap := h', toks := k }) E s₁) E s)
    (ht : ∀ o r, letTemporaryGo value o r = pure () := by intro _ _; rfl) :
    wpAny (model prog w) A (eval (.Subscript value (.Slice none (some e) none p) pos) env) Q E s := by
  refine wpAny_Subscript_Slice (T := "str") F.slot_str_getitem.lookup (wpAny_mono h (fun o s₁ h₁ => wpAny_Slice (wpAny_evalPart_none (wpAny_evalPart_some (wpAny_mono h₁ (fun u s₂ h₂ => wpAny_evalPart_none ?_) fun _ _ e => e)))) fun _ _ e => e) ht
  obtain ⟨x, t, j, uj, rfl, rfl, hsz, hQ⟩ := h₂
  refine ⟨typeIs_str _ _ _, wpAny_getItem_str_slice (l := none) (u := some (j, uj)) (st := none) ⟨_, Heap.get?_push_size _ rfl, rfl, rfl⟩ rfl
    (post_val_or_str ⟨Nat.le_trans (Txt.slice_le x _ _) hsz, fun t' k => ?_⟩)⟩
  exact hQ _ t' k fun _ _ e => Heap.get?_push_of_some _ e
theorem slice_from {value e : Expr} {p pos : Pos} {Q : Value → Shared → Prop}
    (h : wpAny (model prog w) A (eval value env) (fun o s₁ => wpAny (model prog w) A (eval e env) (fun u s₂ => ∃ x t j uj, o = .str x t ∧ u = .int j uj ∧ x.length ≤ sizeLine ∧
      ∀ h' t' k, Kp s₂.heap h' → Q (.str (Txt.slice x (some j) none) t') { s₂ with heap := h', toks := k }) E s₁) E s)
    (ht : ∀ o r, letTemporaryGo value o r = pure () := by intro _ _; rfl) :
    wpAny (model prog w) A (eval (.Subscript value (.Slice (some e) none none p) pos) env) Q E s := by
  refine wpAny_Subscript_Slice (T := "str") F.slot_str_getitem.lookup (wpAny_mono h (fun o s₁ h₁ => wpAny_Slice (wpAny_evalPart_some (wpAny_mono h₁ (fun u s₂ h₂ => wpAny_evalPart_none (wpAny_evalPart_none ?_)) fun _ _ e => e))) fun _ _ e => e) ht
  obtain ⟨x, t, j, uj, rfl, rfl, hsz, hQ⟩ := h₂
  refine ⟨typeIs_str _ _ _, wpAny_getItem_str_slice (l := some (j, uj)) (u := none) (st := none) ⟨_, Heap.get?_push_size _ rfl, rfl, rfl⟩ rfl
    (post_val_or_str ⟨Nat.le_trans (Txt.slice_le x _ _) hsz, fun t' k => ?_⟩)⟩
  exact hQ _ t' k fun _ _ e => Heap.get?_push_of_some _ e
end

section
variable {prog : Program} {w : World} {A : Around} {E : Value → Shared → Prop} {s : Shared} {hb : Heap} {L a : Addr} {cd : Value} {mg mb : Str → Option Value}
set_option maxHeartbeats 8000000 in
theorem fmt_shorten {b : Addr} {y z : Str} {n : Int} {ty tn tz t : Tok} {Q : Value → Shared → Prop} (hb : s.heap.get? b = some { cls := .type "tuple", data := .seq #[.str y ty, .int n tn, .str z tz] })
    (hy : y.length ≤ 1000000) (hz : z.length ≤ 1000000) (h0 : 0 ≤ n) (h1 : n < 10 ^ 10) (h : ∀ t' k, Q (.str (y ++ "[" ++ Str.ofString (toString n) ++ " chars]" ++ z) t') { s with toks := k }) :
    wpAny (model prog w) A (binaryOp .Mod (.str "%s[%d chars]%s" t) (.ref b)) Q E s := by
  have N : News {} (b + 1) s.heap [(b, { cls := .type "tuple", data := .seq #[.str y ty, .int n tn, .str z tz] })] := fun p hp => by
    rw [List.mem_singleton.mp hp]
    exact ⟨hb, Nat.ne_of_lt (Nat.lt_succ_self _), rfl⟩
  refine' KPt.mod_tuple N (List.mem_singleton.mpr rfl) ?hX ?hm h
  case hX => k_dflt kpt_eq
  case hm => k_dflt kpt_run
abbrev mGet (l : List (Str × Value)) : Str → Option Value := fun y => l.reverse.lookup y

theorem callB {env : Env} {x : Str} {p pos : Pos} {e : Expr} {id : String} {Q : Value → Shared → Prop} (hf : wpAny (model prog w) A (eval (.Name x p) env) (fun f s₁ => f = .builtin id ∧ wpAny (model prog w) A (eval e env) (fun v s₂ => wpAny (model prog w) A (call (.builtin id) [v]) Q E s₂) E s₁) E s)
    (hs : starEach [e] env = [(false, eval e env)] := by rfl) : wpAny (model prog w) A (eval (.Call (.Name x p) [e] [] pos) env) Q E s :=
  Call_Name1 (wpAny_mono hf (fun _ _ ⟨e1, h⟩ => e1 ▸ PySem.callWith_builtin1 h) fun _ _ e => e) hs

theorem shorten_body {q : Str} {x : Str} {p k : Int} {tx tp tk tP : Tok} {Q : Value → Shared → Prop} (hg : hb.Ns mainGlobals mg) (hbn : hb.Ns builtinsNs mb) (hP : mg "_PLACEHOLDER_LEN" = some (.int 12 tP)) (hl0 : mg "len" = none) (hl : mb "len" = some (.builtin "len"))
    (F : Fm hb L (mGet [("s", .str x tx), ("prefixlen", .int p tp), ("suffixlen", .int k tk)]) s.heap)
    (hx : x.length ≤ 1000) (hp : 0 ≤ p) (hk : 0 ≤ k) (hpk : p + k + 12 < x.length)
    (h : ∀ h' t' tk, Kp hb h' → Q (.str (Txt.slice x none (some p) ++ "[" ++ Str.ofString (toString ((x.length : Int) - p - k)) ++ " chars]" ++ Txt.slice x (some ((x.length : Int) - k)) none) t') { s with heap := h', toks := tk }) :
    wpAny (model prog w) A (execs (fBody (stN 9)) (envOf q (fScope (stN 9)) L a cd)) (fun f s' => Q (match f with | .ret v => v | _ => .none) s') E s := by
  have hlen : ¬ (x.length : Int) ≥ 2 ^ 63 := by omega
  refine wpAny_execs_cons (wpAny_Assign_Name (wpAny_BinOp (wpAny_BinOp (callB (nameB (hg.keeps F.keep) hl0 (hbn.keeps F.keep) hl ⟨rfl, ?_⟩)))))
  refine F.ld rfl (len_str hlen ?_)
  refine F.ld rfl (sub_int ?_)
  refine F.ld rfl (sub_int ?_)
  refine F.st fun h₁ F₁ _ => ?_
  refine wpAny_execs_cons (wpAny_If (wpAny_isTrue_Compare1 (F₁.ld rfl (nameG (hg.keeps F₁.keep) hP (gt_int (wpAny_truthy_bool ?_))))))
  rw [if_pos (by simpa using (by omega : 12 < (x.length : Int) - p - k))]
  refine wpAny_execs_cons (wpAny_Assign_Name (wpAny_BinOp ?_))
  refine Constant_str ?_
  refine Tuple_ (args_cons ?_)
  refine slice_to (F₁.ld rfl (F₁.ld rfl ⟨_, _, _, _, rfl, rfl, by rw [sizeLine_eq]; omega, fun h₂ t₂ k₂ K₂ => ?_⟩))
  have F₂ := F₁.kp K₂
  refine args_cons (F₂.ld rfl ?_)
  refine args_cons ?_
  refine slice_from (F₂.ld rfl (wpAny_BinOp (callB (nameB (hg.keeps F₂.keep) hl0 (hbn.keeps F₂.keep) hl ⟨rfl, F₂.ld rfl (len_str hlen (F₂.ld rfl (sub_int ?_)))⟩))))
  refine ⟨_, _, _, _, rfl, rfl, by rw [sizeLine_eq]; omega, fun h₃ t₃ k₃ K₃ => ?_⟩
  have F₃ := F₂.kp K₃
  refine args_nil (wpAny_newTuple ?_)
  have hsl1 := Txt.slice_le x none (some p)
  have hsl2 := Txt.slice_le x (some ((x.length : Int) - k)) none
  refine fmt_shorten (Heap.get?_push_size _ rfl) (by omega) (by omega) (by omega) (by omega) fun t₄ k₄ => ?_
  dsimp only
  have F₄ := F₃.kp (h' := h₃.push { cls := .type "tuple", data := .seq [Value.str (Txt.slice x none (some p)) t₂, Value.int ((x.length : Int) - p - k) (s.toks + 1 + 1 + 1), .str (Txt.slice x (some ((x.length : Int) - k)) none) t₃].toArray }) fun _ _ e => Heap.get?_push_of_some _ e
  refine F₄.st fun h₅ F₅ _ => ?_
  refine wpAny_execs_nil ?_
  refine wpAny_execs_cons (wpAny_Return_some (F₅.ld rfl ?_))
  exact h h₅ _ _ F₅.keep
end
end Mine

namespace Mine
open PySem PySem.W PyProof.Rows PySem.Calls

abbrev NO : Value → Shared → Prop := fun _ _ => False
/-- the tests of a comprehension's clause -/
abbrev tests (ifs : List Expr) (env : Env) : Sem Bool :=
  forIn ifs true fun c r => if r = true then do let ok ← isTrue c env (eval c env); pure (ForInStep.yield ok) else pure (ForInStep.yield r)

section
variable {prog : Program} {w : World} {A : Around} {R : Result → Shared → Prop} {E : Value → Shared → Prop} {s : Shared}
theorem no_mono {α : Type} {t : Sem α} {Q : α → Shared → Prop} (h : wpAny (model prog w) A t Q NO s) : wpAny (model prog w) A t Q E s := wpAny_mono h (fun _ _ x => x) fun _ _ x => x.elim

/-- a turn of a for loop or of a comprehension up to the bound target -/
def Bound (prog : Program) (w : World) (A : Around) (target : Expr) (it : Value) (env : Env) (Q : Shared → Prop) (s : Shared) : Prop :=
  wpAny (model prog w) A (pyNext it) (fun r s₁ => ∃ v, r = some v ∧ wpAny (model prog w) A (letOwnedTupleGo target it v) (fun _ s₂ => wpAny (model prog w) A (assign target env v) (fun _ s₃ => Q s₃) NO s₂) NO s₁) NO s
def Ended (prog : Program) (w : World) (A : Around) (it : Value) (Q : Shared → Prop) (s : Shared) : Prop :=
  wpAny (model prog w) A (pyNext it) (fun r s₁ => r = none ∧ Q s₁) NO s

theorem codeAny_lc {elt target iter : Expr} {ifs : List Expr} {scope : Scope} {pos : Pos} {it acc : Value} {env : Env} (I : Nat → Shared → Prop)
    (turn : ∀ n s, I n s → Ended prog w A it (fun s₁ => R (.ok .next) s₁) s ∨
      Bound prog w A target it env (fun s₂ => wpAny (model prog w) A (tests ifs env) (fun ok s₃ =>
            if ok = true then wpAny (model prog w) A (eval elt env) (fun x s₄ => wpAny (model prog w) A (call (.builtin "list.append") [acc, x]) (fun _ s₅ => ∃ m, m < n ∧ I m s₅) NO s₄) NO s₃
            else ∃ m, m < n ∧ I m s₃) NO s₂) s)
    (n : Nat) (h : I n s) : codeAny (model prog w) A (.compLoop (.ListComp elt [⟨target, iter, ifs, 0⟩] scope pos) 0 it acc env) R s := by
  refine codeAny_loop rfl I (fun n s hI => ?_) n h
  show wpAny _ A ((compTurn (.ListComp elt [⟨target, iter, ifs, 0⟩] scope pos) 0 it acc env).onRaise (fun x => do noteFrame x env; theTreesLotGoes x)) _ _ s
  refine wpAny_noted ?_
  rw [compTurn_list]
  refine wpAny_bind (wpAny_standAt (wpAny_bind ?_))
  rcases turn n s hI with h₁ | h₁
  · refine no_mono (wpAny_mono h₁ (fun r s₁ h₁ => ?_) fun _ _ x => False.elim x)
    obtain ⟨rfl, h₁⟩ := h₁
    exact wpAny_pure h₁
  · refine no_mono (wpAny_mono h₁ (fun r s₁ h₁ => ?_) fun _ _ x => False.elim x)
    obtain ⟨v, rfl, h₁⟩ := h₁
    refine wpAny_bind (wpAny_mono h₁ (fun _ s₁' h₁' => wpAny_bind (wpAny_mono h₁' (fun _ s₂ h₂ => wpAny_bind (wpAny_mono h₂ (fun ok s₃ h₃ => ?_) fun _ _ x => False.elim x)) fun _ _ x => False.elim x)) fun _ _ x => False.elim x)
    cases ok with
    | false => exact wpAny_pure ⟨rfl, h₃⟩
    | true =>
      exact wpAny_bind (wpAny_bind (wpAny_mono h₃ (fun x s₄ h₄ => wpAny_bind (wpAny_mono h₄ (fun _ s₅ h₅ => wpAny_pure (wpAny_pure ⟨rfl, h₅⟩)) fun _ _ x => False.elim x)) fun _ _ x => False.elim x))

theorem codeAny_for {target : Expr} {it : Value} {body orelse : List Stmt} {env : Env} (I : Nat → Shared → Prop)
    (turn : ∀ n s, I n s → Ended prog w A it (fun s₁ => wpAny (model prog w) A (execs orelse env) (fun f s₃ => R (.ok f) s₃) NO s₁) s ∨
      Bound prog w A target it env (fun s₂ => wpAny (model prog w) A (execs body env) (fun f s₃ => match f with
            | .next | .cont => ∃ m, m < n ∧ I m s₃
            | .brk => R (.ok .next) s₃
            | .ret v => R (.ok (.ret v)) s₃) NO s₂) s)
    (n : Nat) (h : I n s) : codeAny (model prog w) A (.forLoop target it body orelse env) R s := by
  refine codeAny_forLoop_any I (fun n s hI => ?_) n h
  rcases turn n s hI with h₁ | h₁
  · refine no_mono (wpAny_mono h₁ (fun r s₁ h₁ => ?_) fun _ _ x => x)
    obtain ⟨rfl, h₁⟩ := h₁
    exact no_mono h₁
  · refine no_mono (wpAny_mono h₁ (fun r s₁ h₁ => ?_) fun _ _ x => x)
    obtain ⟨v, rfl, h₁⟩ := h₁
    exact no_mono (wpAny_mono h₁ (fun _ _ h₁ => no_mono (wpAny_mono h₁ (fun _ _ h₁ => no_mono h₁) fun _ _ x => False.elim x)) fun _ _ x => False.elim x)
end

/-- the frame of a comprehension in env, over the cells cl -/
abbrev cEnv (scope : Scope) (cl : List (Str × Addr)) (C : Addr) (env : Env) : Env := compEnvC scope cl C env

section
variable {prog : Program} {w : World} {A : Around} {E : Value → Shared → Prop} {env : Env}

abbrev listOb (xs : Array Value) : Obj := { cls := .type "list", dict := none, data := .seq xs }
abbrev dictOb : Obj := { cls := .type "dict", data := .dict #[] }

theorem newFunctionEnv_at {M : Model} {A : Around} {E : Value → Shared → Prop} {s : Shared} {scope : Scope} {globals : Addr} {cl : List (Str × Addr)} {qual : Str} {func : Option Addr} {code : Value} {outer : Env} {builtins : Addr} {Q : Env → Shared → Prop}
    (hQ : Q { scope, locals := s.heap.objs.size, globals, cells := cellsFrom (s.heap.objs.size + 1) scope.names cl, qual, func, code := outer.code, frame := outer.frame, builtins := outer.builtins } { s with heap := pushCells (s.heap.push dictOb) scope.names }) :
    wpAny M A (newFunctionEnv scope globals cl [] qual func code (some outer) builtins) Q E s := by
  simp only [newFunctionEnv, Option.isSome_some, if_true]
  refine wpAny_bind (wpAny_alloc ?_)
  refine wpAny_bind (wpAny_layCells _ (fun name kind cells => by cases hkc : kind == NameKind.cell <;> simp [hkc]) _ _ _ _ ?_)
  rw [show ({ s with heap := s.heap.push dictOb } : Shared).heap.objs.size = s.heap.objs.size + 1 from Heap.size_push ..]
  refine wpAny_bind ?_
  simp only [List.forIn_nil]
  exact wpAny_pure (wpAny_pure hQ)

/-- a list comprehension of one clause: its loop is walked by an invariant that names the accumulator D and the frame C -/
theorem comp_run {s : Shared} {elt target iter : Expr} {ifs : List Expr} {scope : Scope} {cl : List (Str × Addr)} {pos cpos : Pos} {use : Option (Value → Sem Unit)} {Q : Value → Shared → Prop}
    (hclos : closureFor scope env = pure cl) (hkind : scope.kind = .function) (hnames : ∀ y ∈ scope.names, y.2 = .local → scope.names.lookup y.1 = some .local)
    (h : wpAny (model prog w) A (eval iter env) (fun xv s₁ => wpAny (model prog w) A (pyIter xv) (fun it s₂ =>
      ∀ D C H cells, D = s₂.heap.objs.size → C = s₂.heap.objs.size + 1 → H = pushCells ((s₂.heap.push (listOb #[])).push dictOb) scope.names → cells = cellsFrom (s₂.heap.objs.size + 2) scope.names cl →
        wpAny (model prog w) A (pyIter it) (fun it' s' => it' = it ∧ s' = { s₂ with heap := H }) NO { s₂ with heap := H } ∧
        ∃ (I : Nat → Shared → Prop) (n : Nat), I n { s₂ with heap := H } ∧ ∀ n s, I n s → Ended prog w A it (fun s' => compPost (model prog w) A E use Q (.ref D) C (.ok .next) s') s ∨
          Bound prog w A target it (cEnv scope cells C env) (fun s₂ => wpAny (model prog w) A (tests ifs (cEnv scope cells C env)) (fun ok s₃ =>
            if ok = true then wpAny (model prog w) A (eval elt (cEnv scope cells C env)) (fun x s₄ => wpAny (model prog w) A (call (.builtin "list.append") [.ref D, x]) (fun _ s₅ => ∃ m, m < n ∧ I m s₅) NO s₄) NO s₃
            else ∃ m, m < n ∧ I m s₃) NO s₂) s) E s₁) E s)
    (hs : ∀ x, foldedSetIterable iter env x = pure x := by intro _; rfl) :
    wpAny (model prog w) A (comprehension (.ListComp elt [⟨target, iter, ifs, 0⟩] scope pos) scope env cpos (newList []) false (eval iter env) use) Q E s := by
  refine wpAny_comprehension_free rfl hs hclos hkind hnames (wpAny_mono h (fun xv s₁ h₁ => wpAny_mono h₁ (fun it s₂ h₂ => ?_) fun _ _ e => e) fun _ _ e => e)
  refine wpAny_newObj_type (newFunctionEnv_at ?_)
  obtain ⟨hself, I, n, h0, turn⟩ := h₂ _ _ _ _ rfl rfl rfl rfl
  have ec : s₂.heap.objs.size + 1 = (s₂.heap.push (listOb #[])).objs.size := (Heap.size_push ..).symm
  show codeAny _ _ (.compStart _ 0 it (.ref s₂.heap.objs.size) (cEnv scope (cellsFrom ((s₂.heap.push (listOb #[])).objs.size + 1) scope.names cl) (s₂.heap.push (listOb #[])).objs.size env)) (compPost _ _ _ _ _ _ (s₂.heap.push (listOb #[])).objs.size) _
  rw [← ec]
  have loop := codeAny_lc (R := compPost (model prog w) A E use Q (.ref s₂.heap.objs.size) (s₂.heap.objs.size + 1)) (iter := iter) (scope := scope) (pos := pos) I turn n h0
  refine codeAny_compStart_list loop (no_mono (wpAny_mono hself (fun it' s' e => ?_) fun _ _ x => x))
  obtain ⟨rfl, rfl⟩ := e
  exact loop
end
end Mine

namespace Mine
open PySem PySem.W PyProof.Rows PySem.Calls

/-- all objects stand but those at the addresses off -/
abbrev KB (off : List Addr) (h h' : Heap) : Prop := ∀ b o, b ∉ off → h.get? b = some o → h'.get? b = some o
abbrev upd (m : Str → Option Value) (x : Str) (v : Value) : Str → Option Value := fun y => if y = x then some v else m y

section
variable {prog : Program} {w : World} {A : Around} {E : Value → Shared → Prop} {s : Shared} {env : Env} {m : Str → Option Value} {Q : Shared → Prop}

theorem hp_of (hk : env.scope.kind = .function) : (env.scope.kind == .class || (env.scope.kind == .module && env.locals != env.globals)) = false := by rw [hk]; rfl
theorem ns_lt {h : Heap} {L : Addr} (n : h.Ns L m) : L < h.objs.size := n.lt

/-- binding one name -/
theorem assign_name {x : Str} {px : Pos} {v : Value} {Q : Unit → Shared → Prop} (hk : env.scope.kind = .function) (hx : env.kindOf x = some .local) (hn : s.heap.Ns env.locals m)
    (h : ∀ h', h'.Ns env.locals (upd m x v) → Heap.SameBut env.locals s.heap h' → Q () { s with heap := h', toks := s.toks + 1 }) : wpAny (model prog w) A (assign (.Name x px) env v) Q E s :=
  wpAny_assign_Name (wpAny_storeName_local hx hn (fun h' a b => h h' a b) (hp_of hk))

theorem bound_list {it l : Addr} {i : Nat} {items : Array Value} {x : Str} {px : Pos} {v : Value} (hk : env.scope.kind = .function) (hx : env.kindOf x = some .local)
    (hit : s.heap.IsListIter it l i) (hl : s.heap.IsList l items) (hv : items[i]? = some v) (hn : s.heap.Ns env.locals m) (hne : it ≠ env.locals)
    (h : ∀ h' tk, h'.IsListIter it l (i + 1) → h'.Ns env.locals (upd m x v) → KB [it, env.locals] s.heap h' → Q { s with heap := h', toks := tk }) :
    Bound prog w A (.Name x px) (.ref it) env Q s := by
  refine wpAny_pyNext_list_item hit hl hv fun h₁ hit₁ hs₁ => ⟨v, rfl, wpAny_pure ?_⟩
  replace hs₁ : Heap.SameBut it s.heap h₁ := hs₁
  refine assign_name hk hx (hn.sameBut hs₁ (Ne.symm hne)) fun h₂ hn₂ hs₂ => ?_
  replace hs₂ : Heap.SameBut env.locals h₁ h₂ := hs₂
  exact h h₂ _ (hit₁.extBut hs₂.extBut hne) hn₂ fun b o hb e => hs₂.extBut b o (fun q => hb (by simp [q])) (hs₁.extBut b o (fun q => hb (by simp [q])) e)
theorem ended_list {it l : Addr} {i : Nat} {items : Array Value} (hh : A.handled = none)
    (hit : s.heap.IsListIter it l i) (hl : s.heap.IsList l items) (hv : items[i]? = none)
    (h : ∀ h', KB [it] s.heap h' → Q { s with heap := h' }) : Ended prog w A (.ref it) Q s :=
  wpAny_pyNext_list_end hh hit hl hv fun h₁ he₁ => ⟨rfl, h h₁ fun b o hb e => he₁ b o (fun q => hb (by simp [q])) e⟩

theorem bound_tuple {it l : Addr} {i : Nat} {items : Array Value} {x : Str} {px : Pos} {v : Value} (hk : env.scope.kind = .function) (hx : env.kindOf x = some .local)
    (hit : s.heap.IsTupleIter it l i) (hl : s.heap.IsTuple l items) (hv : items[i]? = some v) (hn : s.heap.Ns env.locals m) (hne : it ≠ env.locals)
    (h : ∀ h' tk, h'.IsTupleIter it l (i + 1) → h'.Ns env.locals (upd m x v) → KB [it, env.locals] s.heap h' → Q { s with heap := h', toks := tk }) :
    Bound prog w A (.Name x px) (.ref it) env Q s := by
  refine wpAny_pyNext_tuple_item hit hl hv fun h₁ hit₁ hs₁ => ⟨v, rfl, wpAny_pure ?_⟩
  replace hs₁ : Heap.SameBut it s.heap h₁ := hs₁
  refine assign_name hk hx (hn.sameBut hs₁ (Ne.symm hne)) fun h₂ hn₂ hs₂ => ?_
  replace hs₂ : Heap.SameBut env.locals h₁ h₂ := hs₂
  exact h h₂ _ (hit₁.extBut hs₂.extBut hne) hn₂ fun b o hb e => hs₂.extBut b o (fun q => hb (by simp [q])) (hs₁.extBut b o (fun q => hb (by simp [q])) e)
theorem ended_tuple {it l : Addr} {i : Nat} {items : Array Value} (hh : A.handled = none)
    (hit : s.heap.IsTupleIter it l i) (hl : s.heap.IsTuple l items) (hv : items[i]? = none)
    (h : ∀ h', KB [it] s.heap h' → Q { s with heap := h' }) : Ended prog w A (.ref it) Q s :=
  wpAny_pyNext_tuple_end hh hit hl hv fun h₁ he₁ => ⟨rfl, h h₁ fun b o hb e => he₁ b o (fun q => hb (by simp [q])) e⟩

theorem bound_range {it : Addr} {k left step : Int} {x : Str} {px : Pos} (hk : env.scope.kind = .function) (hx : env.kindOf x = some .local)
    (hit : IsRangeIter s.heap it k left step) (hleft : 0 < left) (hn : s.heap.Ns env.locals m) (hne : it ≠ env.locals)
    (h : ∀ h' tk t, IsRangeIter h' it (k + step) (left - 1) step → h'.Ns env.locals (upd m x (.int k t)) → KB [it, env.locals] s.heap h' → Q { s with heap := h', toks := tk }) :
    Bound prog w A (.Name x px) (.ref it) env Q s := by
  refine wpAny_pyNext_range_item hit hleft fun h₁ hit₁ hs₁ => ⟨_, rfl, wpAny_pure ?_⟩
  replace hs₁ : Heap.SameBut it s.heap h₁ := hs₁
  refine assign_name hk hx (hn.sameBut hs₁ (Ne.symm hne)) fun h₂ hn₂ hs₂ => ?_
  replace hs₂ : Heap.SameBut env.locals h₁ h₂ := hs₂
  exact h h₂ _ _ ((hs₂.2 _ hne).trans hit₁) hn₂ fun b o hb e => hs₂.extBut b o (fun q => hb (by simp [q])) (hs₁.extBut b o (fun q => hb (by simp [q])) e)
theorem ended_range {it : Addr} {k left step : Int} (hh : A.handled = none) (hit : IsRangeIter s.heap it k left step) (hleft : left ≤ 0)
    (h : ∀ h', KB [it] s.heap h' → Q { s with heap := h' }) : Ended prog w A (.ref it) Q s :=
  wpAny_pyNext_range_end hh hit hleft fun h₁ he₁ => ⟨rfl, h h₁ fun b o hb e => he₁ b o (fun q => hb (by simp [q])) e⟩

/-- the two names of an enumerate's turn, bound -/
theorem bound_pair {e it T : Addr} {i : Nat} {xi xv : Str} {pi pv pt : Pos} {x1 : Nat} {v : Value} {t : Tok} {k : Int} {s₁ : Shared} (hh : A.handled = none) (hk : env.scope.kind = .function) (hxi : env.kindOf xi = some .local) (hxv : env.kindOf xv = some .local)
    (heo : IsEnumOut s₁.heap e it k v T) (hT : s₁.heap.get? T = some { cls := .type "tuple", data := .seq #[.int i t, v] }) (hTe : T ≠ e) (heL : e ≠ env.locals) (hn : s₁.heap.Ns env.locals m)
    (h : ∀ h' tk, IsEnum h' e it k v → h'.Ns env.locals (upd (upd m xi (.int i t)) xv v) → KB [e, env.locals] s₁.heap h' → Q { s₁ with heap := h', toks := tk }) :
    wpAny (model prog w) A (letOwnedTupleGo (.Tuple [.Name xi pi, .Name xv pv] x1 pt) (.ref e) (.ref T)) (fun _ s₂ => wpAny (model prog w) A (assign (.Tuple [.Name xi pi, .Name xv pv] x1 pt) env (.ref T)) (fun _ s₃ => Q s₃) NO s₂) NO s₁ := by
  refine wpAny_letOwnedTupleGo_enum heo fun h₂ he₂ hs₂ => ?_
  replace hs₂ : Heap.SameBut e s₁.heap h₂ := hs₂
  have ht₂ : h₂.IsTuple T #[.int i t, v] := ⟨_, (hs₂.2 _ hTe).trans hT, rfl, _, rfl⟩
  refine wpAny_assign_Tuple hh ht₂ rfl rfl fun h₃ hx₃ => ?_
  replace hx₃ : Heap.ExtBut h₂.objs.size h₂ h₃ := hx₃
  have k₃ : Kp h₂ h₃ := fun b o q => hx₃ b o (Nat.ne_of_lt (Heap.lt_size q)) q
  have hn₃ : h₃.Ns env.locals m := (hn.sameBut hs₂ (Ne.symm heL)).keeps k₃
  show wpAny _ A (do holding [v] (assign (.Name xi pi) env (.int i t)); do holding [] (assign (.Name xv pv) env v); pure ()) _ _ _
  refine wpAny_bind (wpAny_holding (assign_name hk hxi hn₃ fun h₄ hn₄ hs₄ => ?_))
  replace hs₄ : Heap.SameBut env.locals h₃ h₄ := hs₄
  refine wpAny_bind (wpAny_holding (assign_name hk hxv hn₄ fun h₅ hn₅ hs₅ => wpAny_pure ?_))
  replace hs₅ : Heap.SameBut env.locals h₄ h₅ := hs₅
  refine h h₅ _ ((hs₅.2 _ heL).trans ((hs₄.2 _ heL).trans (k₃ _ _ he₂))) hn₅ fun b o hb q => ?_
  exact hs₅.extBut b o (fun z => hb (by simp [z])) (hs₄.extBut b o (fun z => hb (by simp [z])) (k₃ _ _ (hs₂.extBut b o (fun z => hb (by simp [z])) q)))

theorem bound_enum {e it l : Addr} {i : Nat} {items : Array Value} {xi xv : Str} {pi pv pt : Pos} {x1 : Nat} {v old : Value} (hh : A.handled = none) (hk : env.scope.kind = .function) (hxi : env.kindOf xi = some .local) (hxv : env.kindOf xv = some .local)
    (he : IsEnum s.heap e it i old) (hit : s.heap.IsListIter it l i) (hl : s.heap.IsList l items) (hv : items[i]? = some v) (hn : s.heap.Ns env.locals m) (hei : e ≠ it) (heL : e ≠ env.locals) (hiL : it ≠ env.locals)
    (h : ∀ h' tk t, IsEnum h' e it ((i + 1 : Nat) : Int) v → h'.IsListIter it l (i + 1) → h'.Ns env.locals (upd (upd m xi (.int i t)) xv v) → KB [e, it, env.locals] s.heap h' → Q { s with heap := h', toks := tk }) :
    Bound prog w A (.Tuple [.Name xi pi, .Name xv pv] x1 pt) (.ref e) env Q s := by
  have hLl := ns_lt hn
  have hel : e < s.heap.objs.size := Heap.lt_size he
  have hil : it < s.heap.objs.size := by obtain ⟨_, q, _⟩ := hit; exact Heap.lt_size q
  refine wpAny_pyNext_enum_item he hit hl hv hei fun h₁ heo hit₁ ht₁ _ hk₁ => ⟨_, rfl, ?_⟩
  have hn₁ : h₁.Ns env.locals m := hn.at' fun o q => hk₁ _ o (Ne.symm heL) (Ne.symm hiL) q
  refine bound_pair hh hk hxi hxv heo ht₁ (Nat.ne_of_gt hel) heL hn₁ fun h' tk a b c => ?_
  replace c : KB [e, env.locals] h₁ h' := c
  refine h h' tk _ (by rw [show ((i + 1 : Nat) : Int) = (i : Int) + 1 from by push_cast; rfl]; exact a) (hit₁.at fun o q => c _ o (by simp [Ne.symm hei, hiL]) q) b fun x o hb q => ?_
  simp only [List.mem_cons, List.not_mem_nil, or_false, not_or] at hb
  exact c x o (by simp [hb.1, hb.2.2]) (hk₁ x o hb.1 hb.2.1 q)
theorem ended_enum {e it l : Addr} {i : Nat} {items : Array Value} {old : Value} (hh : A.handled = none)
    (he : IsEnum s.heap e it i old) (hit : s.heap.IsListIter it l i) (hl : s.heap.IsList l items) (hv : items[i]? = none)
    (h : ∀ h', KB [it] s.heap h' → Q { s with heap := h' }) : Ended prog w A (.ref e) Q s :=
  wpAny_pyNext_enum_end hh he hit hl hv fun h₁ he₁ => ⟨rfl, h h₁ fun b o hb q => he₁ b o (fun z => hb (by simp [z])) q⟩

/-- enumerate over a text of ASCII signs -/
theorem bound_enumS {e it : Addr} {i : Nat} {x : Str} {tx : Tok} {c : Nat} {xi xv : Str} {pi pv pt : Pos} {x1 : Nat} {old : Value} (hh : A.handled = none) (hk : env.scope.kind = .function) (hxi : env.kindOf xi = some .local) (hxv : env.kindOf xv = some .local)
    (he : IsEnum s.heap e it i old) (hit : s.heap.IsStrIter it "str_ascii_iterator" x tx i) (hc : x.cps[i]? = some c) (hn : s.heap.Ns env.locals m) (hei : e ≠ it) (heL : e ≠ env.locals) (hiL : it ≠ env.locals)
    (h : ∀ h' tk t u, IsEnum h' e it ((i + 1 : Nat) : Int) (.str ⟨#[c]⟩ u) → h'.IsStrIter it "str_ascii_iterator" x tx (i + 1) → h'.Ns env.locals (upd (upd m xi (.int i t)) xv (.str ⟨#[c]⟩ u)) → KB [e, it, env.locals] s.heap h' → Q { s with heap := h', toks := tk }) :
    Bound prog w A (.Tuple [.Name xi pi, .Name xv pv] x1 pt) (.ref e) env Q s := by
  have hLl := ns_lt hn
  have hel : e < s.heap.objs.size := Heap.lt_size he
  have hlt : i < x.cps.size := (Array.getElem?_eq_some_iff.mp hc).1
  have D := Draws.strAscii (prog := prog) (w := w) (A := A.in1) hh it x tx
  refine wpAny_pyNext_enum_itemD D he hit hlt hei (by simp [hei]) fun v h₁ tk₁ hv heo hit₁ ht₁ _ hk₁ => ⟨_, rfl, ?_⟩
  obtain ⟨c', t', hc', rfl⟩ : ∃ c' t', x.cps[i]? = some c' ∧ v = .str ⟨#[c']⟩ t' := by
    first
      | exact hv
      | (obtain ⟨c', t', a, b⟩ := hv; exact ⟨c', t', a, b⟩)
      | (obtain ⟨c', a, t', b⟩ := hv; exact ⟨c', t', a, b⟩)
  have : c' = c := Option.some.inj (hc'.symm.trans hc)
  subst this
  have hn₁ : h₁.Ns env.locals m := hn.at' fun o q => hk₁ _ o (Ne.symm heL) (Ne.symm hiL) q
  refine bound_pair hh hk hxi hxv heo ht₁ (Nat.ne_of_gt hel) heL hn₁ fun h' tk a b c => ?_
  replace c : KB [e, env.locals] h₁ h' := c
  refine h h' tk _ _ (by rw [show ((i + 1 : Nat) : Int) = (i : Int) + 1 from by push_cast; rfl]; exact a) ?_ b fun x o hb q => ?_
  · obtain ⟨o, q, r⟩ := hit₁; exact ⟨o, c _ o (by simp [Ne.symm hei, hiL]) q, r⟩
  simp only [List.mem_cons, List.not_mem_nil, or_false, not_or] at hb
  exact c x o (by simp [hb.1, hb.2.2]) (hk₁ x o hb.1 hb.2.1 q)
end
end Mine

namespace Mine
open PySem PySem.W PyProof.Rows PySem.Calls

/-- where the text's functions stand -/
structure Ad where
  (shorten kind fspath pref common csr safe mis count first : Addr)
  (t80 t12 t5 t5c : Tok)
  (sd : Value)

/-- a name of the interpreter's that the text does not bind -/
abbrev Bi (mg mb : Str → Option Value) (x : Str) (v : Value) : Prop := mg x = none ∧ mb x = some v
structure NM (d : Ad) (mg mb : Str → Option Value) : Prop where
  len : Bi mg mb "len" (.builtin "len")
  type : Bi mg mb "type" (.type "type")
  list : Bi mg mb "list" (.type "list")
  tuple : Bi mg mb "tuple" (.type "tuple")
  str : Bi mg mb "str" (.type "str")
  min : Bi mg mb "min" (.builtin "min")
  max : Bi mg mb "max" (.builtin "max")
  map : Bi mg mb "map" (.type "map")
  enumerate : Bi mg mb "enumerate" (.type "enumerate")
  range : Bi mg mb "range" (.type "range")
  repr : Bi mg mb "repr" (.builtin "repr")
  object : Bi mg mb "object" (.type "object")
  sum : Bi mg mb "sum" (.builtin "sum")
  c80 : mg "_MAX_LENGTH" = some (.int 80 d.t80)
  c12 : mg "_PLACEHOLDER_LEN" = some (.int 12 d.t12)
  c5 : mg "_MIN_BEGIN_LEN" = some (.int 5 d.t5)
  c5c : mg "_MIN_COMMON_LEN" = some (.int 5 d.t5c)
  shorten : mg "_shorten" = some (.ref d.shorten)
  kind : mg "_kind" = some (.ref d.kind)
  fspath : mg "_fspath" = some (.ref d.fspath)
  pref : mg "_prefix" = some (.ref d.pref)
  common : mg "commonprefix" = some (.ref d.common)
  csr : mg "_common_shorten_repr" = some (.ref d.csr)
  safe : mg "safe_repr" = some (.ref d.safe)
  mis : mg "_Mismatch" = some (.ref d.mis)
  count : mg "_count_diff_all_purpose" = some (.ref d.count)
  first : mg "_law_first" = some (.ref d.first)

/-- the n-th statement's function stands at a -/
def IsFn (h : Heap) (a : Addr) (n : Nat) (q : Str) (dV : Value) : Prop :=
  ∃ oc od osl name kV doc pm an cdv ct, h.get? a = some ⟨oc, od, .func (fnOf name q (fArgs (stN n)) (fBody (stN n)) (fScope (stN n)) dV kV doc pm an cdv ct), osl⟩ ∧ h.CodeRec cdv q
theorem IsFn.kp {h h' : Heap} {a : Addr} {n : Nat} {q : Str} {dV : Value} (f : IsFn h a n q dV) (K : Kp h h') : IsFn h' a n q dV :=
  let ⟨oc, od, osl, name, kV, doc, pm, an, cdv, ct, e, c⟩ := f
  ⟨oc, od, osl, name, kV, doc, pm, an, cdv, ct, K _ _ e, c.keeps K⟩

structure PG (d : Ad) (mg mb : Str → Option Value) (h : Heap) : Prop where
  g : h.Ns mainGlobals mg
  b : h.Ns builtinsNs mb
  lim : h.NoLimit
  shorten : IsFn h d.shorten 9 "_shorten" .none
  kind : IsFn h d.kind 11 "_kind" .none
  fspath : IsFn h d.fspath 12 "_fspath" .none
  pref : IsFn h d.pref 13 "_prefix" .none
  common : IsFn h d.common 14 "commonprefix" .none
  safe : IsFn h d.safe 17 "safe_repr" d.sd
  count : IsFn h d.count 20 "_count_diff_all_purpose" .none
  first : IsFn h d.first 22 "_law_first" .none
theorem PG.kp {d : Ad} {mg mb : Str → Option Value} {h h' : Heap} (P : PG d mg mb h) (K : Kp h h') : PG d mg mb h' :=
  ⟨P.g.keeps K, P.b.keeps K, P.lim.keeps K, P.shorten.kp K, P.kind.kp K, P.fspath.kp K, P.pref.kp K, P.common.kp K, P.safe.kp K, P.count.kp K, P.first.kp K⟩

section
variable {prog : Program} {w : World} {A : Around} {E : Value → Shared → Prop} {s : Shared} {d : Ad} {mg mb : Str → Option Value}

theorem IsFn.call {hb hh : Heap} {a : Addr} {n : Nat} {q : Str} {dV : Value} {vals : List Value} {binds : List (Str × Value)} {Q : Value → Shared → Prop} (f : IsFn hb a n q dV) (lim : hb.NoLimit) (K : Kp hb hh) (hroom : A.depth < recursionLimit)
    (hbind : ∀ name kV doc pm an cdv ct, bindArgs (fnOf name q (fArgs (stN n)) (fBody (stN n)) (fScope (stN n)) dV kV doc pm an cdv ct) ⟨vals, []⟩ = pure binds)
    (h : ∀ h₁ L cdv, Fm hh L (mGet binds) h₁ →
      wpAny (model prog w) (A.deeper (envOf q (fScope (stN n)) L a cdv)) (execs (fBody (stN n)) (envOf q (fScope (stN n)) L a cdv)) (fun f s' => Q (match f with | .ret v => v | _ => .none) s') NO
        { s with heap := h₁, toks := s.toks + binds.length }) (hs : s.heap = hh := by rfl)
    (hcell : ∀ x ∈ (fScope (stN n)).names, x.2 ≠ .cell := by decide) (hloc : ∀ x ∈ binds, (fScope (stN n)).names.lookup x.1 = some .local := by exact locs (by rfl))
    (hco : (fScope (stN n)).isCoroutine = false := by rfl) (hgen : (fScope (stN n)).isGenerator = false := by rfl) (hk : (fScope (stN n)).kind = .function := by rfl) :
    wpAny (model prog w) A (call (.ref a) vals) Q E s := by
  subst hs
  obtain ⟨oc, od, osl, name, kV, doc, pm, an, cdv, ct, e, c⟩ := f
  exact call_fn hroom (K _ _ e) (lim.keeps K) (c.keeps K) (hbind ..) (fun h₁ F => h h₁ _ _ F) hcell hloc hco hgen hk

/-- a call of a function of the text's by its name -/
theorem callG {env : Env} {x : Str} {p pos : Pos} {e : Expr} {rest : List Expr} {f : Addr} {hb : Heap} {n : Nat} {q : Str} {dV : Value} {Q : Value → Shared → Prop} (F : IsFn hb f n q dV)
    (hf : wpAny (model prog w) A (eval (.Name x p) env) (fun v s₁ => v = .ref f ∧ wpAny (model prog w) A (spliced (backTo pos (starEach (e :: rest) env))) (fun vs s₂ => Kp hb s₂.heap ∧ wpAny (model prog w) A (call (.ref f) vs) Q E s₂) E s₁) E s)
    (he : starEach (e :: rest) env = (false, eval e env) :: starEach rest env := by rfl)
    (hc : eval (.Call (.Name x p) (e :: rest) [] pos) env = (do callWith pos (← eval (.Name x p) env) [] (backTo pos (starEach (e :: rest) env)) (backToKw pos (keywordEach [] env))) := by rfl) :
    wpAny (model prog w) A (eval (.Call (.Name x p) (e :: rest) [] pos) env) Q E s := by
  obtain ⟨oc, od, osl, name, kV, doc, pm, an, cdv, ct, e', c⟩ := F
  refine Call_ (wpAny_mono hf (fun v s₁ h₁ => ?_) fun _ _ x => x) hc
  obtain ⟨rfl, h₁⟩ := h₁
  exact callWith_def rfl (wpAny_mono h₁ (fun vs s₂ h₂ => ⟨h₂.1 _ _ e', h₂.2⟩) fun _ _ x => x) he
/-- a call of a class of the interpreter's of one argument -/
theorem callT {env : Env} {x : Str} {p pos : Pos} {e : Expr} {T : String} {Q : Value → Shared → Prop} (hf : wpAny (model prog w) A (eval (.Name x p) env) (fun f s₁ => f = .type T ∧ wpAny (model prog w) A (eval e env) (fun v s₂ => wpAny (model prog w) A (call (.type T) [v]) Q E s₂) E s₁) E s)
    (hs : starEach [e] env = [(false, eval e env)] := by rfl) : wpAny (model prog w) A (eval (.Call (.Name x p) [e] [] pos) env) Q E s :=
  Call_Name1 (wpAny_mono hf (fun _ _ ⟨e1, h⟩ => e1 ▸ PySem.callWith_type1 h) fun _ _ e => e) hs

theorem kind_call {hb hh : Heap} {x : Str} {t : Tok} {v₀ : Value} {Q : Value → Shared → Prop} (N : NM d mg mb) (P : PG d mg mb hb) (K : Kp hb hh) (hroom : A.depth < recursionLimit)
    (h : ∀ h' t' tk, Kp hh h' → Q (.str "" t') { s with heap := h', toks := tk }) (hs : s.heap = hh := by rfl) : wpAny (model prog w) A (call (.ref d.kind) [v₀, .str x t]) Q E s := by
  refine P.kind.call (binds := [("name", v₀), ("x", .str x t)]) P.lim K hroom (fun _ _ _ _ _ _ _ => by rfl) (fun h₁ L cdv F => ?_) hs
  have P₁ := P.kp fun b o e => F.keep b o (K b o e)
  refine wpAny_execs_cons (wpAny_Assign_Name (callT (nameB P₁.g N.type.1 P₁.b N.type.2 ⟨rfl, F.ld rfl (call_type_of (typeIs_str _ _ _) (by decide) ?_)⟩)))
  refine F.st fun h₂ F₂ _ => ?_
  have P₂ := P.kp fun b o e => F₂.keep b o (K b o e)
  refine wpAny_execs_cons (wpAny_If (wpAny_isTrue_Compare1 (F₂.ld rfl (nameB P₂.g N.str.1 P₂.b N.str.2 (wpAny_is_self rfl (wpAny_truthy_bool ?_))))))
  rw [if_pos rfl]
  refine wpAny_execs_cons (wpAny_Return_some (Constant_str ?_))
  exact h h₂ _ _ F₂.keep
end
end Mine

namespace Mine
open PySem PySem.W PyProof.Rows PySem.Calls

section
variable {prog : Program} {w : World} {A : Around} {E : Value → Shared → Prop} {s : Shared} {d : Ad} {mg mb : Str → Option Value}

theorem fspath_call {hb hh : Heap} {x : Str} {t : Tok} {v₀ : Value} {Q : Value → Shared → Prop} (N : NM d mg mb) (P : PG d mg mb hb) (K : Kp hb hh) (hroom : A.depth + 1 < recursionLimit)
    (h : ∀ h' tk, Kp hh h' → Q (.str x t) { s with heap := h', toks := tk }) (hs : s.heap = hh := by rfl) : wpAny (model prog w) A (call (.ref d.fspath) [v₀, .str x t]) Q E s := by
  refine P.fspath.call (binds := [("name", v₀), ("x", .str x t)]) P.lim K (by omega) (fun _ _ _ _ _ _ _ => by rfl) (fun h₁ L cdv F => ?_) hs
  have P₁ := P.kp fun b o e => F.keep b o (K b o e)
  refine wpAny_execs_cons (wpAny_Assign_Name (callG P₁.kind (nameG P₁.g N.kind ⟨rfl, args_cons (F.ld rfl (args_cons (F.ld rfl (args_nil ⟨fun _ _ e => e, ?_⟩))))⟩)))
  refine kind_call N P₁ (fun _ _ e => e) hroom fun h₂ t₂ k₂ K₂ => ?_
  refine (F.kp K₂).st fun h₃ F₃ _ => ?_
  refine wpAny_execs_cons (wpAny_If ?_)
  refine isTrue_plain (F₃.ld rfl (PySem.P.truthy_str (by decide) ?_))
  rw [if_neg (by decide)]
  refine wpAny_execs_nil ?_
  refine wpAny_execs_cons (wpAny_Return_some (F₃.ld rfl ?_))
  exact h h₃ _ F₃.keep

theorem item_at {x : Str} {i c : Nat} (hc : x.cps[i]? = some c) : Txt.item x (i : Int) = ⟨#[c]⟩ := by
  have hlt : i < x.cps.size := (Array.getElem?_eq_some_iff.mp hc).1
  have : seqIndex? (i : Int) x.length = some i := by
    unfold seqIndex?
    have : x.length = x.cps.size := rfl
    simp [this]
    omega
  unfold Txt.item Txt.charAt
  rw [this]
  simp [hc]

/-- min and max of two texts in a tuple -/
theorem min_two {hh : Heap} {T : Addr} {x y : Str} {t u : Tok} {Q : Value → Shared → Prop} (hH : A.handled = none) (hT : hh.IsTuple T #[.str x t, .str y u]) (hxy : ¬ y.cps.toList < x.cps.toList)
    (h : ∀ h' tk, Kp hh h' → Q (.str x t) { s with heap := h', toks := tk }) (hs : s.heap = hh := by rfl) : wpAny (model prog w) A (call (.builtin "min") [.ref T]) Q E s := by
  subst hs
  have hlt : T < s.heap.objs.size := by obtain ⟨o, ho, _⟩ := hT; exact Heap.lt_size ho
  refine call_min_walk (wpAny_pyIter_tuple hT ?_)
  refine ⟨s.heap.objs.size, _, _, 2, _, _, fun i j => decide ((if i = 0 then x else y).cps.toList < (if j = 0 then x else y).cps.toList), rfl, Walks.tuple (A := A.in1) hH _ T (Nat.ne_of_lt hlt) #[.str x t, .str y u],
    ⟨⟨_, Heap.get?_push_size _ rfl, rfl, rfl⟩, hT.push _⟩, ?_, by decide, ?_, ?_⟩
  · intro b hb
    show b < (s.heap.push _).objs.size
    rw [Heap.size_push]
    rcases List.mem_cons.mp hb with rfl | hb
    · exact Nat.lt_succ_self _
    · rw [List.mem_singleton.mp hb]; exact Nat.lt_succ_of_lt hlt
  · intro i j vi vj s' Q' E' hi hj hq
    have str_of : ∀ (i : Nat) (v : Value), (#[Value.str x t, .str y u] : Array Value)[i]? = some v → ∃ t', v = .str (if i = 0 then x else y) t' := by
      intro i v hv
      match i, hv with
      | 0, hv => exact ⟨t, (Option.some.inj hv).symm⟩
      | 1, hv => exact ⟨u, (Option.some.inj hv).symm⟩
      | n + 2, hv => simp at hv
    obtain ⟨t₁, rfl⟩ := str_of i vi hi
    obtain ⟨t₂, rfl⟩ := str_of j vj hj
    exact PyProof.Rows.lt_str hq
  · intro v h' tk hv hk
    have : argBest (fun i j => decide ((if i = 0 then x else y).cps.toList < (if j = 0 then x else y).cps.toList)) (2 - 1) = 0 := by
      show (if decide _ = true then 1 else 0) = 0
      exact if_neg fun hc => hxy (of_decide_eq_true hc)
    rw [this] at hv
    obtain rfl : Value.str x t = v := Option.some.inj hv
    exact h h' tk fun b o e => hk b o (by simp; exact Nat.ne_of_lt (Heap.lt_size e)) (Heap.get?_push_of_some _ e)
theorem max_two {hh : Heap} {T : Addr} {x y : Str} {t u : Tok} {Q : Value → Shared → Prop} (hH : A.handled = none) (hT : hh.IsTuple T #[.str x t, .str y u]) (hxy : x.cps.toList < y.cps.toList)
    (h : ∀ h' tk, Kp hh h' → Q (.str y u) { s with heap := h', toks := tk }) (hs : s.heap = hh := by rfl) : wpAny (model prog w) A (call (.builtin "max") [.ref T]) Q E s := by
  subst hs
  have hlt : T < s.heap.objs.size := by obtain ⟨o, ho, _⟩ := hT; exact Heap.lt_size ho
  refine call_max_walk (wpAny_pyIter_tuple hT ?_)
  refine ⟨s.heap.objs.size, _, _, 2, _, _, fun i j => decide ((if j = 0 then x else y).cps.toList < (if i = 0 then x else y).cps.toList), rfl, Walks.tuple (A := A.in1) hH _ T (Nat.ne_of_lt hlt) #[.str x t, .str y u],
    ⟨⟨_, Heap.get?_push_size _ rfl, rfl, rfl⟩, hT.push _⟩, ?_, by decide, ?_, ?_⟩
  · intro b hb
    show b < (s.heap.push _).objs.size
    rw [Heap.size_push]
    rcases List.mem_cons.mp hb with rfl | hb
    · exact Nat.lt_succ_self _
    · rw [List.mem_singleton.mp hb]; exact Nat.lt_succ_of_lt hlt
  · intro i j vi vj s' Q' E' hi hj hq
    have str_of : ∀ (i : Nat) (v : Value), (#[Value.str x t, .str y u] : Array Value)[i]? = some v → ∃ t', v = .str (if i = 0 then x else y) t' := by
      intro i v hv
      match i, hv with
      | 0, hv => exact ⟨t, (Option.some.inj hv).symm⟩
      | 1, hv => exact ⟨u, (Option.some.inj hv).symm⟩
      | n + 2, hv => simp at hv
    obtain ⟨t₁, rfl⟩ := str_of i vi hi
    obtain ⟨t₂, rfl⟩ := str_of j vj hj
    exact PySem.P.gt_str hq
  · intro v h' tk hv hk
    have : argBest (fun i j => decide ((if j = 0 then x else y).cps.toList < (if i = 0 then x else y).cps.toList)) (2 - 1) = 1 := by
      show (if decide _ = true then 1 else 0) = 1
      exact if_pos (decide_eq_true (show x.cps.toList < y.cps.toList from hxy))
    rw [this] at hv
    obtain rfl : Value.str y u = v := Option.some.inj hv
    exact h h' tk fun b o e => hk b o (by simp; exact Nat.ne_of_lt (Heap.lt_size e)) (Heap.get?_push_of_some _ e)
end
end Mine

namespace Mine
open PySem PySem.W PyProof.Rows PySem.Calls

section
variable {prog : Program} {w : World} {A : Around} {E : Value → Shared → Prop} {s : Shared} {d : Ad} {mg mb : Str → Option Value}

/-- two texts that are alike up to the place k and part there -/
structure Part (x y : Str) (k : Nat) : Prop where
  ax : x.cps.all (· < 128) = true
  same : ∀ i, i < k → x.cps[i]? = y.cps[i]?
  ne : x.cps[k]? ≠ y.cps[k]?
  kx : k < x.cps.size
  ky : k < y.cps.size
  lx : x.cps.size ≤ 1000
  ly : y.cps.size ≤ 1000
  lt : x.cps.toList < y.cps.toList
  nlt : ¬ y.cps.toList < x.cps.toList

theorem getElem_sign {x : Str} {i : Nat} (h : i < x.cps.size) : x.cps[i]? = some x.cps[i] := by simp [h]

theorem ne_get {h : Heap} {a b : Addr} {o : Obj} (ha : h.get? a = none) (hb : h.get? b = some o) : a ≠ b := fun q => by rw [q, hb] at ha; cases ha
theorem ne_ns {h : Heap} {a L : Addr} {m : Str → Option Value} (ha : h.get? a = none) (hL : h.Ns L m) : a ≠ L := let ⟨_, _, _, e, _⟩ := hL; ne_get ha e
theorem get_none {h : Heap} {a : Addr} (ha : h.objs.size ≤ a) : h.get? a = none := by
  cases e : h.get? a with
  | none => rfl
  | some o => exact absurd (Heap.lt_size e) (Nat.not_lt.mpr ha)

theorem enum_str {hh : Heap} {x : Str} {t : Tok} {Q : Value → Shared → Prop} (hx : x.cps.all (· < 128) = true)
    (h : ∀ h' e it, IsEnum h' e it ((0 : Nat) : Int) .none → h'.IsStrIter it "str_ascii_iterator" x t 0 → e ≠ it → hh.get? e = none → hh.get? it = none → Kp hh h' → Q (.ref e) { s with heap := h' }) (hs : s.heap = hh := by rfl) :
    wpAny (model prog w) A (call (.type "enumerate") [.str x t]) Q E s := by
  subst hs
  refine call_enumerate_str fun h' he hit hz K => h h' _ _ he (by unfold strIterType at hit; rw [if_pos hx] at hit; exact hit) (Nat.succ_ne_self _) (get_none (Nat.le_succ _)) (get_none (Nat.le_refl _)) K
theorem enum_list {hh : Heap} {l : Addr} {items : Array Value} {Q : Value → Shared → Prop} (hl : hh.IsList l items)
    (h : ∀ h' e it, IsEnum h' e it ((0 : Nat) : Int) .none → h'.IsListIter it l 0 → e ≠ it → hh.get? e = none → hh.get? it = none → Kp hh h' → Q (.ref e) { s with heap := h' }) (hs : s.heap = hh := by rfl) :
    wpAny (model prog w) A (call (.type "enumerate") [.ref l]) Q E s := by
  subst hs
  exact call_enumerate_list hl fun h' he hit hz K => h h' _ _ he hit (Nat.succ_ne_self _) (get_none (Nat.le_succ _)) (get_none (Nat.le_refl _)) K

theorem tup_at {h h' : Heap} {a : Addr} {items : Array Value} (x : h.IsTuple a items) (e : ∀ o, h.get? a = some o → h'.get? a = some o) : h'.IsTuple a items := let ⟨o, ho, r⟩ := x; ⟨o, e _ ho, r⟩

theorem prefix_call {hb hh : Heap} {T : Addr} {x y : Str} {t u : Tok} {k : Nat} {Q : Value → Shared → Prop} (N : NM d mg mb) (P : PG d mg mb hb) (K : Kp hb hh) (hroom : A.depth < recursionLimit) (hH : A.handled = none)
    (hT : hh.IsTuple T #[.str x t, .str y u]) (X : Part x y k)
    (h : ∀ h' t' tk, Kp hh h' → Q (.str (Txt.slice x none (some (k : Int))) t') { s with heap := h', toks := tk }) (hs : s.heap = hh := by rfl) : wpAny (model prog w) A (call (.ref d.pref) [.ref T]) Q E s := by
  refine P.pref.call (binds := [("m", .ref T)]) P.lim K hroom (fun _ _ _ _ _ _ _ => by rfl) (fun h₁ L cdv F => ?_) hs
  have P₁ := P.kp fun b o e => F.keep b o (K b o e)
  have hlx : x.length = x.cps.size := rfl
  have hly : y.length = y.cps.size := rfl
  -- s1 = min(m)
  refine wpAny_execs_cons (wpAny_Assign_Name (callB (nameB P₁.g N.min.1 P₁.b N.min.2 ⟨rfl, F.ld rfl (min_two hH (tup_at hT fun o e => F.keep _ o e) X.nlt fun h₂ k₂ K₂ => ?_)⟩)))
  dsimp only
  refine (F.kp K₂).st fun h₃ F₃ _ => ?_
  have P₃ := P.kp fun b o e => F₃.keep b o (K b o e)
  -- s2 = max(m)
  refine wpAny_execs_cons (wpAny_Assign_Name (callB (nameB P₃.g N.max.1 P₃.b N.max.2 ⟨rfl, F₃.ld rfl (max_two hH (tup_at hT fun o e => F₃.keep _ o e) X.lt fun h₄ k₄ K₄ => ?_)⟩)))
  dsimp only
  refine (F₃.kp K₄).st fun h₅ F₅ _ => ?_
  have P₅ := P.kp fun b o e => F₅.keep b o (K b o e)
  clear P₁ P₃
  -- for i, c in enumerate(s1)
  refine wpAny_execs_cons (wpAny_For (callT (nameB P₅.g N.enumerate.1 P₅.b N.enumerate.2 ⟨rfl, F₅.ld rfl (enum_str X.ax fun h₆ e it he hit hne hge hgi K₆ => wpAny_pyIter_enum (by exact he) ?_)⟩)))
  dsimp only
  have F₆ := F₅.kp K₆
  dsimp only at hge hgi K₆
  clear K₂ K₄ F F₃
  have heL : e ≠ L := ne_ns hge F₅.ns
  have hiL : it ≠ L := ne_ns hgi F₅.ns
  refine codeAny_for (fun n s' => ∃ (i : Nat) (h : Heap) (tk : Nat) (m : Str → Option Value) (old : Value), i ≤ k ∧ n = k - i ∧ s' = { s with heap := h, toks := tk } ∧
    IsEnum h e it (i : Int) old ∧ h.IsStrIter it "str_ascii_iterator" x t i ∧ h.Ns L m ∧ m "s1" = some (.str x t) ∧ m "s2" = some (.str y u) ∧ Kp hh h) ?_ k
    ⟨0, h₆, _, _, _, Nat.zero_le _, rfl, rfl, he, hit, F₆.ns, by rfl, by rfl, F₆.keep⟩
  rintro n s' ⟨i, h₇, tk, m, old, hik, rfl, rfl, he₇, hit₇, hn, hm1, hm2, K₇⟩
  have hix : i < x.cps.size := Nat.lt_of_le_of_lt hik X.kx
  have hiy : i < y.cps.size := Nat.lt_of_le_of_lt hik X.ky
  refine .inr (bound_enumS hH rfl (by rfl) (by rfl) he₇ hit₇ (getElem_sign hix) (by exact hn) hne heL hiL fun h₈ tk₈ t₈ u₈ he₈ hit₈ hn₈ K₈ => ?_)
  replace K₈ : KB [e, it, L] h₇ h₈ := K₈
  have hL0 : hh.get? L = none := F₆.off
  have he0 : hh.get? e = none := by
    cases q : hh.get? e with
    | none => rfl
    | some o => rw [F₅.keep _ _ q] at hge; cases hge
  have hi0 : hh.get? it = none := by
    cases q : hh.get? it with
    | none => rfl
    | some o => rw [F₅.keep _ _ q] at hgi; cases hgi
  have K₉ : Kp hh h₈ := fun b o q => K₈ b o (by
    simp only [List.mem_cons, List.not_mem_nil, or_false, not_or]
    exact ⟨Ne.symm (ne_get he0 q), Ne.symm (ne_get hi0 q), Ne.symm (ne_get hL0 q)⟩) (K₇ b o q)
  have F₈ : Fm hh L _ h₈ := ⟨hn₈, K₉, hL0⟩
  dsimp only
  refine wpAny_execs_cons (wpAny_If (wpAny_isTrue_Compare1 (F₈.ld (by rfl) (Subscript_ (F₈.ld (by exact hm2) (F₈.ld (by rfl) (item_str ?_ ?_ ?_ fun _ => ?_)))))))
  · simp [fitsSsize]; have := X.lx; omega
  · omega
  · omega
  rw [item_at (getElem_sign hiy)]
  refine ne_str (wpAny_truthy_bool ?_)
  rcases Nat.lt_or_eq_of_le hik with hlt | rfl
  · have e1 : x.cps[i] = y.cps[i] := by
      have := X.same i hlt
      rw [getElem_sign hix, getElem_sign hiy] at this
      exact Option.some.inj this
    rw [if_neg (by simp [e1])]
    refine wpAny_execs_nil (wpAny_execs_nil ?_)
    exact ⟨k - (i + 1), by omega, i + 1, h₈, _, _, _, hlt, rfl, rfl, he₈, hit₈, hn₈, hm1, hm2, K₉⟩
  · have e1 : x.cps[i] ≠ y.cps[i] := fun q => X.ne (by rw [getElem_sign hix, getElem_sign hiy, q])
    rw [if_pos (by simpa using e1)]
    refine wpAny_execs_cons (wpAny_Return_some (slice_to (F₈.ld (by exact hm1) (F₈.ld (by rfl) ⟨_, _, _, _, rfl, rfl, by rw [sizeLine_eq]; have := X.lx; omega, fun h₁₀ t₁₀ k₁₀ K₁₀ => ?_⟩))))
    exact h h₁₀ _ _ fun b o q => K₁₀ b o (K₉ b o q)
end
end Mine

namespace Mine
open PySem PySem.W PyProof.Rows PySem.Calls

/-- an iterator at it that hands on n values, V i the i-th -/
structure Src (prog : Program) (w : World) (A : Around) (it : Addr) (n : Nat) (St : Nat → Heap → Prop) (V : Nat → Value → Prop) (fp : List Addr) : Prop where
  next : ∀ (i : Nat) (env : Env) (x : Str) (px : Pos) (m : Str → Option Value) (s : Shared) (Q : Shared → Prop), i < n → St i s.heap → env.scope.kind = .function → env.kindOf x = some .local → s.heap.Ns env.locals m → it ≠ env.locals → env.locals ∉ fp →
    (∀ v h' tk, V i v → St (i + 1) h' → h'.Ns env.locals (upd m x v) → KB [it, env.locals] s.heap h' → Q { s with heap := h', toks := tk }) → Bound prog w A (.Name x px) (.ref it) env Q s
  stop : ∀ (s : Shared) (Q : Shared → Prop), St n s.heap → (∀ h', KB [it] s.heap h' → Q { s with heap := h' }) → Ended prog w A (.ref it) Q s
  self : ∀ (i : Nat) (s : Shared), St i s.heap → wpAny (model prog w) A (pyIter (.ref it)) (fun it' s' => it' = .ref it ∧ s' = s) NO s
  frame : ∀ i h h', St i h → (∀ b ∈ fp, ∀ o, h.get? b = some o → h'.get? b = some o) → St i h'
  live : ∀ i h, St i h → ∃ o, h.get? it = some o

section
variable {prog : Program} {w : World} {A : Around}
theorem mem_two {a b c : Addr} : a ∉ [b, c] ↔ a ≠ b ∧ a ≠ c := by simp

theorem mem_one {a b : Addr} : a ∉ [b] ↔ a ≠ b := by simp
theorem mem_more {a b c d : Addr} {X : List Addr} (h : a ∉ b :: c :: d :: X) : a ≠ b ∧ a ≠ c ∧ a ≠ d := by simp at h; exact ⟨h.1, h.2.1, h.2.2.1⟩
theorem mem_three {a b c d : Addr} : a ∉ [b, c, d] ↔ a ≠ b ∧ a ≠ c ∧ a ≠ d := by simp

theorem Src.list (hH : A.handled = none) (it l : Addr) (hne : l ≠ it) (items : Array Value) :
    Src prog w A it items.size (fun i h => h.IsListIter it l i ∧ h.IsList l items) (fun i v => items[i]? = some v) [it, l] where
  next := fun i env x px m s Q hi hst hk hx hn hne' hfp hQ => by
    have hlL : l ≠ env.locals := fun q => hfp (by simp [q])
    refine bound_list hk hx hst.1 hst.2 (v := items[i]) (by simp [hi]) hn hne' fun h' tk a b c => hQ _ h' tk (by simp [hi]) ⟨a, hst.2.at fun o e => c _ o (mem_two.mpr ⟨hne, hlL⟩) e⟩ b c
  stop := fun s Q hst hQ => ended_list hH hst.1 hst.2 (by simp) hQ
  self := fun i s hst => wpAny_pyIter_listiter hst.1 ⟨rfl, rfl⟩
  frame := fun i h h' hst hk => ⟨hst.1.at fun o e => hk _ (by simp) o e, hst.2.at fun o e => hk _ (by simp) o e⟩
  live := fun i h hst => let ⟨o, e, _⟩ := hst.1; ⟨o, e⟩
theorem Src.tuple (hH : A.handled = none) (it l : Addr) (hne : l ≠ it) (items : Array Value) :
    Src prog w A it items.size (fun i h => h.IsTupleIter it l i ∧ h.IsTuple l items) (fun i v => items[i]? = some v) [it, l] where
  next := fun i env x px m s Q hi hst hk hx hn hne' hfp hQ => by
    have hlL : l ≠ env.locals := fun q => hfp (by simp [q])
    refine bound_tuple hk hx hst.1 hst.2 (v := items[i]) (by simp [hi]) hn hne' fun h' tk a b c => hQ _ h' tk (by simp [hi]) ⟨a, tup_at hst.2 fun o e => c _ o (mem_two.mpr ⟨hne, hlL⟩) e⟩ b c
  stop := fun s Q hst hQ => ended_tuple hH hst.1 hst.2 (by simp) hQ
  self := fun i s hst => (Walks.tuple (prog := prog) (w := w) hH it l hne items).self i s _ _ hst ⟨rfl, rfl⟩
  frame := fun i h h' hst hk => ⟨hst.1.at fun o e => hk _ (by simp) o e, tup_at hst.2 fun o e => hk _ (by simp) o e⟩
  live := fun i h hst => let ⟨o, e, _⟩ := hst.1; ⟨o, e⟩
theorem Src.range (hH : A.handled = none) (it : Addr) (a : Int) (n : Nat) :
    Src prog w A it n (fun i h => IsRangeIter h it (a + i) ((n : Int) - i) 1) (fun i v => ∃ t, v = .int (a + i) t) [it] where
  next := fun i env x px m s Q hi hst hk hx hn hne' hfp hQ => by
    refine bound_range hk hx hst (by omega) hn hne' fun h' tk t b c e => hQ _ h' tk ⟨t, rfl⟩ ?_ c e
    have e1 : a + ((i + 1 : Nat) : Int) = a + i + 1 := by push_cast; omega
    have e2 : (n : Int) - ((i + 1 : Nat) : Int) = n - i - 1 := by push_cast; omega
    show IsRangeIter h' it (a + ((i + 1 : Nat) : Int)) ((n : Int) - ((i + 1 : Nat) : Int)) 1
    rw [e1, e2]; exact b
  stop := fun s Q hst hQ => ended_range hH hst (by omega) hQ
  self := fun i s hst => wpAny_pyIter_rangeiter hst ⟨rfl, rfl⟩
  frame := fun i h h' hst hk => hk _ (by simp) _ hst
  live := fun i h hst => ⟨_, hst⟩
end

theorem hide_sub {g h : Heap} {l : List Addr} (K : Kp g h) (off : ∀ a ∈ l, g.get? a = none) : Kp g (hideAll h l) := fun b o e => hideAll_get l (K b o e) fun hb => by rw [off b hb] at e; cases e
theorem hide_mono {h h' : Heap} {l : List Addr} (K : KB l h h') : Kp (hideAll h l) (hideAll h' l) := fun b o e => by
  have hb : b ∉ l := fun hb => by rw [hideAll_none l hb] at e; cases e
  exact hideAll_get l (K b o hb (of_hideAll l e)) hb
theorem hide_off {h : Heap} {l : List Addr} : ∀ a ∈ l, (hideAll h l).get? a = none := fun _ ha => hideAll_none l ha
theorem hide_le {h : Heap} {l : List Addr} : Kp (hideAll h l) h := fun _ _ e => of_hideAll l e

theorem Paired.imp {α β : Type} {F F' : α → β → Prop} (h : ∀ a b, F a b → F' a b) : ∀ {l₁ : List α} {l₂ : List β}, Paired F l₁ l₂ → Paired F' l₁ l₂
  | _, _, .nil => .nil
  | _, _, .cons a t => .cons (h _ _ a) (Paired.imp h t)
theorem range_filter_succ (p : Nat → Bool) (i : Nat) : (List.range (i + 1)).filter p = (List.range i).filter p ++ (if p i then [i] else []) := by
  rw [List.range_succ, List.filter_append]
  cases h : p i <;> simp [h]
theorem cells_none (scope : Scope) (hnc : ∀ y ∈ scope.names, y.2 ≠ .cell) : (∀ h, pushCells h scope.names = h) ∧ ∀ n cl, cellsFrom n scope.names cl = cl := by
  generalize scope.names = l at hnc
  induction l with
  | nil => exact ⟨fun _ => rfl, fun _ _ => rfl⟩
  | cons y r ih =>
    obtain ⟨nm, k⟩ := y
    have hk : (k == NameKind.cell) = false := by
      cases q : (k == NameKind.cell) with
      | false => rfl
      | true => exact absurd (eq_of_beq q) (hnc _ (.head _))
    obtain ⟨a, b⟩ := ih fun y hy => hnc y (.tail _ hy)
    refine ⟨fun h => ?_, fun n cl => ?_⟩
    · unfold pushCells; rw [hk]; exact a h
    · unfold cellsFrom; rw [hk]; exact b n cl

section
variable {prog : Program} {w : World} {A : Around} {E : Value → Shared → Prop} {env : Env}

/-- a comprehension over a source, one name bound: F says of each value what it is, by objects that the loop does not touch -/
theorem lc_map0 {s : Shared} (X : List Addr) {elt iter : Expr} {x : Str} {px : Pos} {ifs : List Expr} {scope : Scope} {cl : List (Str × Addr)} {pos cpos : Pos} {use : Option (Value → Sem Unit)} {Q : Value → Shared → Prop}
    (hclos : closureFor scope env = pure cl) (hkind : scope.kind = .function) (hnames : ∀ y ∈ scope.names, y.2 = .local → scope.names.lookup y.1 = some .local) (hnc : ∀ y ∈ scope.names, y.2 ≠ .cell) (hx : scope.names.lookup x = some .local)
    (h : wpAny (model prog w) A (eval iter env) (fun xv s₁ => wpAny (model prog w) A (pyIter xv) (fun itv s₂ =>
      ∃ (it : Addr) (n : Nat) (St : Nat → Heap → Prop) (V : Nat → Value → Prop) (fp : List Addr) (p : Nat → Bool) (F : Heap → Nat → Value → Prop), itv = .ref it ∧ Src prog w A it n St V fp ∧ n ≤ 1000 ∧ St 0 s₂.heap ∧ (∀ b ∈ fp, b < s₂.heap.objs.size) ∧
        (∀ g g' i y, Kp g g' → F g i y → F g' i y) ∧
        (∀ i v C D h tk m, i < n → V i v → h.Ns C m → m x = some v → (∀ b o, b ≠ it → s₂.heap.get? b = some o → h.get? b = some o) → s₂.heap.get? C = none → s₂.heap.get? D = none → (∃ o, h.get? D = some o) → (∃ o, h.get? it = some o) →
          wpAny (model prog w) A (tests ifs (cEnv scope cl C env)) (fun ok s' => ok = p i ∧ ∃ h' tk', s' = { s₂ with heap := h', toks := tk' } ∧ Kp h h' ∧
            (p i = true → wpAny (model prog w) A (eval elt (cEnv scope cl C env)) (fun y s'' => ∃ h'' tk'' g, s'' = { s₂ with heap := h'', toks := tk'' } ∧ Kp h' h'' ∧ Kp g h'' ∧ (∀ a ∈ (C :: D :: it :: X), g.get? a = none) ∧ F g i y) NO s')) NO { s₂ with heap := h, toks := tk }) ∧
        (∀ D C h' tk m ys, s₂.heap.get? D = none → s₂.heap.get? C = none → D ≠ C → h'.Ns C m → h'.PlainList D ys → (∀ b o, b ≠ it → s₂.heap.get? b = some o → h'.get? b = some o) → Paired (F (hideAll h' (C :: D :: it :: X))) ((List.range n).filter p) ys.toList →
          compPost (model prog w) A E use Q (.ref D) C (.ok .next) { s₂ with heap := h', toks := tk })) E s₁) E s)
    (hs : ∀ x, foldedSetIterable iter env x = pure x := by intro _; rfl) :
    wpAny (model prog w) A (comprehension (.ListComp elt [⟨.Name x px, iter, ifs, 0⟩] scope pos) scope env cpos (newList []) false (eval iter env) use) Q E s := by
  obtain ⟨hpc, hcf⟩ := cells_none scope hnc
  refine comp_run hclos hkind hnames (wpAny_mono h (fun xv s₁ h₁ => wpAny_mono h₁ (fun itv s₂ h₂ => ?_) fun _ _ e => e) fun _ _ e => e) hs
  intro D C H cells hD hC hH hcells
  rw [hpc] at hH
  rw [hcf] at hcells
  subst hcells
  obtain ⟨it, n, St, V, fp, p, F, rfl, S, hn, hst, hfp, mono, turn, done⟩ := h₂
  have hD0 : s₂.heap.get? D = none := get_none (by rw [hD]; exact Nat.le_refl _)
  have hC0 : s₂.heap.get? C = none := get_none (by rw [hC]; exact Nat.le_succ _)
  have hDC : D ≠ C := by rw [hD, hC]; exact Nat.ne_of_lt (Nat.lt_succ_self _)
  obtain ⟨oi, hoi⟩ := S.live 0 _ hst
  have hitD : it ≠ D := by rintro rfl; rw [hD0] at hoi; cases hoi
  have hitC : it ≠ C := by rintro rfl; rw [hC0] at hoi; cases hoi
  have hDf : D ∉ fp := fun q => by have := hfp D q; rw [hD] at this; exact Nat.lt_irrefl _ this
  have hCf : C ∉ fp := fun q => by have := hfp C q; rw [hC] at this; exact Nat.lt_irrefl _ (Nat.lt_of_succ_lt this)
  have K0 : Kp s₂.heap H := fun b o e => by rw [hH]; exact Heap.get?_push_of_some _ (Heap.get?_push_of_some _ e)
  have hl0 : H.PlainList D #[] := by
    refine ⟨0, ?_⟩
    rw [hH, hD]
    exact Heap.get?_push_of_some _ (Heap.get?_push_size _ rfl)
  have hn0 : H.Ns C fun _ => none := by
    have := Heap.Ns.new (s₂.heap.push (listOb #[])) (.type "dict")
    rw [Heap.size_push] at this
    rw [hH, hC]; exact this
  have hst0 : St 0 H := S.frame _ _ _ hst fun b _ o e => K0 b o e
  refine ⟨S.self 0 _ hst0, (fun k s' => ∃ i h tk m ys, i ≤ n ∧ k = n - i ∧ s' = { s₂ with heap := h, toks := tk } ∧ St i h ∧ h.Ns C m ∧ h.PlainList D ys ∧ (∀ b o, b ≠ it → s₂.heap.get? b = some o → h.get? b = some o) ∧
    Paired (F (hideAll h (C :: D :: it :: X))) ((List.range i).filter p) ys.toList), n, ⟨0, H, _, _, #[], Nat.zero_le _, rfl, rfl, hst0, hn0, hl0, fun b o _ e => K0 b o e, .nil⟩, ?_⟩
  rintro k s' ⟨i, h₃, tk, m, ys, hi, rfl, rfl, hst₃, hn₃, hl₃, K₃, hP⟩
  rcases Nat.lt_or_eq_of_le hi with hlt | rfl
  · refine .inr (S.next i _ x px m _ _ hlt hst₃ (by simp [compEnvC, relabel, hkind]) (lookup_relabel_local hx) hn₃ hitC hCf fun v h₄ tk₄ hV hst₄ hn₄ K₄ => ?_)
    replace K₄ : KB [it, C] h₃ h₄ := K₄
    have hl₄ : h₄.PlainList D ys := hl₃.at fun o e => K₄ _ o (mem_two.mpr ⟨Ne.symm hitD, hDC⟩) e
    have K₅ : ∀ b o, b ≠ it → s₂.heap.get? b = some o → h₄.get? b = some o := fun b o hb e => K₄ b o (mem_two.mpr ⟨hb, fun q => by rw [q, hC0] at e; cases e⟩) (K₃ b o hb e)
    have hP₄ : Paired (F (hideAll h₄ (C :: D :: it :: X))) ((List.range i).filter p) ys.toList := Paired.imp (fun a b => mono _ _ a b (hide_mono fun b o hb e => K₄ b o (mem_two.mpr ⟨(mem_more hb).2.2, (mem_more hb).1⟩) e)) hP
    refine wpAny_mono (turn i v C D h₄ tk₄ _ hlt hV hn₄ (by simp [upd]) K₅ hC0 hD0 (let ⟨_, e⟩ := hl₄; ⟨_, e⟩) (S.live _ _ hst₄)) (fun ok s₅ h₅ => ?_) fun _ _ x => x
    obtain ⟨rfl, h₅, tk₅, rfl, K₆, helt⟩ := h₅
    have hP₅ : Paired (F (hideAll h₅ (C :: D :: it :: X))) ((List.range i).filter p) ys.toList := Paired.imp (fun a b => mono _ _ a b (hide_mono fun b o _ e => K₆ b o e)) hP₄
    cases hp : p i with
    | false =>
      rw [if_neg (by decide)]
      refine ⟨n - (i + 1), by omega, i + 1, h₅, tk₅, _, ys, hlt, rfl, rfl, S.frame _ _ _ hst₄ fun b _ o e => K₆ b o e, hn₄.keeps K₆, hl₄.at fun o e => K₆ _ o e, fun b o hb e => K₆ b o (K₅ b o hb e), ?_⟩
      rw [range_filter_succ, hp]; simpa using hP₅
    | true =>
      rw [if_pos rfl]
      refine wpAny_mono (helt hp) (fun y s₆ h₆ => ?_) fun _ _ x => x
      obtain ⟨h₆, tk₆, g, rfl, K₇, Kg, hg, hF⟩ := h₆
      have hys : ys.size ≤ sizeLine := by
        have e1 := hP.length
        have e2 := List.length_filter_le p (List.range i)
        rw [List.length_range] at e2
        have e3 : ys.toList.length = ys.size := by simp
        rw [sizeLine_eq]; omega
      refine wpAny_list_append_plain (hsz := hys) ((hl₄.at fun o e => K₆ _ o e).at fun o e => K₇ _ o e) fun h₈ hl₈ hs₈ => ?_
      replace hs₈ : Heap.SameBut D h₆ h₈ := hs₈
      refine ⟨n - (i + 1), by omega, i + 1, h₈, tk₆, _, ys.push y, hlt, rfl, rfl, S.frame _ _ _ hst₄ fun b hb o e => hs₈.extBut b o (fun q => hDf (q ▸ hb)) (K₇ b o (K₆ b o e)), ((hn₄.keeps K₆).keeps K₇).sameBut hs₈ (Ne.symm hDC), hl₈,
        fun b o hb e => hs₈.extBut b o (fun q => by rw [q, hD0] at e; cases e) (K₇ b o (K₆ b o (K₅ b o hb e))), ?_⟩
      rw [range_filter_succ, hp]
      have hP₈ : Paired (F (hideAll h₈ (C :: D :: it :: X))) ((List.range i).filter p) ys.toList := Paired.imp (fun a b => mono _ _ a b (hide_mono fun b o hb e => hs₈.extBut b o (mem_more hb).2.1 (K₇ b o e))) hP₅
      have hF₈ : F (hideAll h₈ (C :: D :: it :: X)) i y := mono _ _ _ _ (hide_sub (fun b o e => hs₈.extBut b o (fun q => by rw [q, hg D (by simp)] at e; cases e) (Kg b o e)) hg) hF
      simpa using Paired.snoc hP₈ hF₈
  · refine .inl (S.stop _ _ hst₃ fun h₄ K₄ => ?_)
    replace K₄ : KB [it] h₃ h₄ := K₄
    exact done D C h₄ tk m ys hD0 hC0 hDC (hn₃.at' fun o e => K₄ _ o (by simp [Ne.symm hitC]) e) (hl₃.at fun o e => K₄ _ o (by simp [Ne.symm hitD]) e) (fun b o hb e => K₄ b o (by simp [hb]) (K₃ b o hb e))
      (Paired.imp (fun a b => mono _ _ a b (hide_mono fun b o hb e => K₄ b o (mem_one.mpr (mem_more hb).2.2) e)) hP)

theorem lc_eval {s : Shared} {elt iter : Expr} {x : Str} {px : Pos} {ifs : List Expr} {scope : Scope} {cl : List (Str × Addr)} {pos : Pos} {Q : Value → Shared → Prop}
    (hclos : closureFor scope env = pure cl) (hkind : scope.kind = .function) (hnames : ∀ y ∈ scope.names, y.2 = .local → scope.names.lookup y.1 = some .local) (hnc : ∀ y ∈ scope.names, y.2 ≠ .cell) (hx : scope.names.lookup x = some .local)
    (h : wpAny (model prog w) A (eval iter env) (fun xv s₁ => wpAny (model prog w) A (pyIter xv) (fun itv s₂ =>
      ∃ (it : Addr) (n : Nat) (St : Nat → Heap → Prop) (V : Nat → Value → Prop) (fp : List Addr) (p : Nat → Bool) (F : Heap → Nat → Value → Prop), itv = .ref it ∧ Src prog w A it n St V fp ∧ n ≤ 1000 ∧ St 0 s₂.heap ∧ (∀ b ∈ fp, b < s₂.heap.objs.size) ∧
        (∀ g g' i y, Kp g g' → F g i y → F g' i y) ∧
        (∀ i v C D h tk m, i < n → V i v → h.Ns C m → m x = some v → (∀ b o, b ≠ it → s₂.heap.get? b = some o → h.get? b = some o) → s₂.heap.get? C = none → s₂.heap.get? D = none → (∃ o, h.get? D = some o) → (∃ o, h.get? it = some o) →
          wpAny (model prog w) A (tests ifs (cEnv scope cl C env)) (fun ok s' => ok = p i ∧ ∃ h' tk', s' = { s₂ with heap := h', toks := tk' } ∧ Kp h h' ∧
            (p i = true → wpAny (model prog w) A (eval elt (cEnv scope cl C env)) (fun y s'' => ∃ h'' tk'' g, s'' = { s₂ with heap := h'', toks := tk'' } ∧ Kp h' h'' ∧ Kp g h'' ∧ (∀ a ∈ [C, D, it], g.get? a = none) ∧ F g i y) NO s')) NO { s₂ with heap := h, toks := tk }) ∧
        (∀ D h' tk ys g, s₂.heap.get? D = none → h'.PlainList D ys → (∀ b o, b ≠ it → s₂.heap.get? b = some o → h'.get? b = some o) → Kp g h' → g.get? D = none → g.get? it = none → Paired (F g) ((List.range n).filter p) ys.toList →
          Q (.ref D) { s₂ with heap := h', toks := tk })) E s₁) E s)
    (hs : ∀ x, foldedSetIterable iter env x = pure x := by intro _; rfl) :
    wpAny (model prog w) A (eval (.ListComp elt [⟨.Name x px, iter, ifs, 0⟩] scope pos) env) Q E s := by
  rw [eval_ListComp]
  refine lc_map0 (use := none) [] hclos hkind hnames hnc hx (wpAny_mono h (fun xv s₁ h₁ => wpAny_mono h₁ (fun itv s₂ h₂ => ?_) fun _ _ e => e) fun _ _ e => e) hs
  obtain ⟨it, n, St, V, fp, p, F, e, S, hn, hst, hfp, mono, turn, done⟩ := h₂
  refine ⟨it, n, St, V, fp, p, F, e, S, hn, hst, hfp, mono, turn, ?_⟩
  intro D C h' tk m ys hD hC hDC hnC hl hk hP
  refine ⟨m, hnC, fun h'' hs'' => ?_⟩
  replace hs'' : Heap.SameBut C h' h'' := hs''
  exact done D h'' tk ys (hideAll h' [C, D, it]) hD (hl.at fun o e => hs''.extBut _ o hDC e) (fun b o hb e => hs''.extBut b o (fun q => by rw [q, hC] at e; cases e) (hk b o hb e))
    (fun b o e => hs''.extBut b o (fun q => by rw [q, hide_off C (by simp)] at e; cases e) (hide_le b o e)) (hide_off D (by simp)) (hide_off it (by simp)) hP

theorem lc_assign {s : Shared} {elt iter : Expr} {x y : Str} {px py : Pos} {ifs : List Expr} {scope : Scope} {cl : List (Str × Addr)} {pos spos : Pos} {Q : Flow → Shared → Prop}
    (hsw : swapsWith (.ListComp elt [⟨.Name x px, iter, ifs, 0⟩] scope pos) (some (.Name y py)) spos.line env = pure true)
    (hclos : closureFor scope env = pure cl) (hkind : scope.kind = .function) (hnames : ∀ y ∈ scope.names, y.2 = .local → scope.names.lookup y.1 = some .local) (hnc : ∀ y ∈ scope.names, y.2 ≠ .cell) (hx : scope.names.lookup x = some .local)
    (hek : env.scope.kind = .function) (hy : env.kindOf y = some .local)
    (h : wpAny (model prog w) A (eval iter env) (fun xv s₁ => wpAny (model prog w) A (pyIter xv) (fun itv s₂ =>
      ∃ (it : Addr) (n : Nat) (St : Nat → Heap → Prop) (V : Nat → Value → Prop) (fp : List Addr) (p : Nat → Bool) (F : Heap → Nat → Value → Prop) (m₀ : Str → Option Value), itv = .ref it ∧ Src prog w A it n St V fp ∧ n ≤ 1000 ∧ St 0 s₂.heap ∧ (∀ b ∈ fp, b < s₂.heap.objs.size) ∧
        s₂.heap.Ns env.locals m₀ ∧ it ≠ env.locals ∧
        (∀ g g' i y, Kp g g' → F g i y → F g' i y) ∧
        (∀ i v C D h tk m, i < n → V i v → h.Ns C m → m x = some v → (∀ b o, b ≠ it → s₂.heap.get? b = some o → h.get? b = some o) → s₂.heap.get? C = none → s₂.heap.get? D = none → (∃ o, h.get? D = some o) → (∃ o, h.get? it = some o) →
          wpAny (model prog w) A (tests ifs (cEnv scope cl C env)) (fun ok s' => ok = p i ∧ ∃ h' tk', s' = { s₂ with heap := h', toks := tk' } ∧ Kp h h' ∧
            (p i = true → wpAny (model prog w) A (eval elt (cEnv scope cl C env)) (fun y s'' => ∃ h'' tk'' g, s'' = { s₂ with heap := h'', toks := tk'' } ∧ Kp h' h'' ∧ Kp g h'' ∧ (∀ a ∈ [C, D, it, env.locals], g.get? a = none) ∧ F g i y) NO s')) NO { s₂ with heap := h, toks := tk }) ∧
        (∀ D h' tk ys g, s₂.heap.get? D = none → h'.PlainList D ys → h'.Ns env.locals (upd m₀ y (.ref D)) → (∀ b o, b ≠ it → b ≠ env.locals → s₂.heap.get? b = some o → h'.get? b = some o) → Kp g h' → g.get? D = none → g.get? it = none → g.get? env.locals = none →
          Paired (F g) ((List.range n).filter p) ys.toList → Q .next { s₂ with heap := h', toks := tk })) E s₁) E s)
    (hs : ∀ x, foldedSetIterable iter env x = pure x := by intro _; rfl) :
    wpAny (model prog w) A (exec (.Assign [.Name y py] (.ListComp elt [⟨.Name x px, iter, ifs, 0⟩] scope pos) spos) env) Q E s := by
  rw [exec_Assign_Name_used _ _ _ _ hsw]
  refine wpAny_bind (wpAny_standAt (wpAny_bind ?_))
  show wpAny _ A (do let _ ← comprehension (.ListComp elt [⟨.Name x px, iter, ifs, 0⟩] scope pos) scope env _ (newList []) false (eval iter env) (some (assign (.Name y py) env))) _ _ s
  refine wpAny_bind (wpAny_mono (lc_map0 (use := some (assign (.Name y py) env)) (Q := fun _ s' => Q .next s') [env.locals] hclos hkind hnames hnc hx (wpAny_mono h (fun xv s₁ h₁ => wpAny_mono h₁ (fun itv s₂ h₂ => ?_) fun _ _ e => e) fun _ _ e => e) hs)
    (fun _ s' hq => wpAny_pure (wpAny_pure hq)) fun _ _ e => e)
  obtain ⟨it, n, St, V, fp, p, F, m₀, e, S, hn, hst, hfp, hL, hitL, mono, turn, done⟩ := h₂
  refine ⟨it, n, St, V, fp, p, F, e, S, hn, hst, hfp, mono, turn, ?_⟩
  intro D C h' tk m ys hD hC hDC hnC hl hk hP
  have hLC : env.locals ≠ C := Ne.symm (ne_ns hC hL)
  have hLD : env.locals ≠ D := Ne.symm (ne_ns hD hL)
  show wpAny _ A (assign (.Name y py) env (.ref D)) _ _ _
  refine assign_name hek hy (hL.at' fun o e => hk _ o (Ne.symm hitL) e) fun h₁ hn₁ hs₁ => ?_
  replace hs₁ : Heap.SameBut env.locals h' h₁ := hs₁
  refine ⟨m, hnC.sameBut hs₁ (Ne.symm hLC), fun h₂ hs₂ => ?_⟩
  replace hs₂ : Heap.SameBut C h₁ h₂ := hs₂
  exact done D h₂ _ ys (hideAll h' (C :: D :: it :: [env.locals])) hD (hl.at fun o e => hs₂.extBut _ o hDC (hs₁.extBut _ o (Ne.symm hLD) e)) (hn₁.sameBut hs₂ hLC)
    (fun b o hb hbL e => hs₂.extBut b o (fun q => by rw [q, hC] at e; cases e) (hs₁.extBut b o hbL (hk b o hb e)))
    (fun b o e => hs₂.extBut b o (fun q => by rw [q, hide_off C (by simp)] at e; cases e) (hs₁.extBut b o (fun q => by rw [q, hide_off env.locals (by simp)] at e; cases e) (hide_le b o e)))
    (hide_off D (by simp)) (hide_off it (by simp)) (hide_off env.locals (by simp)) hP
end
end Mine

namespace Mine
open PySem PySem.W PyProof.Rows PySem.Calls

section
variable {prog : Program} {w : World} {A : Around} {E : Value → Shared → Prop} {s : Shared} {env : Env}
theorem isTrue_And2 {x y : Expr} {pos : Pos} {whole : Sem Value} {Q : Bool → Shared → Prop}
    (h : wpAny (model prog w) A (isTrue x env (eval x env)) (fun b s₁ => if b = true then wpAny (model prog w) A (isTrue y env (eval y env)) Q E s₁ else Q false s₁) E s) :
    wpAny (model prog w) A (isTrue (.BoolOp .And [x, y] pos) env whole) Q E s := by
  show wpAny _ A (allTrue .And [x, y] env) Q E s
  unfold allTrue
  refine wpAny_bind (wpAny_mono h (fun b s₁ h₁ => ?_) fun _ _ e => e)
  cases b with
  | false => exact wpAny_pure h₁
  | true =>
    show wpAny _ A (allTrue .And [y] env) Q E s₁
    unfold allTrue
    refine wpAny_bind (wpAny_mono h₁ (fun b s₂ h₂ => ?_) fun _ _ e => e)
    cases b with
    | false => exact wpAny_pure h₂
    | true => exact wpAny_pure h₂
theorem isTrue_Or2 {x y : Expr} {pos : Pos} {whole : Sem Value} {Q : Bool → Shared → Prop}
    (h : wpAny (model prog w) A (isTrue x env (eval x env)) (fun b s₁ => if b = true then Q true s₁ else wpAny (model prog w) A (isTrue y env (eval y env)) Q E s₁) E s) :
    wpAny (model prog w) A (isTrue (.BoolOp .Or [x, y] pos) env whole) Q E s := by
  show wpAny _ A (allTrue .Or [x, y] env) Q E s
  unfold allTrue
  refine wpAny_bind (wpAny_mono h (fun b s₁ h₁ => ?_) fun _ _ e => e)
  cases b with
  | true => exact wpAny_pure h₁
  | false =>
    show wpAny _ A (allTrue .Or [y] env) Q E s₁
    unfold allTrue
    refine wpAny_bind (wpAny_mono h₁ (fun b s₂ h₂ => ?_) fun _ _ e => e)
    cases b with
    | false => exact wpAny_pure h₂
    | true => exact wpAny_pure h₂
end

section
variable {prog : Program} {w : World} {A : Around} {E : Value → Shared → Prop} {s : Shared} {d : Ad} {mg mb : Str → Option Value}

theorem type_tuple {hh : Heap} {T : Addr} {items : Array Value} {Q : Value → Shared → Prop} (hT : hh.IsTuple T items) (h : Q (.type "tuple") s) (hs : s.heap = hh := by rfl) : wpAny (model prog w) A (call (.type "type") [.ref T]) Q E s := by
  subst hs
  exact call_type_of hT.typeIs (by decide) h

theorem two_at {x y : Str} {t u : Tok} : ∀ {i : Nat}, i < 2 → ∃ z tz, (#[Value.str x t, .str y u] : Array Value)[i]? = some (.str z tz)
  | 0, _ => ⟨x, t, rfl⟩
  | 1, _ => ⟨y, u, rfl⟩
  | n + 2, h => absurd h (by omega)

theorem pair_two {a b : Value} {l : List Value} (h : Paired (fun i z => (#[a, b] : Array Value)[i]? = some z) [0, 1] l) : l = [a, b] := by
  cases h with
  | @cons _ z _ _ h1 h => cases h with
    | @cons _ z' _ _ h2 h => cases h with
      | nil =>
        have e1 : some a = some z := h1
        have e2 : some b = some z' := h2
        cases e1; cases e2; rfl

theorem common_call {hb hh : Heap} {T : Addr} {x y : Str} {t u : Tok} {k : Nat} {Q : Value → Shared → Prop} (N : NM d mg mb) (P : PG d mg mb hb) (K : Kp hb hh) (hroom : A.depth + 5 < recursionLimit) (hH : A.handled = none)
    (hT : hh.IsTuple T #[.str x t, .str y u]) (X : Part x y k)
    (h : ∀ h' t' tk, Kp hh h' → Q (.str (Txt.slice x none (some (k : Int))) t') { s with heap := h', toks := tk }) (hs : s.heap = hh := by rfl) : wpAny (model prog w) A (call (.ref d.common) [.ref T]) Q E s := by
  refine P.common.call (binds := [("m", .ref T)]) P.lim K (by omega) (fun _ _ _ _ _ _ _ => by rfl) (fun h₁ L cdv F => ?_) hs
  have P₁ := P.kp fun b o e => F.keep b o (K b o e)
  have T₁ := tup_at hT fun o e => F.keep _ o e
  refine wpAny_execs_cons (wpAny_If (isTrue_And2 (wpAny_isTrue_Compare1 (callT (nameB P₁.g N.type.1 P₁.b N.type.2 ⟨rfl, F.ld rfl (type_tuple T₁ (nameB P₁.g N.list.1 P₁.b N.list.2 (wpAny_isNot_other rfl (by decide) (wpAny_truthy_bool ?_))))⟩)))))
  rw [if_pos rfl]
  refine wpAny_isTrue_Compare1 (callT (nameB P₁.g N.type.1 P₁.b N.type.2 ⟨rfl, F.ld rfl (type_tuple T₁ (nameB P₁.g N.tuple.1 P₁.b N.tuple.2 (wpAny_isNot_self rfl (wpAny_truthy_bool ?_))))⟩))
  rw [if_neg (by decide)]
  refine wpAny_execs_nil ?_
  refine wpAny_execs_cons (wpAny_If (wpAny_isTrue_Not (isTrue_plain (F.ld rfl (truthy_tuple T₁ (by show (2 : Int) < 2 ^ 63; decide) ?_)))))
  rw [if_neg (by simp)]
  refine wpAny_execs_nil ?_
  dsimp only
  -- t = type(m[0])
  refine wpAny_execs_cons (wpAny_Assign_Name (callT (nameB P₁.g N.type.1 P₁.b N.type.2 ⟨rfl, Subscript_ (F.ld rfl (wpAny_Constant_int (item_tuple T₁ (by decide) (by decide) (j := 0) rfl rfl ?_)))⟩)))
  refine call_type_of (typeIs_str _ _ _) (by decide) ?_
  dsimp only
  refine F.st fun h₂ F₂ _ => ?_
  have P₂ := P.kp fun b o e => F₂.keep b o (K b o e)
  have T₂ := tup_at hT fun o e => F₂.keep _ o e
  refine wpAny_execs_cons (wpAny_If (isTrue_Or2 (wpAny_isTrue_Compare1 (F₂.ld rfl (nameB P₂.g N.list.1 P₂.b N.list.2 (wpAny_is_other rfl (by decide) (wpAny_truthy_bool ?_)))))))
  rw [if_neg (by decide)]
  refine wpAny_isTrue_Compare1 (F₂.ld rfl (nameB P₂.g N.tuple.1 P₂.b N.tuple.2 (wpAny_is_other rfl (by decide) (wpAny_truthy_bool ?_))))
  rw [if_neg (by decide)]
  refine wpAny_execs_nil ?_
  dsimp only
  -- for x in m
  refine wpAny_execs_cons (wpAny_For (F₂.ld rfl (wpAny_pyIter_tuple (by exact T₂) ?_)))
  have hitL : h₂.objs.size ≠ L := Nat.ne_of_gt F₂.ns.lt
  have hL0 : hh.get? L = none := F.off
  have hlt2 : ∀ b o, hh.get? b = some o → b < h₂.objs.size := fun b o e => Heap.lt_size (F₂.keep b o e)
  dsimp only
  refine codeAny_for (fun n s' => ∃ (i : Nat) (h : Heap) (tk : Nat) (m : Str → Option Value), i ≤ 2 ∧ n = 2 - i ∧ s' = { s with heap := h, toks := tk } ∧
    h.IsTupleIter h₂.objs.size T i ∧ h.Ns L m ∧ m "m" = some (.ref T) ∧ Kp hh h) ?_ 2
    ⟨0, _, _, _, by decide, rfl, rfl, ⟨_, Heap.get?_push_size _ rfl, rfl, rfl⟩, F₂.ns.push _, by rfl, fun b o e => Heap.get?_push_of_some _ (F₂.keep b o e)⟩
  rintro n s' ⟨i, h₃, tk, m, hi2, rfl, rfl, hit₃, hn, hm1, K₃⟩
  have T₃ := tup_at hT fun o e => K₃ _ o e
  rcases Nat.lt_or_eq_of_le hi2 with hlt | rfl
  · obtain ⟨z, tz, hz⟩ : ∃ z tz, (#[Value.str x t, .str y u] : Array Value)[i]? = some (.str z tz) := two_at hlt
    refine .inr (bound_tuple rfl (by rfl) hit₃ (by exact T₃) hz (by exact hn) hitL fun h₄ tk₄ hit₄ hn₄ K₄ => ?_)
    replace K₄ : KB [h₂.objs.size, L] h₃ h₄ := K₄
    have K₅ : Kp hh h₄ := fun b o q => K₄ b o (by
      simp only [List.mem_cons, List.not_mem_nil, or_false, not_or]
      exact ⟨Nat.ne_of_lt (hlt2 b o q), Ne.symm (ne_get hL0 q)⟩) (K₃ b o q)
    have F₄ : Fm hh L _ h₄ := ⟨hn₄, K₅, hL0⟩
    have P₄ := P.kp fun b o e => K₅ b o (K b o e)
    dsimp only
    refine wpAny_execs_cons (wpAny_Expr (callG P₄.kind (nameG P₄.g N.kind ⟨rfl, args_cons (Constant_str (args_cons (F₄.ld (by rfl) (args_nil ⟨fun _ _ e => e, ?_⟩))))⟩)))
    refine kind_call N P₄ (fun _ _ e => e) (by show A.depth + 1 < _; omega) fun h₅ t₅ k₅ K₆ => ?_
    refine wpAny_execs_nil ?_
    refine ⟨2 - (i + 1), by omega, i + 1, h₅, _, _, hlt, rfl, rfl, hit₄.at fun o e => K₆ _ o e, hn₄.keeps K₆, hm1, fun b o q => K₆ b o (K₅ b o q)⟩
  · refine .inl (ended_tuple hH hit₃ (by exact T₃) rfl fun h₄ K₄ => ?_)
    replace K₄ : KB [h₂.objs.size] h₃ h₄ := K₄
    have F₄ : Fm hh L m h₄ := ⟨hn.at' fun o e => K₄ _ o (by simp [Ne.symm hitL]) e, fun b o q => K₄ b o (by simp; exact Nat.ne_of_lt (hlt2 b o q)) (K₃ b o q), hL0⟩
    refine wpAny_execs_nil ?_
    dsimp only
    have P₄ := P.kp fun b o e => F₄.keep b o (K b o e)
    have T₄ := tup_at hT fun o e => F₄.keep _ o e
    have hTL : T ≠ L := by obtain ⟨o, e, _⟩ := hT; exact Ne.symm (ne_get hL0 e)
    refine wpAny_execs_cons (wpAny_Return_some (callG P₄.pref (nameG P₄.g N.pref ⟨rfl, args_cons (callT (nameB P₄.g N.tuple.1 P₄.b N.tuple.2 ⟨rfl, ?_⟩))⟩)))
    refine lc_eval (cl := []) (closureFor_none (by decide)) rfl (by decide) (by decide) rfl (F₄.ld (by exact hm1) (wpAny_pyIter_tuple (by exact T₄) ?_))
    have hT4 : T < h₄.objs.size := by obtain ⟨o, e, _⟩ := T₄; exact Heap.lt_size e
    refine ⟨h₄.objs.size, 2, _, _, _, fun _ => true, fun _ i z => (#[Value.str x t, .str y u] : Array Value)[i]? = some z, rfl, Src.tuple (by exact hH) h₄.objs.size T (Nat.ne_of_lt hT4) #[.str x t, .str y u], by decide,
      ⟨⟨_, Heap.get?_push_size _ rfl, rfl, rfl⟩, T₄.push _⟩, ?_, fun _ _ _ _ _ q => q, ?_, ?_⟩
    · intro b hb
      show b < (h₄.push _).objs.size
      rw [Heap.size_push]
      rcases List.mem_cons.mp hb with rfl | hb
      · exact Nat.lt_succ_self _
      · rw [List.mem_singleton.mp hb]; exact Nat.lt_succ_of_lt hT4
    · intro i v C D h₅ tk₅ m₅ hi hV hn₅ hm₅ K₅ hC hD _ _
      replace K₅ : ∀ b o, b ≠ h₄.objs.size → (h₄.push _).get? b = some o → h₅.get? b = some o := K₅
      have K₆ : Kp h₄ h₅ := fun b o e => K₅ b o (Nat.ne_of_lt (Heap.lt_size e)) (Heap.get?_push_of_some _ e)
      have P₅ := P₄.kp K₆
      refine wpAny_tests_nil ⟨rfl, h₅, tk₅, rfl, fun _ _ e => e, fun _ => ?_⟩
      obtain ⟨z, tz, hz⟩ := two_at (x := x) (y := y) (t := t) (u := u) hi
      obtain rfl : v = .str z tz := Option.some.inj (Eq.trans (Eq.symm hV) hz)
      refine callG P₅.fspath (nameG P₅.g N.fspath ⟨rfl, args_cons (Constant_str (args_cons (ldE hn₅ hm₅ (args_nil ⟨fun _ _ e => e, ?_⟩))))⟩)
      refine fspath_call N P₅ (fun _ _ e => e) (by show A.depth + 1 + 1 < _; omega) fun h₆ k₆ K₇ => ?_
      exact ⟨h₆, _, {}, rfl, K₇, (fun _ _ e => by cases e), (fun _ _ => rfl), hz⟩
    · intro D h₅ tk₅ ys g hD hl K₅ _ _ _ hP
      replace K₅ : ∀ b o, b ≠ h₄.objs.size → (h₄.push _).get? b = some o → h₅.get? b = some o := K₅
      have K₆ : Kp h₄ h₅ := fun b o e => K₅ b o (Nat.ne_of_lt (Heap.lt_size e)) (Heap.get?_push_of_some _ e)
      have hys : ys = #[.str x t, .str y u] := by
        have e : (List.range 2).filter (fun _ => true) = [0, 1] := by decide
        rw [e] at hP
        rw [← Array.toArray_toList (xs := ys), pair_two hP]
      subst hys
      dsimp only
      refine call_tuple_list hl.isList fun h₆ K₇ => ?_
      refine args_nil ⟨fun b o e => Heap.get?_push_of_some _ (K₇ b o (K₆ b o e)), ?_⟩
      refine prefix_call N (P₄.kp (h' := h₆.push _) fun b o e => Heap.get?_push_of_some _ (K₇ b o (K₆ b o e))) (fun _ _ e => e) (by show A.depth + 1 < _; omega) (by exact hH) ⟨_, Heap.get?_push_size _ rfl, rfl, _, rfl⟩ X fun h₇ t₇ k₇ K₈ => ?_
      exact h h₇ _ _ fun b o e => K₈ b o (Heap.get?_push_of_some _ (K₇ b o (K₆ b o (F₄.keep b o e))))
end
end Mine

namespace Mine
open PySem PySem.W PyProof.Rows PySem.Calls

section
variable {prog : Program} {w : World} {A : Around} {E : Value → Shared → Prop} {s : Shared} {d : Ad} {mg mb : Str → Option Value}

theorem call_fnB {a : Addr} {oc : Value} {od : Option Addr} {osl : Array (Option Value)} {name qual : Str} {params : Arguments} {body : List Stmt} {scope : Scope}
    {dV kV doc pm cdv ct : Value} {an : Option Addr} {vals : List Value} {binds : List (Str × Value)} {Q : Value → Shared → Prop}
    (hroom : A.depth < recursionLimit) (ho : s.heap.get? a = some ⟨oc, od, .func (fnOf name qual params body scope dV kV doc pm an cdv ct), osl⟩) (hlim : s.heap.NoLimit) (hcd : s.heap.CodeRec cdv qual)
    (hbind : ∀ (M : Model) (A : Around) (E : Value → Shared → Prop) (Q : List (Str × Value) → Shared → Prop), (∀ h' tk, Kp s.heap h' → Q binds { s with heap := h', toks := tk }) → wpAny M A (bindArgs (fnOf name qual params body scope dV kV doc pm an cdv ct) ⟨vals, []⟩) Q E s)
    (h : ∀ h₁ L tk, Fm s.heap L (mGet binds) h₁ →
      wpAny (model prog w) (A.deeper (envOf qual scope L a cdv)) (execs body (envOf qual scope L a cdv)) (fun f s' => Q (match f with | .ret v => v | _ => .none) s') NO
        { s with heap := h₁, toks := tk })
    (hcell : ∀ x ∈ scope.names, x.2 ≠ .cell := by decide) (hloc : ∀ x ∈ binds, scope.names.lookup x.1 = some .local := by exact locs (by rfl))
    (hco : scope.isCoroutine = false := by rfl) (hgen : scope.isGenerator = false := by rfl) (hk : scope.kind = .function := by rfl) :
    wpAny (model prog w) A (call (.ref a) vals) Q E s := by
  refine wpAny_call (codeAny_call_function hroom ho rfl hco hgen rfl hcd ?_)
  refine hbind _ _ _ _ fun h₀ tk₀ K₀ => wpAny_newFunctionEnv hcell hloc (fun h₁ hns hsb => ⟨(hlim.keeps K₀).fresh _ hsb, ?_⟩) hk
  have hsb' : Heap.SameBut h₀.objs.size (h₀.push { cls := .type "frame", data := .dict #[] }) h₁ := hsb
  show codeAny _ _ (.func body (envOf qual scope h₀.objs.size a cdv)) _ _
  have K₁ : Kp s.heap h₁ := fun b o e => hsb'.extBut b o (Nat.ne_of_lt (Heap.lt_size (K₀ b o e))) (Heap.get?_push_of_some _ (K₀ b o e))
  refine codeAny_func (wpAny_mono (h h₁ _ _ ⟨hns, K₁, ?_⟩) (fun _ _ x => x) fun _ _ x => x.elim)
  cases e : s.heap.get? h₀.objs.size with
  | none => rfl
  | some o => exact absurd (Heap.lt_size (K₀ _ _ e)) (Nat.lt_irrefl _)

theorem IsFn.callB {hb hh : Heap} {a : Addr} {n : Nat} {q : Str} {dV : Value} {vals : List Value} {binds : List (Str × Value)} {Q : Value → Shared → Prop} (f : IsFn hb a n q dV) (lim : hb.NoLimit) (K : Kp hb hh) (hroom : A.depth < recursionLimit)
    (hbind : ∀ name kV doc pm an cdv ct (s : Shared), s.heap = hh → ∀ (M : Model) (A : Around) (E : Value → Shared → Prop) (Q : List (Str × Value) → Shared → Prop), (∀ h' tk, Kp s.heap h' → Q binds { s with heap := h', toks := tk }) → wpAny M A (bindArgs (fnOf name q (fArgs (stN n)) (fBody (stN n)) (fScope (stN n)) dV kV doc pm an cdv ct) ⟨vals, []⟩) Q E s)
    (h : ∀ h₁ L cdv tk, Fm hh L (mGet binds) h₁ →
      wpAny (model prog w) (A.deeper (envOf q (fScope (stN n)) L a cdv)) (execs (fBody (stN n)) (envOf q (fScope (stN n)) L a cdv)) (fun f s' => Q (match f with | .ret v => v | _ => .none) s') NO
        { s with heap := h₁, toks := tk }) (hs : s.heap = hh := by rfl)
    (hcell : ∀ x ∈ (fScope (stN n)).names, x.2 ≠ .cell := by decide) (hloc : ∀ x ∈ binds, (fScope (stN n)).names.lookup x.1 = some .local := by exact locs (by rfl))
    (hco : (fScope (stN n)).isCoroutine = false := by rfl) (hgen : (fScope (stN n)).isGenerator = false := by rfl) (hk : (fScope (stN n)).kind = .function := by rfl) :
    wpAny (model prog w) A (PySem.call (.ref a) vals) Q E s := by
  subst hs
  obtain ⟨oc, od, osl, name, kV, doc, pm, an, cdv, ct, e, c⟩ := f
  exact call_fnB hroom (K _ _ e) (lim.keeps K) (c.keeps K) (hbind _ _ _ _ _ _ _ _ rfl) (fun h₁ L tk F => h h₁ _ _ tk F) hcell hloc hco hgen hk

theorem safe_binds1 {dA : Addr} {od : Option Addr} {nn : Nat} {sl : Array (Option Value)} {v : Value} {name q : Str} {kV doc pm cdv ct : Value} {an : Option Addr} {b : List Stmt} {sc : Scope} {M : Model} {Q : List (Str × Value) → Shared → Prop} (hd : s.heap.get? dA = some ⟨.type "tuple", od, .seq #[.bool false] nn, sl⟩)
    (hq : Q [("obj", v), ("short", .bool false)] s) : wpAny M A (bindArgs (fnOf name q (fArgs (stN 17)) b sc (.ref dA) kV doc pm an cdv ct) ⟨[v], []⟩) Q E s := by
  show wpAny M A (seqItems? (.ref dA) >>= fun r => _) Q E s
  refine wpAny_bind (wpAny_seqItems hd rfl ?_)
  exact wpAny_pure hq
theorem safe_binds2 {dA : Addr} {od : Option Addr} {nn : Nat} {sl : Array (Option Value)} {v u : Value} {name q : Str} {kV doc pm cdv ct : Value} {an : Option Addr} {b : List Stmt} {sc : Scope} {M : Model} {Q : List (Str × Value) → Shared → Prop} (hd : s.heap.get? dA = some ⟨.type "tuple", od, .seq #[.bool false] nn, sl⟩)
    (hq : Q [("obj", v), ("short", u)] s) : wpAny M A (bindArgs (fnOf name q (fArgs (stN 17)) b sc (.ref dA) kV doc pm an cdv ct) ⟨[v, u], []⟩) Q E s := by
  show wpAny M A (seqItems? (.ref dA) >>= fun r => _) Q E s
  refine wpAny_bind (wpAny_seqItems hd rfl ?_)
  exact wpAny_pure hq
end
end Mine

namespace Mine
open PySem PySem.W PyProof.Rows PySem.Calls

section
variable {prog : Program} {w : World} {A : Around} {E : Value → Shared → Prop} {s : Shared} {d : Ad} {mg mb : Str → Option Value}

/-- the defaults of safe_repr -/
def Dfl (h : Heap) (v : Value) : Prop := ∃ dA od nn sl, v = .ref dA ∧ h.get? dA = some ⟨.type "tuple", od, .seq #[.bool false] nn, sl⟩
theorem Dfl.kp {h h' : Heap} {v : Value} (D : Dfl h v) (K : Kp h h') : Dfl h' v := let ⟨dA, od, nn, sl, e, q⟩ := D; ⟨dA, od, nn, sl, e, K _ _ q⟩

/-- what safe_repr(x, True) tells -/
def shortRepr (r : Str) : Str := if r.length < 80 then r else Txt.slice r none (some 80) ++ " [truncated]..."

theorem safe_body {hb hh : Heap} {L a : Addr} {cd : Value} {x : Str} {t : Tok} {b : Bool} {Q : Value → Shared → Prop} (N : NM d mg mb) (P : PG d mg mb hb) (K : Kp hb hh)
    (hx : (reprText x).length ≤ 1000) (F : Fm hh L (mGet [("obj", .str x t), ("short", .bool b)]) s.heap)
    (h : ∀ h' t' tk, Kp hh h' → Q (.str (if b then shortRepr (reprText x) else reprText x) t') { s with heap := h', toks := tk }) :
    wpAny (model prog w) A (execs (fBody (stN 17)) (envOf "safe_repr" (fScope (stN 17)) L a cd)) (fun f s' => Q (match f with | .ret v => v | _ => .none) s') NO s := by
  have P₁ := P.kp fun b o e => F.keep b o (K b o e)
  have hlen : ¬ ((reprText x).length : Int) ≥ 2 ^ 63 := by omega
  refine wpAny_execs_cons (wpAny_Try_except (no_mono ?_))
  refine wpAny_execs_cons (wpAny_Assign_Name (callB (nameB P₁.g N.repr.1 P₁.b N.repr.2 ⟨rfl, F.ld rfl (PySem.P.repr_of_str ?_ (by rw [sizeLine_eq]; omega))⟩)))
  dsimp only
  refine F.st fun h₁ F₁ _ => ?_
  refine wpAny_execs_nil (wpAny_execs_nil ?_)
  have P₂ := P.kp fun b o e => F₁.keep b o (K b o e)
  dsimp only
  cases b with
  | false =>
    refine wpAny_execs_cons (wpAny_If (isTrue_Or2 (wpAny_isTrue_Not (isTrue_plain (F₁.ld rfl (wpAny_truthy_bool ?_))))))
    rw [if_pos rfl]
    refine wpAny_execs_cons (wpAny_Return_some (F₁.ld rfl ?_))
    exact h h₁ _ _ F₁.keep
  | true =>
    refine wpAny_execs_cons (wpAny_If (isTrue_Or2 (wpAny_isTrue_Not (isTrue_plain (F₁.ld rfl (wpAny_truthy_bool ?_))))))
    rw [if_neg (by decide)]
    refine wpAny_isTrue_Compare1 (callB (nameB P₂.g N.len.1 P₂.b N.len.2 ⟨rfl, F₁.ld rfl (len_str hlen (nameG P₂.g N.c80 (lt_int (wpAny_truthy_bool ?_))))⟩))
    have hif : (if true = true then shortRepr (reprText x) else reprText x) = shortRepr (reprText x) := if_pos rfl
    rw [hif] at h
    unfold shortRepr at h
    by_cases hc : (reprText x).length < 80
    · rw [if_pos (by simpa using (by omega : ((reprText x).length : Int) < 80))]
      refine wpAny_execs_cons (wpAny_Return_some (F₁.ld rfl ?_))
      rw [if_pos hc] at h
      exact h h₁ _ _ F₁.keep
    · rw [if_neg (by simpa using (by omega : ¬ ((reprText x).length : Int) < 80))]
      refine wpAny_execs_nil ?_
      refine wpAny_execs_cons (wpAny_Return_some (wpAny_BinOp (slice_to (F₁.ld rfl (nameG P₂.g N.c80 ⟨_, _, _, _, rfl, rfl, by rw [sizeLine_eq]; omega, fun h₃ t₃ k₃ K₃ => ?_⟩)))))
      rw [if_neg hc] at h
      have hsl1 := Txt.slice_le (reprText x) none (some 80)
      refine Constant_str (add_str ?_ ?_)
      · exact fun t' tk => h h₃ t' tk fun b o e => K₃ b o (F₁.keep b o e)
      · rw [sizeLine_eq]
        have : (Str.ofString " [truncated]...").length = 15 := by decide
        omega

theorem safe_call1 {hb hh : Heap} {x : Str} {t : Tok} {Q : Value → Shared → Prop} (N : NM d mg mb) (P : PG d mg mb hb) (D : Dfl hb d.sd) (K : Kp hb hh) (hroom : A.depth < recursionLimit) (hx : (reprText x).length ≤ 1000)
    (h : ∀ h' t' tk, Kp hh h' → Q (.str (reprText x) t') { s with heap := h', toks := tk }) (hs : s.heap = hh := by rfl) : wpAny (model prog w) A (call (.ref d.safe) [.str x t]) Q E s := by
  have D := D.kp K
  refine P.safe.callB (binds := [("obj", .str x t), ("short", .bool false)]) P.lim K hroom (fun name kV doc pm an cdv ct s' hs' M A E Q hq => ?_) (fun h₁ L cdv tk F => ?_) hs
  · obtain ⟨dA, od, nn, sl, e, q⟩ := D
    rw [e]
    exact safe_binds1 (by rw [hs']; exact q) (hq s'.heap s'.toks fun _ _ e => e)
  · exact safe_body N P K hx F fun h' t' tk K' => h h' t' tk K'
theorem safe_call2 {hb hh : Heap} {x : Str} {t : Tok} {b : Bool} {Q : Value → Shared → Prop} (N : NM d mg mb) (P : PG d mg mb hb) (D : Dfl hb d.sd) (K : Kp hb hh) (hroom : A.depth < recursionLimit) (hx : (reprText x).length ≤ 1000)
    (h : ∀ h' t' tk, Kp hh h' → Q (.str (if b then shortRepr (reprText x) else reprText x) t') { s with heap := h', toks := tk }) (hs : s.heap = hh := by rfl) : wpAny (model prog w) A (call (.ref d.safe) [.str x t, .bool b]) Q E s := by
  have D := D.kp K
  refine P.safe.callB (binds := [("obj", .str x t), ("short", .bool b)]) P.lim K hroom (fun name kV doc pm an cdv ct s' hs' M A E Q hq => ?_) (fun h₁ L cdv tk F => ?_) hs
  · obtain ⟨dA, od, nn, sl, e, q⟩ := D
    rw [e]
    exact safe_binds2 (by rw [hs']; exact q) (hq s'.heap s'.toks fun _ _ e => e)
  · exact safe_body N P K hx F fun h' t' tk K' => h h' t' tk K'

theorem shorten_call {hb hh : Heap} {x : Str} {p k : Int} {tx tp tk : Tok} {Q : Value → Shared → Prop} (N : NM d mg mb) (P : PG d mg mb hb) (K : Kp hb hh) (hroom : A.depth < recursionLimit)
    (hx : x.length ≤ 1000) (hp : 0 ≤ p) (hk : 0 ≤ k) (hpk : p + k + 12 < x.length)
    (h : ∀ h' t' tk, Kp hh h' → Q (.str (Txt.slice x none (some p) ++ "[" ++ Str.ofString (toString ((x.length : Int) - p - k)) ++ " chars]" ++ Txt.slice x (some ((x.length : Int) - k)) none) t') { s with heap := h', toks := tk }) (hs : s.heap = hh := by rfl) :
    wpAny (model prog w) A (call (.ref d.shorten) [.str x tx, .int p tp, .int k tk]) Q E s := by
  refine P.shorten.call (binds := [("s", .str x tx), ("prefixlen", .int p tp), ("suffixlen", .int k tk)]) P.lim K hroom (fun _ _ _ _ _ _ _ => by rfl) (fun h₁ L cdv F => ?_) hs
  exact shorten_body (P.g.keeps K) (P.b.keeps K) N.c12 N.len.1 N.len.2 F hx hp hk hpk fun h' t' tk K' => h h' t' tk K'
end
end Mine

namespace Mine
open PySem PySem.W PyProof.Rows PySem.Calls

theorem slot_map_init : Slot "map" "__init__" "object.__init__" :=
  .of (owner := "object") (n := "__init__") (by rw [typeLookup_type, builtinLookup_eq_fast]; kernel_rfl) (by decide +kernel) (by decide +kernel) (by decide +kernel)
    (by first | exact .inl (by decide +kernel) | exact .inr (by decide +kernel)) (by rw [isSubtype_type]; kernel_rfl)
theorem slot_map_iter : Slot "map" "__iter__" "map.__iter__" :=
  .of (owner := "map") (n := "__iter__") (by rw [typeLookup_type, builtinLookup_eq_fast]; kernel_rfl) (by decide +kernel) (by decide +kernel) (by decide +kernel)
    (by first | exact .inl (by decide +kernel) | exact .inr (by decide +kernel)) (by rw [isSubtype_type]; kernel_rfl)
theorem slot_map_next : Slot "map" "__next__" "map.__next__" :=
  .of (owner := "map") (n := "__next__") (by rw [typeLookup_type, builtinLookup_eq_fast]; kernel_rfl) (by decide +kernel) (by decide +kernel) (by decide +kernel)
    (by first | exact .inl (by decide +kernel) | exact .inr (by decide +kernel)) (by rw [isSubtype_type]; kernel_rfl)
theorem entry_map_iter : entryFor table "map.__iter__" = some Builtin.«dict_keyiterator.__iter__» :=
  entryFor_alias (id' := "dict_keyiterator.__iter__") (by kernel_rfl) (by first | rfl | decide +kernel | (unfold String.splitOn; simp +decide [String.splitOnAux])) (by decide +kernel) (by kernel_rfl)
theorem entry_map_next : entryFor table "map.__next__" = some Builtin.«map.__next__» := entryFor_of_tree (by kernel_rfl)
theorem entry_map_new : entryFor table "map.__new__" = some Builtin.«map.__new__» := entryFor_of_tree (by kernel_rfl)
theorem args_map_iter_1 (a : Value) : argsOk "map.__iter__" ⟨[a], []⟩ := by unfold argsOk; kernel_rfl
theorem args_map_next_1 (a : Value) : argsOk "map.__next__" ⟨[a], []⟩ := by unfold argsOk; kernel_rfl
theorem mro_map : mroOf (.type "map") = pure [.type "map", .type "object"] := by rw [mroOf_type]; kernel_rfl
theorem lookup_map_new : typeLookup (.type "map") "__new__" = pure (some (.builtin "map.__new__")) := by rw [typeLookup_type, builtinLookup_eq_fast]; kernel_rfl
theorem called_map : TypeCalled "map" "map.__new__" "object.__init__" :=
  ⟨by decide +kernel, by decide +kernel, ⟨_, _, mro_map⟩, madeBy_type mro_map lookup_map_new (by decide +kernel), by decide +kernel, by rw [isSubtype_type]; kernel_rfl, slot_map_init⟩
theorem typeCall_map_2 (a b : Value) : checkTypeCall "map" ⟨[a, b], []⟩ = pure () := by kernel_rfl
theorem newCall_map_2 (a b : Value) : checkBuiltinCall "map.__new__" ⟨[.type "map", a, b], []⟩ = pure () := by kernel_rfl
theorem sub_map : isSubtype (.type "map") (.type "map") = pure true := by rw [isSubtype_type]; kernel_rfl
theorem map_no_len : typeLookup (.type "map") "__len__" = pure none := by rw [typeLookup_type, builtinLookup_eq_fast]; kernel_rfl
theorem map_no_hint : typeLookup (.type "map") "__length_hint__" = pure none := by rw [typeLookup_type, builtinLookup_eq_fast]; kernel_rfl

abbrev IsMap (h : Heap) (z TI : Addr) (f : Value) : Prop :=
  h.get? z = some { cls := .type "map", dict := none, data := .fields #[.ref TI, f], slots := #[] }
abbrev IsOne (h : Heap) (T : Addr) (a : Value) : Prop := h.get? T = some { cls := .type "tuple", data := .seq #[a] }
abbrev mapH1 (h : Heap) (l : Addr) : Heap := h.push { cls := .type "tuple_iterator", data := .fields #[.ref l, .int 0 0] }
abbrev mapH2 (h : Heap) (l : Addr) : Heap := (mapH1 h l).push { cls := .type "tuple", data := .seq #[.ref h.objs.size] }
abbrev mapH3 (h : Heap) (l : Addr) (f : Value) : Heap := (mapH2 h l).push { cls := .type "map", data := .fields #[.ref (mapH1 h l).objs.size, f] }

theorem meets_map_new (f : Value) (l : Addr) (items : Array Value) :
    Meets (Builtin.«map.__new__» ⟨[.type "map", f, .ref l], []⟩) (fun _ R s => s.heap.IsTuple l items ∧
      R (.ok (.ret (.ref (mapH2 s.heap l).objs.size))) { s with heap := mapH3 s.heap l f }) :=
  .of_wp fun prog w A R s h => by
    obtain ⟨hp, g, d, tk, os⟩ := s; obtain ⟨hl1, h⟩ := h
    have hsub := sub_map
    have hL1 : Heap.IsTuple (Shared.heap ⟨hp, g, d, tk, os⟩) l items := hl1
    wp_walk using wpAny_pyIter_tuple hL1
    exact ⟨_, rfl, h⟩

section
variable {prog : Program} {w : World} {A : Around} {E : Value → Shared → Prop} {s : Shared}

theorem call_map {hh : Heap} {f : Value} {l : Addr} {items : Array Value} {Q : Value → Shared → Prop} (hl : hh.IsTuple l items)
    (h : ∀ h' z TI it, IsMap h' z TI f → IsOne h' TI (.ref it) → h'.IsTupleIter it l 0 → hh.get? z = none → hh.get? TI = none → hh.get? it = none → it ≠ z → it ≠ TI → z < h'.objs.size → TI < h'.objs.size → it < h'.objs.size → hh.objs.size ≤ h'.objs.size → Kp hh h' → Q (.ref z) { s with heap := h' }) (hs : s.heap = hh := by rfl) :
    wpAny (model prog w) A (call (.type "map") [f, .ref l]) Q E s := by
  subst hs
  refine callType_new called_map (by decide) (typeCall_map_2 _ _) (newCall_map_2 _ _) (fun obj => F.args_object_init_3 obj _ _) entry_map_new (meets_map_new f l items) ⟨hl, ?_⟩
  have z1 : (mapH1 s.heap l).objs.size = s.heap.objs.size + 1 := Heap.size_push ..
  have z2 : (mapH2 s.heap l).objs.size = s.heap.objs.size + 2 := by rw [Heap.size_push, z1]
  have z3 : (mapH3 s.heap l f).objs.size = s.heap.objs.size + 3 := by rw [Heap.size_push, z2]
  have g3 : (mapH3 s.heap l f).get? (mapH2 s.heap l).objs.size = some _ := Heap.get?_push_size _ rfl
  have g2 : (mapH3 s.heap l f).get? (mapH1 s.heap l).objs.size = some _ := Heap.get?_push_of_some _ (Heap.get?_push_size _ rfl)
  have g1 : (mapH3 s.heap l f).get? s.heap.objs.size = some _ := Heap.get?_push_of_some _ (Heap.get?_push_of_some _ (Heap.get?_push_size _ rfl))
  refine ⟨⟨_, g3, rfl⟩, h _ _ _ _ g3 g2 ⟨_, g1, rfl, rfl⟩ (get_none (by rw [z2]; exact Nat.le_add_right ..)) (get_none (by rw [z1]; exact Nat.le_add_right ..)) (get_none (Nat.le_refl _)) ?_ ?_ ?_ ?_ ?_ ?_ fun c o x => Heap.get?_push_of_some _ (Heap.get?_push_of_some _ (Heap.get?_push_of_some _ x))⟩
  · rw [z2]; exact Nat.ne_of_lt (Nat.lt_add_of_pos_right (by decide))
  · rw [z1]; exact Nat.ne_of_lt (Nat.lt_add_of_pos_right (by decide))
  · exact Heap.lt_size g3
  · exact Heap.lt_size g2
  · exact Heap.lt_size g1
  · rw [z3]; exact Nat.le_add_right ..

theorem nextOf_tuple_item {it t : Addr} {i : Nat} {items : Array Value} {x : Value} {Q : Value → Shared → Prop} (hit : s.heap.IsTupleIter it t i) (ht : s.heap.IsTuple t items) (hx : items[i]? = some x)
    (hQ : ∀ h', h'.IsTupleIter it t (i + 1) → Heap.SameBut it s.heap h' → Q x { s with heap := h' }) :
    wpAny (model prog w) A (Builtin.SmallTypes.nextOf (.ref it)) Q E s := by
  obtain ⟨o, ho, hc, hd⟩ := id hit
  obtain ⟨ol, hol, _, nl, hdl⟩ := ht
  unfold Builtin.SmallTypes.nextOf
  refine wpAny_bind (wpAny_callSpecial?_slot (name := Str.ofString "__next__") hit.typeIs F.slot_tuple_iterator_next
    (wpAny_call_entry F.slot_tuple_iterator_next hit.typeIs F.entry_tuple_iterator_next ?_ (F.args_tuple_iterator_next_1 _)))
  show wpAny _ _ (field (.ref it) 0 >>= _) _ _ s
  refine wpAny_bind (wpAny_field ho hd (x := .ref t) rfl ?_)
  show wpAny _ _ (if (Value.ref t == Value.none) = true then _ else _) _ _ s
  rw [if_neg (show ¬ ((Value.ref t == Value.none) = true) from Bool.false_ne_true)]
  show wpAny _ _ (field (.ref it) 1 >>= _) _ _ s
  refine wpAny_bind (wpAny_field ho hd (x := .int i 0) rfl ?_)
  show wpAny _ _ (seqItems? (.ref t) >>= _) _ _ s
  refine wpAny_bind (wpAny_seqItems hol hdl ?_)
  simp only [Int.toNat_natCast, hx]
  refine wpAny_bind (wpAny_setField ho hd (by simp) (wpAny_pure ⟨x, rfl, wpAny_pure (hQ _ ?_ (Heap.SameBut.update ..))⟩))
  exact ⟨_, Heap.get?_update_self _ ho (Obj.isFreed_of_fields (Obj.data_mapFields hd _)), (Obj.cls_mapFields ..).trans hc, by
    rw [Obj.data_mapFields hd]; simp [rawInt]⟩

theorem nextOf_tuple_end {it t : Addr} {i : Nat} {items : Array Value} {Q : Value → Shared → Prop} (hh : A.handled = none) (hit : s.heap.IsTupleIter it t i) (ht : s.heap.IsTuple t items) (hx : items[i]? = none)
    (hE : ∀ h' e, Heap.ExtBut it s.heap h' → (∃ o, h'.get? e = some o ∧ o.cls = .type "StopIteration") → E (.ref e) { s with heap := h' }) :
    wpAny (model prog w) A (Builtin.SmallTypes.nextOf (.ref it)) Q E s := by
  obtain ⟨o, ho, hc, hd⟩ := id hit
  obtain ⟨ol, hol, _, nl, hdl⟩ := ht
  unfold Builtin.SmallTypes.nextOf
  refine wpAny_bind (wpAny_callSpecial?_slot (name := Str.ofString "__next__") hit.typeIs F.slot_tuple_iterator_next
    (wpAny_call_entry F.slot_tuple_iterator_next hit.typeIs F.entry_tuple_iterator_next ?_ (F.args_tuple_iterator_next_1 _)))
  show wpAny _ _ (field (.ref it) 0 >>= _) _ _ s
  refine wpAny_bind (wpAny_field ho hd (x := .ref t) rfl ?_)
  show wpAny _ _ (if (Value.ref t == Value.none) = true then _ else _) _ _ s
  rw [if_neg (show ¬ ((Value.ref t == Value.none) = true) from Bool.false_ne_true)]
  show wpAny _ _ (field (.ref it) 1 >>= _) _ _ s
  refine wpAny_bind (wpAny_field ho hd (x := .int i 0) rfl ?_)
  show wpAny _ _ (seqItems? (.ref t) >>= _) _ _ s
  refine wpAny_bind (wpAny_seqItems hol hdl ?_)
  simp only [Int.toNat_natCast, hx]
  refine wpAny_bind (wpAny_rule (wpAny_bind (wpAny_setField ho hd (by simp) ?_)))
  show wpAny _ _ (newExc (.type "StopIteration") [] >>= _) _ _ _
  refine wpAny_bind ?_
  simp only [newExc, newTuple]
  refine wpAny_bind (wpAny_newObj_type ?_ (by size_fits))
  refine wpAny_bind (m := firstArgMember _ _) (wpAny_of_eq (a := Value.none) (by first | rfl | (simp only [firstArgMember]; rfl)) ?_)
  refine wpAny_newObj_type ?_ (by size_fits)
  simp only [raiseNew]
  refine wpAny_bind (wpAny_handled ?_)
  first | rw [show A.in1.handled = none from hh] | rw [hh]
  refine wpAny_bind (wpAny_pure (wpAny_throw ?_))
  exact hE _ _ (((Heap.SameBut.update ..).extBut.push _).push _) ⟨_, Heap.get?_push_size _ rfl, rfl⟩

theorem map_next {z TI it : Addr} {f : Value} {Q : Value → Shared → Prop} (hz : IsMap s.heap z TI f) (hTI : IsOne s.heap TI (.ref it))
    (h : wpAny (model prog w) A (Builtin.SmallTypes.nextOf (.ref it)) (fun x s₁ => IsMap s₁.heap z TI f ∧ wpAny (model prog w) A (call f [x]) Q E s₁) E s) :
    wpAny (model prog w) A (Builtin.«map.__next__» ⟨[.ref z], []⟩) (fun fin s' => ∃ v, fin = .done (.ret v) ∧ Q v s') E s := by
  show wpAny _ _ (field (.ref z) 0 >>= _) _ _ _
  refine wpAny_bind (wpAny_field hz rfl (x := .ref TI) rfl ?_)
  refine wpAny_bind (wpAny_seqItems hTI rfl ?_)
  show wpAny _ _ (forIn #[Value.ref it] _ _ >>= _) _ _ _
  refine wpAny_bind ?_
  simp only [List.forIn_toArray, List.forIn_cons, List.forIn_nil]
  refine wpAny_bind (wpAny_bind (wpAny_holding (wpAny_mono h (fun x s₁ h₁ => ?_) fun _ _ e => e)))
  refine wpAny_pure (wpAny_pure ?_)
  refine wpAny_bind (wpAny_field h₁.1 rfl (x := f) rfl ?_)
  refine wpAny_bind (wpAny_holding (wpAny_mono h₁.2 (fun y s₂ h₂ => ?_) fun _ _ e => e))
  exact wpAny_bind (wpAny_letGo (wpAny_pure ⟨_, rfl, h₂⟩))

theorem pyNext_map_item {z TI it t : Addr} {i : Nat} {items : Array Value} {f x : Value} {Q : Option Value → Shared → Prop} (hz : IsMap s.heap z TI f) (hTI : IsOne s.heap TI (.ref it)) (hne : z ≠ it)
    (hit : s.heap.IsTupleIter it t i) (ht : s.heap.IsTuple t items) (hx : items[i]? = some x)
    (h : ∀ h', h'.IsTupleIter it t (i + 1) → Heap.SameBut it s.heap h' → wpAny (model prog w) A.in1 (call f [x]) (fun v s' => Q (some v) s') NO { s with heap := h' }) :
    wpAny (model prog w) A (pyNext (.ref z)) Q E s := by
  have hT : s.TypeIs (.ref z) "map" := ⟨_, hz, rfl⟩
  unfold pyNext
  refine wpAny_bind (wpAny_attempt (wpAny_callSpecial?_slot (name := Str.ofString "__next__") hT slot_map_next
    (wpAny_call_entry slot_map_next hT entry_map_next (wpAny_mono (map_next (E := NO) (Q := fun v s' => Q (some v) s') hz hTI (nextOf_tuple_item hit ht hx fun h' hit' hs' => ⟨hs'.extBut _ _ hne hz, h h' hit' hs'⟩)) (fun fin s' hf => ?_) fun _ _ e => e.elim) (args_map_next_1 _))))
  obtain ⟨v, rfl, hq⟩ := hf
  exact ⟨v, rfl, wpAny_pure hq⟩
theorem pyNext_map_end {z TI it t : Addr} {i : Nat} {items : Array Value} {f : Value} {Q : Option Value → Shared → Prop} (hh : A.handled = none) (hz : IsMap s.heap z TI f) (hTI : IsOne s.heap TI (.ref it))
    (hit : s.heap.IsTupleIter it t i) (ht : s.heap.IsTuple t items) (hx : items[i]? = none)
    (h : ∀ h', Heap.ExtBut it s.heap h' → Q none { s with heap := h' }) :
    wpAny (model prog w) A (pyNext (.ref z)) Q E s := by
  have hT : s.TypeIs (.ref z) "map" := ⟨_, hz, rfl⟩
  unfold pyNext
  refine wpAny_bind (wpAny_attempt (wpAny_callSpecial?_slot (name := Str.ofString "__next__") hT slot_map_next
    (wpAny_call_entry slot_map_next hT entry_map_next (wpAny_mono (map_next (Q := fun _ _ => False) hz hTI (nextOf_tuple_end (by exact hh) hit ht hx fun h' e hk he => ?_)) (fun fin s' hf => ?_) fun _ _ e => e) (args_map_next_1 _))))
  · obtain ⟨o, ho, hc⟩ := he
    exact wpAny_bind (wpAny_isInstance (T := "StopIteration") (b := true) ⟨o, ho, hc⟩ isSubtype_stop (wpAny_pure (h _ hk)))
  · obtain ⟨v, rfl, hq⟩ := hf
    exact hq.elim

theorem pyIter_map {z TI : Addr} {f : Value} {Q : Value → Shared → Prop} (hz : IsMap s.heap z TI f) (h : Q (.ref z) s) : wpAny (model prog w) A (pyIter (.ref z)) Q E s := by
  have hT : s.TypeIs (.ref z) "map" := ⟨_, hz, rfl⟩
  refine wpAny_pyIter_slot hT slot_map_iter (wpAny_call_entry slot_map_iter hT entry_map_iter ?_ (args_map_iter_1 _))
  show wpAny _ _ (ret (.ref z)) _ _ s
  exact wpAny_pure ⟨_, rfl, "map", _, hT, slot_map_next.lookup, h⟩

/-- a map over a tuple, by a function that keeps all old objects -/
theorem walks_map (hH : A.handled = none) {hb : Heap} {z TI it t : Addr} {f : Value} {items : Array Value} {F : Nat → Value → Prop} (hz : z ≠ it) (hTI : TI ≠ it) (ht : t ≠ it) (hbit : hb.get? it = none)
    (hf : ∀ i v (s : Shared) (Q : Value → Shared → Prop), items[i]? = some v → Kp hb s.heap → (∀ y h' tk, F i y → Kp s.heap h' → Q y { s with heap := h', toks := tk }) → wpAny (model prog w) A.in1 (call f [v]) Q NO s) :
    Walks prog w A z (z :: TI :: it :: t :: List.range hb.objs.size) [it] items.size F (fun i h => IsMap h z TI f ∧ IsOne h TI (.ref it) ∧ h.IsTupleIter it t i ∧ h.IsTuple t items ∧ Kp hb h) where
  sub := fun b hb => by simp at hb; simp [hb]
  frame := fun i h h' st hk => ⟨hk z (by simp) _ st.1, hk TI (by simp) _ st.2.1, (let ⟨o, e, r⟩ := st.2.2.1; ⟨o, hk it (by simp) _ e, r⟩), tup_at st.2.2.2.1 fun o e => hk t (by simp) o e,
    fun b o e => hk b (by simp [Heap.lt_size e]) o (st.2.2.2.2 b o e)⟩
  item := fun i s Q E hi st hQ => by
    obtain ⟨hz', hTI', hit, ht', K⟩ := st
    refine pyNext_map_item hz' hTI' hz hit ht' (x := items[i]) (by simp [hi]) fun h₁ hit₁ hs₁ => ?_
    replace hs₁ : Heap.SameBut it s.heap h₁ := hs₁
    have K₁ : Kp hb h₁ := fun b o e => hs₁.extBut b o (fun q => by rw [q, hbit] at e; cases e) (K b o e)
    refine hf i _ _ _ (by simp [hi]) K₁ fun y h' tk hF hk => ?_
    replace hk : Kp h₁ h' := hk
    refine hQ y h' tk hF ⟨hk _ _ (hs₁.extBut _ _ hz hz'), hk _ _ (hs₁.extBut _ _ hTI hTI'), (let ⟨o, e, r⟩ := hit₁; ⟨o, hk _ _ e, r⟩), tup_at ht' fun o e => hk _ _ (hs₁.extBut _ _ ht e), fun b o e => hk _ _ (K₁ b o e)⟩ fun b o hb e => hk _ _ (hs₁.extBut b o (fun q => hb (by simp [q])) e)
  done := fun s Q E st hQ => by
    obtain ⟨hz', hTI', hit, ht', K⟩ := st
    exact pyNext_map_end hH hz' hTI' hit ht' (by simp) fun h' hk => hQ h' s.toks fun b o hb e => hk b o (fun q => hb (by simp [q])) e
  self := fun i s Q E st hQ => pyIter_map st.1 hQ
end

section
variable {prog : Program} {w : World} {A : Around} {E : Value → Shared → Prop} {s : Shared} {I : Addr} {fp wr : List Addr} {G : Array GenState → Array GenState → Prop} {n : Nat} {P : Nat → Value → Prop} {St : Nat → Shared → Prop}

theorem collect_map {Q : List Value → Shared → Prop} (W : WalksS prog w A.in1 I fp wr G n P St) (hT : ∀ i s, St i s → s.TypeIs (.ref I) "map") (hst : St 0 s) (hfp : ∀ b ∈ fp, b < s.heap.objs.size) (hI : I ∈ fp)
    (hQ : ∀ s' acc, Moved wr G s s' → ItemsOf P acc n → Q acc.toList s') (hn : n ≤ sizeLine) : wpAny (model prog w) A (collect (.ref I)) Q E s := by
  have hSf : s.heap.objs.size ∉ fp := fun hm => Nat.lt_irrefl _ (hfp _ hm)
  have hSI : s.heap.objs.size ≠ I := fun e => hSf (e ▸ hI)
  have hst₁ := W.frame 0 s (s.heap.push { cls := .type "list", data := .seq ([] : List Value).toArray }) s.toks hst (Nat.le_refl _) fun b _ o e => Heap.get?_push_of_some _ e
  have hTy := hT 0 _ hst₁
  unfold collect
  refine wpAny_bind (wpAny_runValue (codeAny_builtin F.entry_proto_collect ?_))
  rw [Around.under_plainId F.plain_proto_collect _]
  show wpAny _ A.in1 (newList [] >>= fun l => again (.builtin "list.__iadd__" ⟨[l, .ref I], []⟩)) _ _ s
  refine wpAny_bind (wpAny_newObj_type (wpAny_pure ⟨plainId_quiet F.plain_list_iadd _, codeAny_builtin F.entry_list_iadd ?_⟩))
  rw [Around.under_plainId F.plain_list_iadd _]
  show wpAny _ A.in1 (Builtin.List.listExtendWith (.ref s.heap.objs.size) (.ref I) (.ref s.heap.objs.size)) _ _ _
  unfold Builtin.List.listExtendWith
  refine wpAny_bind (wpAny_typeOf hTy ?_)
  rw [if_neg (by simp [Builtin.List.listSameRef, hSI])]
  refine wpAny_bind (W.self 0 _ _ _ hst₁ (wpAny_bind (wpAny_holding ?_)))
  unfold Builtin.List.listLengthHint
  refine wpAny_bind (wpAny_specialOf hTy map_no_len ?_)
  show wpAny _ A.in1 (specialOf (Value.ref I) (Str.ofString "__length_hint__") >>= _) _ _ _
  refine wpAny_bind (wpAny_specialOf hTy map_no_hint (wpAny_pure ?_))
  show wpAny _ A.in1 (rule "list.extend.makes-room" >>= fun _ => Builtin.List.listTouch (.ref s.heap.objs.size) >>= fun _ =>
    again (.builtin "list.extend.loop" ⟨[.ref s.heap.objs.size, .ref I, .ref s.heap.objs.size], []⟩)) _ _ _
  have hS₁ : (s.heap.push { cls := .type "list", data := .seq ([] : List Value).toArray }).get? s.heap.objs.size = some { cls := .type "list", data := .seq ([] : List Value).toArray } := Heap.get?_push_size _ rfl
  refine wpAny_bind (wpAny_rule (wpAny_bind ?_))
  show wpAny _ A.in1 (updateSeq s.heap.objs.size (·.push .none) >>= fun _ => updateSeq s.heap.objs.size (·.pop)) _ _ _
  refine wpAny_bind (wpAny_updateSeq hS₁ rfl ?_)
  have hS₂ := Heap.get?_update_self (Obj.mapSeq (·.push Value.none)) hS₁ rfl
  refine wpAny_updateSeq hS₂ rfl ?_
  have hS₃ := Heap.get?_update_self (Obj.mapSeq (·.pop)) hS₂ rfl
  refine wpAny_pure ⟨plainId_quiet F.plain_extend_loop _, codeAny_extend_loopS W hn _ hSf _ n 0 _ _ _ rfl (Nat.zero_le _)
    (W.frame 0 ({ s with heap := s.heap.push { cls := .type "list", data := .seq ([] : List Value).toArray } } : Shared) _ s.toks hst₁ (Nat.le_refl _) fun b hb o e =>
      (Heap.get?_update_other _ _ (fun q : s.heap.objs.size = b => hSf (by rw [q]; exact hb))).trans ((Heap.get?_update_other _ _ (fun q : s.heap.objs.size = b => hSf (by rw [q]; exact hb))).trans e)) hS₃ (ItemsOf.nil P) fun s' acc' c' hm hS' hacc => ?_⟩
  show wpAny _ A (load s.heap.objs.size >>= _) _ _ s'
  refine wpAny_bind (wpAny_load hS' (wpAny_pure (hQ s' acc' ?_ hacc)))
  refine Moved.drop_new (o := { cls := .type "list", data := .seq ([] : List Value).toArray }) (tk := s.toks) (Moved.trans W.gtrans ((Moved.refl W.grefl).then_heap (Nat.le_refl _) fun b o hb e => ?_) hm) (Nat.le_refl _)
  have ne : s.heap.objs.size ≠ b := fun q => hb (q ▸ List.mem_cons_self)
  exact (Heap.get?_update_other _ _ ne).trans ((Heap.get?_update_other _ _ ne).trans e)

theorem call_tuple_map {Q : Value → Shared → Prop} (W : WalksS prog w A.in1.in1.in1 I fp wr G n P St) (hT : ∀ i s, St i s → s.TypeIs (.ref I) "map") (hst : St 0 s) (hfp : ∀ b ∈ fp, b < s.heap.objs.size) (hI : I ∈ fp)
    (hQ : ∀ s' acc, Moved wr G s s' → ItemsOf P acc n → Q (.ref s'.heap.objs.size) { s' with heap := s'.heap.push { cls := .type "tuple", data := .seq acc } }) (hsz : n ≤ sizeLine) :
    wpAny (model prog w) A (call (.type "tuple") [.ref I]) Q E s := by
  refine callType_codes (Q₁ := fun obj s₁ => s₁.TypeIs obj "tuple" ∧ Q obj s₁) F.called_tuple (F.typeCall_tuple_1 _) F.entry_object_init ?_ fun obj s₁ h₁ => ?_
  · refine codeAny_of_tree ?_
    show wpAny _ A.in1.in1 (do checkBuiltinCall "tuple.__new__" ⟨[.type "tuple", .ref I], []⟩; again (.builtin "tuple.__new__" ⟨[.type "tuple", .ref I], []⟩)) _ _ s
    refine wpAny_bind (wpAny_of_eq (F.newCall_tuple_1 _) (wpAny_pure ⟨plainId_quiet F.plain_tuple_new _, codeAny_builtin F.entry_tuple_new ?_⟩))
    rw [Around.under_plainId F.plain_tuple_new _]
    have hsub := sub_tuple_self
    have hinit := init_tuple_lookup
    have hmh := madeHere_tuple
    have hTI := hT 0 s hst
    wp_walk using wpAny_typeOf hTI, collect_map (hn := hsz) W hT hst hfp hI
    intro s' acc hm hacc
    show wpAny _ _ (Builtin.Tuple.tupleExact acc.toList.toArray >>= fun v => ret v) _ _ _
    unfold Builtin.Tuple.tupleExact
    refine wpAny_bind (wpAny_newObj_type (wpAny_pure ?_) (by show acc.toList.toArray.size ≤ sizeLine; simp only [Array.toArray_toList]; rw [hacc.1]; exact hsz))
    have e : acc.toList.toArray = acc := by simp
    rw [e]
    exact ⟨⟨_, Heap.get?_push_size _ rfl, rfl⟩, hQ s' acc hm hacc⟩
  · exact ⟨h₁.1, F.args_object_init_2 obj _, object_init_meets F.called_tuple.init.lookup F.called_tuple.made (by decide) prog w A.in1 _ s₁ ⟨h₁.1, rfl, h₁.2⟩⟩
end
end Mine

namespace Mine
open PySem PySem.W PyProof.Rows PySem.Calls

abbrev cellsAt (scope : Scope) (L : Addr) : List (Str × Addr) := cellsFrom (L + 1) scope.names []

/-- a frame with cells -/
structure FmC (hb : Heap) (L : Addr) (m : Str → Option Value) (cs : List (Str × Addr)) (cm : Str → Option Value) (h : Heap) : Prop where
  fm : Fm hb L m h
  cl : Cl L cs h cm
  offC : ∀ n c, (n, c) ∈ cs → hb.get? c = none

section
variable {hb h h' : Heap} {L : Addr} {m m' cm : Str → Option Value} {cs : List (Str × Addr)}
theorem FmC.kp (F : FmC hb L m cs cm h) (hk : Kp h h') : FmC hb L m cs cm h' := ⟨F.fm.kp hk, F.cl.keeps hk, F.offC⟩
theorem FmC.ns (F : FmC hb L m cs cm h) : h.Ns L m := F.fm.ns
theorem FmC.keep (F : FmC hb L m cs cm h) : Kp hb h := F.fm.keep
theorem FmC.set (F : FmC hb L m cs cm h) (hn : h'.Ns L m') (hs : Heap.SameBut L h h') : FmC hb L m' cs cm h' := ⟨F.fm.set hn hs, F.cl.sameBut hs (Nat.le_refl _), F.offC⟩
theorem FmC.setC (F : FmC hb L m cs cm h) {x : Str} {c : Addr} {v : Value} (hc : cs.lookup x = some c) (hv : h'.IsCell c (some v)) (hs : Heap.SameBut c h h') : FmC hb L m cs (upd cm x v) h' := by
  have hLc : L < c := F.cl.above x c (mem_of_lookup hc)
  refine ⟨⟨F.fm.ns.sameBut hs (Nat.ne_of_lt hLc), fun b o e => (hs.2 b fun q => by rw [q, F.offC x c (mem_of_lookup hc)] at e; cases e).trans (F.fm.keep b o e), F.fm.off⟩, ⟨fun n c' e => ?_, F.cl.apart, F.cl.above⟩, F.offC⟩
  by_cases hn : n = x
  · subst hn; rw [hc] at e; cases e; simpa [upd] using hv
  · have hcc : c' ≠ c := fun q => hn (name_of_addr F.cl.apart (mem_of_lookup e) (q ▸ mem_of_lookup hc))
    simpa [upd, hn] using (F.cl.cell n c' e).sameBut hs hcc
end

section
variable {M : Model} {A : Around} {E : Value → Shared → Prop} {s : Shared} {q : Str} {scope : Scope} {L a : Addr} {cd : Value} {hb hh : Heap} {m cm : Str → Option Value}

theorem FmC.ld {x : Str} {pos : Pos} {v : Value} {Q : Value → Shared → Prop} (F : FmC hb L m (cellsAt scope L) cm hh) (hv : m x = some v) (h : Q v s) (hs : s.heap = hh := by rfl)
    (hk : scope.kind = .function := by rfl) (hl : (envOfC q scope L a cd).kindOf x = some .local := by rfl) (hd : (x == ("__debug__" : Str)) = false := by decide) :
    wpAny M A (eval (.Name x pos) (envOfC q scope L a cd)) Q E s := by
  subst hs; exact wpAny_Name (wpAny_loadName_local hk hl F.fm.ns hv h) hd
theorem FmC.ldc {x : Str} {pos : Pos} {c : Addr} {v : Value} {Q : Value → Shared → Prop} (F : FmC hb L m (cellsAt scope L) cm hh) (hc : (cellsAt scope L).lookup x = some c) (hv : cm x = some v) (h : Q v s) (hs : s.heap = hh := by rfl)
    (hk : scope.kind = .function := by rfl) (hl : (envOfC q scope L a cd).kindOf x = some .cell := by rfl) (hd : (x == ("__debug__" : Str)) = false := by decide) :
    wpAny M A (eval (.Name x pos) (envOfC q scope L a cd)) Q E s := by
  subst hs; exact wpAny_Name (wpAny_loadName_cell hk hl hc (hv ▸ F.cl.cell x c hc) h) hd
theorem FmC.st {x : Str} {v : Value} {Q : Unit → Shared → Prop} (F : FmC hb L m (cellsAt scope L) cm hh)
    (h : ∀ h', FmC hb L (upd m x v) (cellsAt scope L) cm h' → Heap.SameBut L hh h' → Q () { s with heap := h', toks := s.toks + 1 }) (hs : s.heap = hh := by rfl)
    (hk : scope.kind = .function := by rfl) (hl : (envOfC q scope L a cd).kindOf x = some .local := by rfl) :
    wpAny M A (storeName (envOfC q scope L a cd) x v) Q E s := by
  subst hs; exact wpAny_storeName_local hl F.fm.ns (fun h' hn hs => h h' (F.set hn hs) hs) (by show (scope.kind == .class || (scope.kind == .module && L != mainGlobals)) = false; rw [hk]; rfl)
theorem FmC.stc {x : Str} {c : Addr} {v : Value} {Q : Unit → Shared → Prop} (F : FmC hb L m (cellsAt scope L) cm hh) (hc : (cellsAt scope L).lookup x = some c)
    (h : ∀ h', FmC hb L m (cellsAt scope L) (upd cm x v) h' → Heap.SameBut c hh h' → Q () { s with heap := h' }) (hs : s.heap = hh := by rfl)
    (hk : scope.kind = .function := by rfl) (hl : (envOfC q scope L a cd).kindOf x = some .cell := by rfl) :
    wpAny M A (storeName (envOfC q scope L a cd) x v) Q E s := by
  subst hs; exact wpAny_storeName_cell hk hl hc (F.cl.cell x c hc) fun h' hv hs => h h' (F.setC hc hv hs) hs
end

section
variable {prog : Program} {w : World} {A : Around} {E : Value → Shared → Prop} {s : Shared} {d : Ad} {mg mb : Str → Option Value}

theorem call_fnC {a : Addr} {oc : Value} {od : Option Addr} {osl : Array (Option Value)} {name qual : Str} {params : Arguments} {body : List Stmt} {scope : Scope}
    {dV kV doc pm cdv ct : Value} {an : Option Addr} {vals : List Value} {binds : List (Str × Value)} {Q : Value → Shared → Prop}
    (hroom : A.depth < recursionLimit) (ho : s.heap.get? a = some ⟨oc, od, .func (fnOf name qual params body scope dV kV doc pm an cdv ct), osl⟩) (hlim : s.heap.NoLimit) (hcd : s.heap.CodeRec cdv qual)
    {B : Heap → Prop} (hbind : ∀ (M : Model) (A : Around) (E : Value → Shared → Prop) (Q : List (Str × Value) → Shared → Prop), (∀ h' tk, Kp s.heap h' → B h' → Q binds { s with heap := h', toks := tk }) → wpAny M A (bindArgs (fnOf name qual params body scope dV kV doc pm an cdv ct) ⟨vals, []⟩) Q E s)
    (hBk : ∀ h h', B h → Kp h h' → B h')
    (h : ∀ h₁ L tk, B h₁ → FmC s.heap L (bindL (envOfC qual scope L a cdv).kindOf binds fun _ => none) (cellsAt scope L) (bindC (envOfC qual scope L a cdv).kindOf binds fun _ => none) h₁ →
      wpAny (model prog w) (A.deeper (envOfC qual scope L a cdv)) (execs body (envOfC qual scope L a cdv)) (fun f s' => Q (match f with | .ret v => v | _ => .none) s') NO
        { s with heap := h₁, toks := tk })
    (hkind : ∀ L, ∀ x ∈ binds, scope.names.lookup x.1 = some .local ∨ (scope.names.lookup x.1 = some .cell ∧ ((cellsAt scope L).lookup x.1).isSome = true))
    (hco : scope.isCoroutine = false := by rfl) (hgen : scope.isGenerator = false := by rfl) (hk : scope.kind = .function := by rfl) :
    wpAny (model prog w) A (PySem.call (.ref a) vals) Q E s := by
  refine wpAny_call (codeAny_call_function hroom ho rfl hco hgen rfl hcd ?_)
  refine hbind _ _ _ _ fun h₀ tk₀ K₀ B₀ => wpAny_newFunctionEnv_cells hk (hkind _) fun env he s' x => ?_
  subst he
  obtain ⟨h₁, tk₁, rfl⟩ := x.toInCall.same
  have K₁ : Kp h₀ h₁ := x.toInCall.keep
  have hf := x.toInCall.fresh
  refine ⟨(hlim.keeps K₀).keeps K₁, ?_⟩
  show codeAny _ _ (.func body (envOfC qual scope h₀.objs.size a cdv)) _ _
  refine codeAny_func (wpAny_mono (h h₁ h₀.objs.size tk₁ (hBk _ _ B₀ K₁) ⟨⟨x.toInCall.ns, fun b o e => K₁ b o (K₀ b o e), ?_⟩, ⟨x.cell, x.apart, x.above⟩, ?_⟩) (fun _ _ x => x) fun _ _ x => x.elim)
  · cases e : s.heap.get? h₀.objs.size with
    | none => rfl
    | some o => exact absurd (Heap.lt_size (K₀ _ _ e)) (Nat.lt_irrefl _)
  · intro n c hc
    cases e : s.heap.get? c with
    | none => rfl
    | some o => exact absurd (Nat.lt_trans (Heap.lt_size (K₀ _ _ e)) (x.above n c hc)) (Nat.lt_irrefl _)

/-- the n-th statement's function stands at a, its code at c with the table P, still empty -/
structure IsGn (h : Heap) (a : Addr) (n : Nat) (q : Str) (dV : Value) (c P : Addr) : Prop where
  fn : ∃ oc od osl name kV doc pm an ct, h.get? a = some ⟨oc, od, .func (fnOf name q (fArgs (stN n)) (fBody (stN n)) (fScope (stN n)) dV kV doc pm an (.ref c) ct), osl⟩
  crec : h.CodeRec (.ref c) q
  code : h.IsCode c P #[]
  tab : h.TableAt c P #[]
theorem IsGn.kp {h h' : Heap} {a : Addr} {n : Nat} {q : Str} {dV : Value} {c P : Addr} (f : IsGn h a n q dV c P) (K : Kp h h') : IsGn h' a n q dV c P :=
  ⟨let ⟨oc, od, osl, name, kV, doc, pm, an, ct, e⟩ := f.fn; ⟨oc, od, osl, name, kV, doc, pm, an, ct, K _ _ e⟩, f.crec.keeps K, f.code.keeps K, f.tab.keeps K⟩
end
end Mine

namespace Mine
open PySem PySem.W PyProof.Rows PySem.Calls

theorem oldK_but {h₀ h h' : Heap} {wr : List Addr} (K : OldK h₀ h) (hw : ∀ b ∈ wr, h₀.get? b = none) (hk : ∀ b o, b ∉ wr → h.get? b = some o → h'.get? b = some o) : OldK h₀ h' := by
  have ne : ∀ b o, h₀.get? b = some o → b ∉ wr := fun b o e hb => by rw [hw b hb] at e; cases e
  refine ⟨fun b o e => ?_, fun b o e => let ⟨o', ho'⟩ := K.there b o e; ⟨o', hk _ _ (ne b o e) ho'⟩⟩
  rcases K.old b o e with x | ⟨t, hc, vs, more, hv, x⟩ | ⟨rfl, hc, ⟨o', es, n, ho', r⟩, z⟩
  · exact .inl (hk _ _ (ne b o e) x)
  · exact .inr (.inl ⟨t, hc, vs, more, hv, hk _ _ (ne b o e) x⟩)
  · exact .inr (.inr ⟨rfl, hc, ⟨o', es, n, hk _ _ (ne _ o e) ho', r⟩, fun key => by rw [OldK.staticOf_congr ((hk _ _ (ne _ o e) ho').trans ho'.symm) key]; exact z key⟩)

structure CG (d : Ad) (mg : Str → Option Value) (c P bm : Addr) (ob : Obj) (h : Heap) : Prop where
  csr : IsGn h d.csr 16 "_common_shorten_repr" .none c P
  bm : BMod h mainGlobals mg bm ob
theorem CG.kp {d : Ad} {mg : Str → Option Value} {c P bm : Addr} {ob : Obj} {h h' : Heap} (C : CG d mg c P bm ob h) (K : Kp h h') : CG d mg c P bm ob h' := ⟨C.csr.kp K, C.bm.keeps K⟩

section
variable {prog : Program} {w : World} {A : Around} {E : Value → Shared → Prop} {s : Shared} {d : Ad} {mg mb : Str → Option Value}

/-- a call of a class of the interpreter's of several arguments -/
theorem callTs {env : Env} {x : Str} {p pos : Pos} {e : Expr} {rest : List Expr} {T : String} {Q : Value → Shared → Prop}
    (hf : wpAny (model prog w) A (eval (.Name x p) env) (fun f s₁ => f = .type T ∧ wpAny (model prog w) A (spliced (backTo pos (starEach (e :: rest) env))) (fun vs s₂ => wpAny (model prog w) A (call (.type T) vs) Q E s₂) E s₁) E s)
    (he : starEach (e :: rest) env = (false, eval e env) :: starEach rest env := by rfl) (hplain : (backTo pos (starEach rest env)).any (·.1) = false := by rfl)
    (hc : eval (.Call (.Name x p) (e :: rest) [] pos) env = (do callWith pos (← eval (.Name x p) env) [] (backTo pos (starEach (e :: rest) env)) (backToKw pos (keywordEach [] env))) := by rfl) :
    wpAny (model prog w) A (eval (.Call (.Name x p) (e :: rest) [] pos) env) Q E s := by
  refine Call_ (wpAny_mono hf (fun v s₁ h₁ => ?_) fun _ _ x => x) hc
  obtain ⟨rfl, h₁⟩ := h₁
  exact PyProof.Rows.callWith_type1 h₁ he hplain

theorem csr_binds {v u : Value} {name q : Str} {dV kV doc pm cdv ct : Value} {an : Option Addr} {b : List Stmt} {sc : Scope} {M : Model} {Q : List (Str × Value) → Shared → Prop} (hd : dV = .none)
    (hq : Q [("args", .ref s.heap.objs.size)] { s with heap := s.heap.push { cls := .type "tuple", data := .seq #[v, u] } }) : wpAny M A (bindArgs (fnOf name q (fArgs (stN 16)) b sc dV kV doc pm an cdv ct) ⟨[v, u], []⟩) Q E s := by
  subst hd
  show wpAny M A (newTuple [v, u] >>= fun r => _) Q E s
  exact wpAny_bind (wpAny_newTuple (wpAny_pure hq))

theorem two_get {acc : Array Value} {F : Nat → Value → Prop} (h : ItemsOf F acc 2) : ∃ u v, acc = #[u, v] ∧ F 0 u ∧ F 1 v := by
  obtain ⟨hs, hf⟩ := h
  obtain ⟨l⟩ := acc
  match l, hs, hf with
  | [u, v], _, hf => exact ⟨u, v, rfl, hf 0 u rfl, hf 1 v rfl⟩
theorem two_cases {a b v : Value} : ∀ {i : Nat}, (#[a, b] : Array Value)[i]? = some v → (i = 0 ∧ v = a) ∨ (i = 1 ∧ v = b)
  | 0, h => .inl ⟨rfl, (Option.some.inj h).symm⟩
  | 1, h => .inr ⟨rfl, (Option.some.inj h).symm⟩
  | n + 2, h => by simp at h

theorem tuple_map_safe {hb hh : Heap} {T : Addr} {x y : Str} {tx ty : Tok} {Q : Value → Shared → Prop} (N : NM d mg mb) (P : PG d mg mb hb) (D : Dfl hb d.sd) (K : Kp hb hh) (hroom : A.depth < recursionLimit) (hH : A.handled = none)
    (hT : hh.IsTuple T #[.str x tx, .str y ty]) (hx : (reprText x).length ≤ 1000) (hy : (reprText y).length ≤ 1000)
    (h : ∀ h' T' t u tk, h'.IsTuple T' #[.str (reprText x) t, .str (reprText y) u] → hh.get? T' = none → Kp hh h' → Q (.ref T') { s with heap := h', toks := tk }) (hs : s.heap = hh := by rfl) :
    wpAny (model prog w) A (call (.type "map") [.ref d.safe, .ref T]) (fun v s₁ => wpAny (model prog w) A (call (.type "tuple") [v]) Q E s₁) E s := by
  refine call_map hT (fun h₁ z TI it hz hTI hit z0 T0 i0 hiz hiT zl Tl il hl K₁ => ?_) hs
  have hTi : T ≠ it := by obtain ⟨o, e, _⟩ := hT; exact Ne.symm (ne_get i0 e)
  have hTl : T < h₁.objs.size := by obtain ⟨o, e, _⟩ := hT; exact Heap.lt_size (K₁ _ _ e)
  have W := (walks_map (prog := prog) (w := w) (A := A.in1.in1.in1) (by exact hH) (z := z) (TI := TI) (it := it) (t := T) (f := .ref d.safe) (items := #[.str x tx, .str y ty]) (hb := hh)
    (F := fun i v => (i = 0 → ∃ t, v = .str (reprText x) t) ∧ (i = 1 → ∃ t, v = .str (reprText y) t)) (Ne.symm hiz) (Ne.symm hiT) hTi i0 (fun i v s₂ Q₂ hv K₂ hQ => ?_)).toS
  · refine call_tuple_map W (fun i s₂ st => ⟨_, st.1, rfl⟩) ⟨hz, hTI, hit, tup_at hT fun o e => K₁ _ o e, K₁⟩ ?_ List.mem_cons_self (fun s₂ acc hm hacc => ?_) (by rw [sizeLine_eq]; show 2 ≤ _; omega)
    · intro b hb
      simp only [List.mem_cons, List.mem_range] at hb
      show b < h₁.objs.size
      rcases hb with rfl | rfl | rfl | rfl | hb
      · exact zl
      · exact Tl
      · exact il
      · exact hTl
      · exact Nat.lt_of_lt_of_le hb hl
    · obtain ⟨u, v, rfl, ⟨h0, _⟩, ⟨_, h1⟩⟩ := two_get hacc
      obtain ⟨t, rfl⟩ := h0 rfl
      obtain ⟨t', rfl⟩ := h1 rfl
      obtain ⟨hm1, hm2, hm3, hm4, _⟩ := hm
      obtain ⟨g₁, g₂, g₃, g₄, g₅⟩ := s₂
      dsimp only at hm1 hm2 hm3 hm4
      subst hm2 hm3 hm4
      have K₂ : Kp hh g₁ := fun b o e => hm1 b o (by simp only [List.mem_cons, List.not_mem_nil, or_false]; exact Ne.symm (ne_get i0 e)) (K₁ b o e)
      refine h _ _ t t' _ ⟨_, Heap.get?_push_size _ rfl, rfl, _, rfl⟩ ?_ fun b o e => Heap.get?_push_of_some _ (K₂ b o e)
      cases e : hh.get? g₁.objs.size with
      | none => rfl
      | some o => exact absurd (Heap.lt_size (K₂ _ _ e)) (Nat.lt_irrefl _)
  · rcases two_cases hv with ⟨rfl, rfl⟩ | ⟨rfl, rfl⟩
    · exact safe_call1 N P D (fun b o e => K₂ b o (K b o e)) (by exact hroom) hx fun h' t' tk K' => hQ _ h' tk ⟨fun _ => ⟨t', rfl⟩, fun q => absurd q (by decide)⟩ K'
    · exact safe_call1 N P D (fun b o e => K₂ b o (K b o e)) (by exact hroom) hy fun h' t' tk K' => hQ _ h' tk ⟨fun q => absurd q (by decide), fun _ => ⟨t', rfl⟩⟩ K'

theorem max_map_len {hh : Heap} {T : Addr} {x y : Str} {tx ty : Tok} {Q : Value → Shared → Prop} (hH : A.handled = none)
    (hT : hh.IsTuple T #[.str x tx, .str y ty]) (hy : y.length ≤ 1000) (hxy : x.length < y.length)
    (h : ∀ h' t tk, Kp hh h' → Q (.int y.length t) { s with heap := h', toks := tk }) (hs : s.heap = hh := by rfl) :
    wpAny (model prog w) A (call (.type "map") [.builtin "len", .ref T]) (fun v s₁ => wpAny (model prog w) A (call (.builtin "max") [v]) Q E s₁) E s := by
  refine call_map hT (fun h₁ z TI it hz hTI hit z0 T0 i0 hiz hiT zl Tl il hl K₁ => ?_) hs
  have hTi : T ≠ it := by obtain ⟨o, e, _⟩ := hT; exact Ne.symm (ne_get i0 e)
  have hTl : T < h₁.objs.size := by obtain ⟨o, e, _⟩ := hT; exact Heap.lt_size (K₁ _ _ e)
  refine call_max_walk (pyIter_map (by exact hz) ?_)
  refine ⟨z, _, _, 2, _, _, fun i j => decide ((if j = 0 then (x.length : Int) else y.length) < (if i = 0 then (x.length : Int) else y.length)), rfl,
    walks_map (prog := prog) (w := w) (A := A.in1) (by exact hH) (z := z) (TI := TI) (it := it) (t := T) (f := .builtin "len") (items := #[.str x tx, .str y ty]) (hb := hh)
    (F := fun i v => ∃ t, v = .int (if i = 0 then (x.length : Int) else y.length) t) (Ne.symm hiz) (Ne.symm hiT) hTi i0 (fun i v s₂ Q₂ hv K₂ hQ => ?_), ⟨hz, hTI, hit, tup_at hT fun o e => K₁ _ o e, K₁⟩, ?_, by decide, ?_, ?_⟩
  · rcases two_cases hv with ⟨rfl, rfl⟩ | ⟨rfl, rfl⟩
    · exact len_str (by omega) (hQ _ s₂.heap _ ⟨_, rfl⟩ fun _ _ e => e)
    · exact len_str (by omega) (hQ _ s₂.heap _ ⟨_, rfl⟩ fun _ _ e => e)
  · intro b hb
    simp only [List.mem_cons, List.mem_range] at hb
    show b < h₁.objs.size
    rcases hb with rfl | rfl | rfl | rfl | hb
    · exact zl
    · exact Tl
    · exact il
    · exact hTl
    · exact Nat.lt_of_lt_of_le hb hl
  · intro i j vi vj s' Q' E' hi hj hq
    obtain ⟨t₁, rfl⟩ := hi
    obtain ⟨t₂, rfl⟩ := hj
    exact gt_int hq
  · intro v h' tk hv hk
    have : argBest (fun i j => decide ((if j = 0 then (x.length : Int) else y.length) < (if i = 0 then (x.length : Int) else y.length))) (2 - 1) = 1 := by
      show (if decide _ = true then 1 else 0) = 1
      exact if_pos (decide_eq_true (show (x.length : Int) < y.length by omega))
    rw [this] at hv
    obtain ⟨t, rfl⟩ := hv
    refine h h' t tk fun b o e => hk b o ?_ (K₁ b o e)
    simp only [List.mem_cons, List.not_mem_nil, or_false]
    exact Ne.symm (ne_get i0 e)
end
end Mine

namespace Mine
open PySem PySem.W PyProof.Rows PySem.Calls

section
variable {prog : Program} {w : World} {A : Around} {E : Value → Shared → Prop} {s : Shared} {d : Ad} {mg mb : Str → Option Value}

/-- short texts are told whole -/
theorem csr_short {hb hh : Heap} {c P bm : Addr} {ob : Obj} {x y : Str} {tx ty : Tok} {Q : Value → Shared → Prop} (N : NM d mg mb) (G : PG d mg mb hb) (D : Dfl hb d.sd) (C : CG d mg c P bm ob hb) (K : Kp hb hh)
    (hroom : A.depth + 10 < recursionLimit) (hH : A.handled = none) (hx : (reprText x).length < (reprText y).length) (hy : (reprText y).length ≤ 80)
    (h : ∀ h' T t u tk, h'.IsTuple T #[.str (reprText x) t, .str (reprText y) u] → Kp hh h' → Q (.ref T) { s with heap := h', toks := tk }) (hs : s.heap = hh := by rfl) :
    wpAny (model prog w) A (call (.ref d.csr) [.str x tx, .str y ty]) Q E s := by
  have C' := C.kp K
  obtain ⟨oc, od, osl, name, kV, doc, pm, an, ct, e⟩ := C'.csr.fn
  subst hs
  refine call_fnC (B := fun h => h.IsTuple s.heap.objs.size #[.str x tx, .str y ty]) (binds := [("args", .ref s.heap.objs.size)]) (by omega) e (G.lim.keeps K) C'.csr.crec
    (fun M A E Q hq => csr_binds rfl (hq _ _ (fun _ _ e => Heap.get?_push_of_some _ e) ⟨_, Heap.get?_push_size _ rfl, rfl, _, rfl⟩)) (fun _ _ b k => tup_at b fun o e => k _ o e) (fun h₁ L tk hT F => ?_) (fun L x hx => ?_)
  · have G₁ := G.kp fun b o e => F.keep b o (K b o e)
    refine wpAny_execs_cons (wpAny_Assign_Name (callT (nameB G₁.g N.tuple.1 G₁.b N.tuple.2 ⟨rfl, callTs (nameB G₁.g N.map.1 G₁.b N.map.2 ⟨rfl, args_cons (nameG G₁.g N.safe (args_cons (F.ld (by rfl) (args_nil ?_))))⟩)⟩)))
    refine tuple_map_safe N G D (fun b o e => F.keep b o (K b o e)) (by show A.depth + 1 < _; omega) hH hT (by omega) (by omega) fun h₂ T t u k₂ hT₂ hT0 K₂ => ?_
    dsimp only
    refine (F.kp K₂).st fun h₃ F₃ hs₃ => ?_
    have hTL : T ≠ L := ne_ns hT0 F.ns
    have hT₃ : h₃.IsTuple T #[.str (reprText x) t, .str (reprText y) u] := tup_at hT₂ fun o e => hs₃.extBut _ _ hTL e
    have G₃ := G.kp fun b o e => F₃.keep b o (K b o e)
    refine wpAny_execs_cons (wpAny_Assign_Name (callB (nameB G₃.g N.max.1 G₃.b N.max.2 ⟨rfl, callTs (nameB G₃.g N.map.1 G₃.b N.map.2 ⟨rfl, args_cons (nameB G₃.g N.len.1 G₃.b N.len.2 (args_cons (F₃.ld (by rfl) (args_nil ?_))))⟩)⟩)))
    refine max_map_len hH hT₃ (by omega) hx fun h₄ t₄ k₄ K₄ => ?_
    dsimp only
    refine (F₃.kp K₄).st fun h₅ F₅ hs₅ => ?_
    have hT₅ : h₅.IsTuple T #[.str (reprText x) t, .str (reprText y) u] := tup_at hT₃ fun o e => hs₅.extBut _ _ hTL (K₄ _ _ e)
    have G₅ := G.kp fun b o e => F₅.keep b o (K b o e)
    refine wpAny_execs_cons (wpAny_If (wpAny_isTrue_Compare1 (F₅.ld (by rfl) (nameG G₅.g N.c80 (le_int (wpAny_truthy_bool ?_))))))
    rw [if_pos (by simpa using (by omega : ((reprText y).length : Int) ≤ 80))]
    refine wpAny_execs_cons (wpAny_Return_some (F₅.ld (by rfl) ?_))
    exact h h₅ T t u _ hT₅ F₅.keep
  · obtain rfl := List.mem_singleton.mp hx
    exact .inl (by rfl)
end
end Mine

namespace Mine
open PySem PySem.W PyProof.Rows PySem.Calls

section
variable {prog : Program} {w : World} {A : Around} {E : Value → Shared → Prop} {s : Shared} {d : Ad} {mg mb : Str → Option Value}

/-- a name that stands in a cell of an outer frame -/
theorem ldF {env : Env} {x : Str} {pos : Pos} {c : Addr} {v : Value} {Q : Value → Shared → Prop} (hc : env.cells.lookup x = some c) (hv : s.heap.IsCell c (some v)) (h : Q v s)
    (hk : env.scope.kind = .function := by rfl) (hl : env.kindOf x = some .free := by rfl) (hd : (x == ("__debug__" : Str)) = false := by decide) (hn : (x == ("__classdict__" : Str)) = false := by decide) :
    wpAny (model prog w) A (eval (.Name x pos) env) Q E s := wpAny_Name (wpAny_loadName_free hk hl hc hv h hn) hd

/-- a beginning cut in the midst -/
def cut (p : Str) (k : Int) : Str := Txt.slice p none (some 5) ++ "[" ++ Str.ofString (toString ((p.length : Int) - 5 - k)) ++ " chars]" ++ Txt.slice p (some ((p.length : Int) - k)) none

theorem cut_len {p : Str} (hp : p.length ≤ 1000) (h : 65 ≤ p.length) : (cut p 60).length ≤ 2020 := by
  have h1 := Txt.slice_le p none (some 5)
  have h2 := Txt.slice_le p (some ((p.length : Int) - 60)) none
  have h3 : (Str.ofString (toString ((p.length : Int) - 5 - 60))).length ≤ 10 := toString_length_le (by omega) (by decide) (by omega)
  have h4 : (Str.ofString "[").length = 1 := by decide
  have h5 : (Str.ofString " chars]").length = 7 := by decide
  unfold cut
  simp only [Str.length_append]
  omega

theorem csr_long {hb hh : Heap} {c P bm : Addr} {ob : Obj} {x y : Str} {tx ty : Tok} {k : Nat} {Q : Value → Shared → Prop} (N : NM d mg mb) (G : PG d mg mb hb) (D : Dfl hb d.sd) (C : CG d mg c P bm ob hb) (K : Kp hb hh)
    (hroom : A.depth + 20 < recursionLimit) (hH : A.handled = none) (hg : AllBare s.gens) (hx : (reprText x).length < (reprText y).length) (hy : 80 < (reprText y).length) (hy1 : (reprText y).length ≤ 1000)
    (X : Part (reprText x) (reprText y) k) (hk : k + 3 = (reprText y).length) (hpk : (Txt.slice (reprText x) none (some (k : Int))).length = k)
    (h : ∀ s' T t u, s'.heap.IsTuple T #[.str (cut (Txt.slice (reprText x) none (some (k : Int))) 60 ++ Txt.slice (reprText x) (some (k : Int)) none) t, .str (cut (Txt.slice (reprText x) none (some (k : Int))) 60 ++ Txt.slice (reprText y) (some (k : Int)) none) u] →
      OldK hb s'.heap → KB [P] hh s'.heap → s'.os = s.os → AllBare s'.gens → Q (.ref T) s') (hs : s.heap = hh := by rfl) :
    wpAny (model prog w) A (call (.ref d.csr) [.str x tx, .str y ty]) Q E s := by
  have C' := C.kp K
  obtain ⟨oc, od, osl, name, kV, doc, pm, an, ct, e⟩ := C'.csr.fn
  subst hs
  refine call_fnC (B := fun h => h.IsTuple s.heap.objs.size #[.str x tx, .str y ty]) (binds := [("args", .ref s.heap.objs.size)]) (by omega) e (G.lim.keeps K) C'.csr.crec
    (fun M A E Q hq => csr_binds rfl (hq _ _ (fun _ _ e => Heap.get?_push_of_some _ e) ⟨_, Heap.get?_push_size _ rfl, rfl, _, rfl⟩)) (fun _ _ b k => tup_at b fun o e => k _ o e) (fun h₁ L tk hT F => ?_) (fun L x hx => ?_)
  rotate_left
  · obtain rfl := List.mem_singleton.mp hx
    exact .inl (by rfl)
  have G₁ := G.kp fun b o e => F.keep b o (K b o e)
  refine wpAny_execs_cons (wpAny_Assign_Name (callT (nameB G₁.g N.tuple.1 G₁.b N.tuple.2 ⟨rfl, callTs (nameB G₁.g N.map.1 G₁.b N.map.2 ⟨rfl, args_cons (nameG G₁.g N.safe (args_cons (F.ld (by rfl) (args_nil ?_))))⟩)⟩)))
  refine tuple_map_safe N G D (fun b o e => F.keep b o (K b o e)) (by show A.depth + 1 < _; omega) hH hT (by omega) (by omega) fun h₂ T t u k₂ hT₂ hT0 K₂ => ?_
  dsimp only
  refine (F.kp K₂).st fun h₃ F₃ hs₃ => ?_
  have hTL : T ≠ L := ne_ns hT0 F.ns
  have hT₃ : h₃.IsTuple T #[.str (reprText x) t, .str (reprText y) u] := tup_at hT₂ fun o e => hs₃.extBut _ _ hTL e
  have G₃ := G.kp fun b o e => F₃.keep b o (K b o e)
  clear G₁ hT₂ hs₃
  -- maxlen
  refine wpAny_execs_cons (wpAny_Assign_Name (callB (nameB G₃.g N.max.1 G₃.b N.max.2 ⟨rfl, callTs (nameB G₃.g N.map.1 G₃.b N.map.2 ⟨rfl, args_cons (nameB G₃.g N.len.1 G₃.b N.len.2 (args_cons (F₃.ld (by rfl) (args_nil ?_))))⟩)⟩)))
  refine max_map_len hH hT₃ (by omega) hx fun h₄ t₄ k₄ K₄ => ?_
  dsimp only
  refine (F₃.kp K₄).st fun h₅ F₅ hs₅ => ?_
  have hT₅ : h₅.IsTuple T #[.str (reprText x) t, .str (reprText y) u] := tup_at hT₃ fun o e => hs₅.extBut _ _ hTL (K₄ _ _ e)
  have G₅ := G.kp fun b o e => F₅.keep b o (K b o e)
  clear G₃ hs₅ hT₃
  refine wpAny_execs_cons (wpAny_If (wpAny_isTrue_Compare1 (F₅.ld (by rfl) (nameG G₅.g N.c80 (le_int (wpAny_truthy_bool ?_))))))
  rw [if_neg (by simpa using (by omega : ¬ ((reprText y).length : Int) ≤ 80))]
  refine wpAny_execs_nil ?_
  -- prefix
  refine wpAny_execs_cons (wpAny_Assign_Name (callG G₅.common (nameG G₅.g N.common ⟨rfl, args_cons (F₅.ld (by rfl) (args_nil ⟨fun _ _ e => e, ?_⟩))⟩)))
  refine common_call N G₅ (fun _ _ e => e) (by show A.depth + 1 + 5 < _; omega) (by exact hH) hT₅ X fun h₆ t₆ k₆ K₆ => ?_
  dsimp only
  refine (F₅.kp K₆).stc (c := L + 1) (by rfl) fun h₇ F₇ hs₇ => ?_
  have hT1 : T ≠ L + 1 := by
    have := F.cl.cell "prefix" (L + 1) (by rfl)
    obtain ⟨o, e, _⟩ := this
    exact ne_get hT0 e
  have hT2 : T ≠ L + 1 + 1 := by
    have := F.cl.cell "prefixlen" (L + 1 + 1) (by rfl)
    obtain ⟨o, e, _⟩ := this
    exact ne_get hT0 e
  have hT₇ : h₇.IsTuple T #[.str (reprText x) t, .str (reprText y) u] := tup_at hT₅ fun o e => hs₇.extBut _ _ hT1 (K₆ _ _ e)
  have G₇ := G.kp fun b o e => F₇.keep b o (K b o e)
  clear G₅ hs₇ hT₅
  -- prefixlen
  refine wpAny_execs_cons (wpAny_Assign_Name (callB (nameB G₇.g N.len.1 G₇.b N.len.2 ⟨rfl, F₇.ldc (c := L + 1) (by rfl) (by rfl) (len_str (by rw [hpk]; omega) ?_)⟩)))
  rw [hpk]
  refine F₇.stc (c := L + 1 + 1) (by rfl) fun h₈ F₈ hs₈ => ?_
  have hT₈ : h₈.IsTuple T #[.str (reprText x) t, .str (reprText y) u] := tup_at hT₇ fun o e => hs₈.extBut _ _ hT2 e
  have G₈ := G.kp fun b o e => F₈.keep b o (K b o e)
  clear G₇ hs₈ hT₇
  -- common_len
  refine wpAny_execs_cons (wpAny_Assign_Name (wpAny_BinOp (nameG G₈.g N.c80 (wpAny_BinOp (wpAny_BinOp (wpAny_BinOp (F₈.ld (by rfl) (F₈.ldc (c := L + 1 + 1) (by rfl) (by rfl) (sub_int (nameG G₈.g N.c5 (add_int (nameG G₈.g N.c12 (add_int (sub_int ?_))))))))))))))
  have e60 : (80 : Int) - (((reprText y).length : Int) - k + 5 + 12) = 60 := by omega
  rw [e60]
  refine F₈.st fun h₉ F₉ hs₉ => ?_
  have hT₉ : h₉.IsTuple T #[.str (reprText x) t, .str (reprText y) u] := tup_at hT₈ fun o e => hs₉.extBut _ _ hTL e
  have G₉ := G.kp fun b o e => F₉.keep b o (K b o e)
  clear G₈ hs₉ hT₈
  refine wpAny_execs_cons (wpAny_If (wpAny_isTrue_Compare1 (F₉.ld (by rfl) (nameG G₉.g N.c5c (gt_int (wpAny_truthy_bool ?_))))))
  rw [if_pos (by decide)]
  -- assert
  refine wpAny_execs_cons (wpAny_Assert_holds (wpAny_isTrue_Compare1 (wpAny_BinOp (wpAny_BinOp (wpAny_BinOp (nameG G₉.g N.c5 (nameG G₉.g N.c12 (add_int (nameG G₉.g N.c5c (add_int ?_))))))))))
  refine wpAny_BinOp (F₉.ld (by rfl) (F₉.ldc (c := L + 1 + 1) (by rfl) (by rfl) (sub_int (add_int (nameG G₉.g N.c80 (lt_int (wpAny_truthy_bool ⟨?_, ?_⟩)))))))
  · simpa using (by omega : (5 : Int) + 12 + 5 + ((reprText y).length - k) < 80)
  -- prefix, shortened
  refine wpAny_execs_cons (wpAny_Assign_Name (callG G₉.shorten (nameG G₉.g N.shorten ⟨rfl, args_cons (F₉.ldc (c := L + 1) (by rfl) (by rfl) (args_cons (nameG G₉.g N.c5 (args_cons (F₉.ld (by rfl) (args_nil ⟨fun _ _ e => e, ?_⟩))))))⟩)))
  refine shorten_call N G₉ (fun _ _ e => e) (by show A.depth + 1 < _; omega) (by rw [hpk]; omega) (by decide) (by decide) (by rw [hpk]; omega) fun h₁₀ t₁₀ k₁₀ K₁₀ => ?_
  dsimp only
  show wpAny _ _ (storeName _ _ (.str (cut (Txt.slice (reprText x) none (some (k : Int))) 60) t₁₀)) _ _ _
  refine (F₉.kp K₁₀).stc (c := L + 1) (by rfl) fun h₁₁ F₁₁ hs₁₁ => ?_
  have hT₁₁ : h₁₁.IsTuple T #[.str (reprText x) t, .str (reprText y) u] := tup_at hT₉ fun o e => hs₁₁.extBut _ _ hT1 (K₁₀ _ _ e)
  have G₁₁ := G.kp fun b o e => F₁₁.keep b o (K b o e)
  clear G₉ hs₁₁ hT₉
  have C₁₁ := C.kp fun b o e => F₁₁.keep b o (K b o e)
  -- the texts
  refine wpAny_execs_cons (wpAny_Return_some (callT (nameB G₁₁.g N.tuple.1 G₁₁.b N.tuple.2 ⟨rfl, ?_⟩)))
  refine wpAny_GeneratorExp_walksQ (cl := [(("prefixlen" : Str), (L+1+1 : Addr)), (("prefix" : Str), L+1)]) (by exact hH) rfl (by rfl) (by decide) (by rfl) (by rfl) rfl (by show A.depth + 1 < _; omega) (F₁₁.ld (by rfl) (wpAny_pyIter_tuple (by exact hT₁₁) ?_)) (by intro _; rfl)
  dsimp only
  have hTl : T < h₁₁.objs.size := by obtain ⟨o, e, _⟩ := hT₁₁; exact Heap.lt_size e
  have hc1 : h₁₁.IsCell (L + 1) (some (.str (cut (Txt.slice (reprText x) none (some (k : Int))) 60) t₁₀)) := F₁₁.cl.cell "prefix" (L + 1) (by rfl)
  obtain ⟨tp, hc2⟩ : ∃ tp, h₁₁.IsCell (L + 1 + 1) (some (.int k tp)) := ⟨_, F₁₁.cl.cell "prefixlen" (L + 1 + 1) (by rfl)⟩
  have hK₁₁ : Kp s.heap h₁₁ := F₁₁.keep
  have hL0 : s.heap.get? L = none := F₁₁.fm.off
  clear F F₃ F₅ F₇ F₈ F₉ F₁₁ hT K₂ K₄ K₆ K₁₀ C'
  have tabN : h₁₁.TableAt c P #[] := C₁₁.csr.tab
  have Pobj : h₁₁.get? P = some { cls := .none, data := .fields #[] } := tabN.2
  have Plt : P < h₁₁.objs.size := Heap.lt_size Pobj
  have hcl1 : L + 1 < h₁₁.objs.size := by obtain ⟨o, e, _⟩ := hc1; exact Heap.lt_size e
  have hcl2 : L + 1 + 1 < h₁₁.objs.size := by obtain ⟨o, e, _⟩ := hc2; exact Heap.lt_size e
  have hP1 : L + 1 ≠ P := fun q => by obtain ⟨o, e, dd⟩ := hc1; rw [q, Pobj] at e; cases e; cases dd
  have hP2 : L + 1 + 1 ≠ P := fun q => by obtain ⟨o, e, dd⟩ := hc2; rw [q, Pobj] at e; cases e; cases dd
  have hPT : T ≠ P := fun q => by obtain ⟨o, e, dd, _⟩ := hT₁₁; rw [q, Pobj] at e; cases e; cases dd
  refine ⟨G₁₁.lim.push _, wpAny_genexprCodeX rfl (C₁₁.csr.code.push _) (tabN.push _) rfl fun c' h₁₂ tk₁₂ hx₁₂ hge hlt _ _ htab _ => ?_⟩
  replace hx₁₂ : Heap.ExtBut P (h₁₁.push { cls := .type "tuple_iterator", data := .fields #[.ref T, .int 0 0] }) h₁₂ := hx₁₂
  replace hge : (h₁₁.push { cls := .type "tuple_iterator", data := .fields #[.ref T, .int 0 0] }).objs.size ≤ c' := hge
  have hsz : h₁₁.objs.size < h₁₂.objs.size := by
    rw [Heap.size_push] at hge
    exact Nat.lt_trans (Nat.lt_of_succ_le hge) hlt
  have up : ∀ b o, b ≠ P → h₁₁.get? b = some o → h₁₂.get? b = some o := fun b o hb e => hx₁₂ b o hb (Heap.get?_push_of_some _ e)
  have hcP : cStatics ≠ P := fun e => by
    obtain ⟨_, hns, _⟩ := G₁₁.lim
    obtain ⟨o, es, ep, ho, hd, _⟩ := hns
    rw [e, Pobj] at ho; cases ho; cases hd
  have M₁₂ := (C₁₁.bm.keeps (h' := h₁₁.push { cls := .type "tuple_iterator", data := .fields #[.ref T, .int 0 0] }) fun _ _ e => Heap.get?_push_of_some _ e).extBut (tabN.push _) hx₁₂
  have hlim₁₂ : h₁₂.NoLimit := (G₁₁.lim.push _).extBut hx₁₂ hcP
  refine wpAny_builtinsFor (by exact M₁₂.ns) M₁₂.name M₁₂.ne (by exact M₁₂.obj) M₁₂.cls M₁₂.dict M₁₂.data ?_
  have hIP : h₁₁.objs.size ≠ P := Nat.ne_of_gt Plt
  refine ⟨h₁₁.objs.size, _, _, 2, _, _, fun _ => true, fun i v => ∃ t, v = .str (cut (Txt.slice (reprText x) none (some (k : Int))) 60 ++ Txt.slice (if i = 0 then reprText x else reprText y) (some (k : Int)) none) t, rfl,
    fun A' hA => Walks.tuple hA h₁₁.objs.size T (Nat.ne_of_lt hTl) #[.str (reprText x) t, .str (reprText y) u], ⟨?_, ?_⟩, ?_, by exact hlim₁₂, ?_, ?_, ?_⟩
  · exact ⟨_, hx₁₂ _ _ hIP (Heap.get?_push_size _ rfl), rfl, rfl⟩
  · exact tup_at hT₁₁ fun o e => up _ o hPT e
  · intro b hb
    show b < h₁₂.objs.size
    rcases List.mem_cons.mp hb with rfl | hb
    · exact hsz
    · rw [List.mem_singleton.mp hb]; exact Nat.lt_trans hTl hsz
  · intro hb
    obtain ⟨_, hns, _⟩ := G₁₁.lim
    exact absurd (List.mem_singleton.mp hb) (Nat.ne_of_lt hns.lt)
  · intro href hhref
    replace hhref : Kp h₁₂ href := hhref
    refine ⟨fun A' E' i v s₂ m₂ hA hV hn hm hkp => wpAny_tests_nil ⟨rfl, s₂.heap, s₂.toks, rfl, fun _ _ e => e⟩, fun A' E' i v s₂ m₂ hA hV _ hn hm hkp => ?_⟩
    have up₂ : ∀ b o, b ≠ P → h₁₁.get? b = some o → s₂.heap.get? b = some o := fun b o hb e =>
      hkp b (List.mem_range.mpr (Heap.lt_size (up b o hb e))) (fun q => absurd (List.mem_singleton.mp q) (Nat.ne_of_lt (Heap.lt_size e))) o (hhref b o (up b o hb e))
    obtain ⟨z, tz, rfl, hz⟩ : ∃ z tz, v = .str z tz ∧ z = (if i = 0 then reprText x else reprText y) := by
      rcases two_cases hV with ⟨rfl, rfl⟩ | ⟨rfl, rfl⟩
      · exact ⟨_, _, rfl, rfl⟩
      · exact ⟨_, _, rfl, rfl⟩
    have hzl : z.length ≤ 1000 := by rw [hz]; split <;> omega
    have cl1 : s₂.heap.IsCell (L + 1) _ := let ⟨o, e, dd⟩ := hc1; ⟨o, up₂ _ _ hP1 e, dd⟩
    have cl2 : s₂.heap.IsCell (L + 1 + 1) _ := let ⟨o, e, dd⟩ := hc2; ⟨o, up₂ _ _ hP2 e, dd⟩
    refine wpAny_BinOp (ldF (c := L + 1) (by rfl) cl1 (slice_from (ldE hn hm (ldF (c := L + 1 + 1) (by rfl) cl2 ⟨_, _, _, _, rfl, rfl, by rw [sizeLine_eq]; omega, fun h₃ t₃ k₃ K₃ => ?_⟩))))
    refine add_str (fun t₄ k₄ => ⟨⟨t₄, by rw [hz]⟩, h₃, k₄, rfl, K₃⟩) ?_
    have b1 := cut_len (p := Txt.slice (reprText x) none (some (k : Int))) (by rw [hpk]; omega) (by rw [hpk]; omega)
    have b2 := Txt.slice_le z (some (k : Int)) none
    rw [sizeLine_eq]
    omega
  · intro a h₅ tk gs hgb hag hsz₅ hk₅ W hat
    have hO : OldK hb h₅ := (OldK.step_keeps ((OldK.of_keep fun b o e => Heap.get?_push_of_some _ (hK₁₁ b o (K b o e))).step_table C.csr.tab (tabN.push _) htab hx₁₂ (Ne.symm hcP)) hk₅)
    replace hk₅ : Kp h₁₂ h₅ := hk₅
    replace hag : h₁₂.objs.size < a := hag
    have e2 : (passing (fun _ => true) 2 0).length = 2 := by decide
    rw [e2] at W
    refine call_tuple_gen W.in4_3 (fun i s' st => st.1.typeIs) hat ?_ List.mem_cons_self (fun s' acc hm hacc => ?_) (by rw [sizeLine_eq]; show 2 ≤ _; omega)
    · intro b hb
      show b < h₅.objs.size
      rw [hsz₅]
      rcases List.mem_cons.mp hb with rfl | hb
      · exact Nat.lt_succ_self _
      · rcases List.mem_cons.mp hb with rfl | hb
        · exact Nat.lt_succ_of_lt hag
        · exact Nat.lt_succ_of_lt (Nat.lt_trans (List.mem_range.mp hb) hag)
    · obtain ⟨u₁, u₂, rfl, h0, h1⟩ := two_get hacc
      obtain ⟨_, rfl⟩ : ∃ t', u₁ = .str (cut (Txt.slice (reprText x) none (some (k : Int))) 60 ++ Txt.slice (reprText x) (some (k : Int)) none) t' := by
        obtain ⟨i, hi, t', e⟩ := h0
        obtain rfl : (0 : Nat) = i := Option.some.inj hi
        exact ⟨t', e⟩
      obtain ⟨_, rfl⟩ : ∃ t', u₂ = .str (cut (Txt.slice (reprText x) none (some (k : Int))) 60 ++ Txt.slice (reprText y) (some (k : Int)) none) t' := by
        obtain ⟨i, hi, t', e⟩ := h1
        obtain rfl : (1 : Nat) = i := Option.some.inj hi
        exact ⟨t', e⟩
      have hmh : ∀ b o, b ∉ [h₁₂.objs.size, h₁₁.objs.size] → h₅.get? b = some o → s'.heap.get? b = some o := hm.heap
      have old : ∀ b o, hb.get? b = some o → b < h₁₁.objs.size := fun b o e => Heap.lt_size (hK₁₁ b o (K b o e))
      refine h _ _ _ _ ⟨_, Heap.get?_push_size _ rfl, rfl, _, rfl⟩ ((oldK_but hO ?_ hmh).step_keeps fun b o e => Heap.get?_push_of_some _ e) (fun b o hbP e => Heap.get?_push_of_some _ (hmh b o ?_ (hk₅ _ _ (up b o (mem_one.mp hbP) (hK₁₁ b o e))))) hm.os ((AllBare.push hg hgb).moved hm.gens)
      · intro b hbm
        rcases List.mem_cons.mp hbm with rfl | hbm
        · cases e : hb.get? h₁₂.objs.size with
          | none => rfl
          | some o => exact absurd (Nat.lt_trans (old _ _ e) hsz) (Nat.lt_irrefl _)
        · rw [List.mem_singleton.mp hbm]
          cases e : hb.get? h₁₁.objs.size with
          | none => rfl
          | some o => exact absurd (old _ _ e) (Nat.lt_irrefl _)
      · have hlt := Heap.lt_size (hK₁₁ b o e)
        exact mem_two.mpr ⟨Nat.ne_of_lt (Nat.lt_trans hlt hsz), Nat.ne_of_lt hlt⟩
end
end Mine

namespace Mine
open PySem PySem.W PyProof.Rows PySem.Calls PySem.SeqAt
open AutoSeq1 (wpAny_loadPart')

/-- a bare object -/
abbrev IsObj (h : Heap) (z : Addr) : Prop := ∃ od dt sl, h.get? z = some { cls := .type "object", dict := od, data := dt, slots := sl }

theorem sub_list_object : isSubtype (.type "list") (.type "object") = pure true := by rw [isSubtype_type]; kernel_rfl
theorem sub_object_list : isSubtype (.type "object") (.type "list") = pure false := by rw [isSubtype_type]; kernel_rfl

theorem list_eq_declines_obj (l b : Addr) (items : Array Value) (n : Nat) (dd dd2 : Option Addr) (sl sl2 : Array (Option Value)) (dt : Data) :
    Meets (Builtin.«list.__eq__» ⟨[.ref l, .ref b], []⟩) (fun _ R s => s.heap.get? l = some { cls := .type "list", dict := dd, data := .seq items n, slots := sl } ∧ s.heap.get? b = some { cls := .type "object", dict := dd2, data := dt, slots := sl2 } ∧ R (.ok (.ret .notImplemented)) s) :=
  .of_wp fun prog w A R s h => by obtain ⟨hp, g, d, tk, os⟩ := s; obtain ⟨hl, hb, h⟩ := h; have f1 := sub_object_list; wp_walk using wpAny_loadPart' hl, wpAny_loadPart' hb; exact ⟨_, rfl, h⟩

section
variable {prog : Program} {w : World} {A : Around} {E : Value → Shared → Prop} {s : Shared}

theorem object_eq_declines {a b : Addr} {oa ob : Obj} {Q : Value → Shared → Prop} (hab : a ≠ b) (ha : s.heap.get? a = some oa) (hb : s.heap.get? b = some ob) (hnt : oa.cls ≠ .type "tuple") (hT : s.TypeIs (.ref a) "object") (hq : Q .notImplemented s) :
    wpAny (model prog w) A (call (.builtin "object.__eq__") [.ref a, .ref b]) Q E s := by
  refine wpAny_call_entry F.slot_object_eq hT F.entry_object_eq ?_ (PySem.F.cmpArgs_eq _ _)
  show wpAny _ _ (isSame (.ref a) (.ref b) >>= _) _ _ s
  refine wpAny_bind (wpAny_isSame_ref_other hab ha hb hnt ?_)
  exact wpAny_pure ⟨_, rfl, hq⟩

theorem eq_obj_list {z l : Addr} {items : Array Value} {Q : Value → Shared → Prop} (hz : IsObj s.heap z) (hl : s.heap.IsList l items) (hu : A.units < cLine) (h : Q (.bool false) s) : wpAny (model prog w) A (compareOp .Eq (.ref z) (.ref l)) Q E s := by
  obtain ⟨od, dt, slz, hz⟩ := hz
  obtain ⟨⟨cls, dd, data, sl⟩, ho, hc, n, hd⟩ := hl
  simp only at hc hd
  subst hc hd
  have hne : z ≠ l := fun q => by rw [q, ho] at hz; simp at hz
  have ha : s.TypeIs (.ref z) "object" := ⟨_, hz, rfl⟩
  have hb : s.TypeIs (.ref l) "list" := ⟨_, ho, rfl⟩
  show wpAny _ A (richCompare .Eq (.ref z) (.ref l)) Q E s
  have h1 : Slot "object" (cmpInfo .Eq).2.1 "object.__eq__" := F.slot_object_eq
  have h2 : Slot "list" (cmpInfo .Eq).2.2 "list.__eq__" := F.slot_list_eq_refl
  rcases hi : cmpInfo CmpOp.Eq with ⟨sym, f, r⟩
  rw [hi] at h1 h2
  simp only [richCompare, hi, ha.oneThing_none]
  try with_reducible refine wpAny_holding ?_
  refine wpAny_bind (wpAny_cRoomFor_or (.inr hu) ?_)
  refine wpAny_bind (wpAny_typeOf ha (wpAny_bind (wpAny_typeOf hb ?_)))
  simp only [show (Value.type "object" != Value.type "list") = true from by decide, if_true]
  refine wpAny_bind (wpAny_of_eq sub_list_object ?_)
  simp only [if_true, Bool.not_true, Bool.false_eq_true, if_false]
  refine wpAny_bind (m := tryCompare (.ref l) _ (.ref z)) (wpAny_tryCompare_declines hb h2 (call_meets F.slot_list_eq_refl ⟨_, ho, rfl⟩ F.entry_list_eq (F.args_list_eq_2 _ _) (list_eq_declines_obj l z items n dd od sl slz dt) ⟨ho, hz, rfl, ?_⟩))
  refine wpAny_bind (m := tryCompare (.ref z) _ (.ref l)) (wpAny_tryCompare_declines ha h1 (object_eq_declines hne hz ho (by simp) ha ⟨rfl, ?_⟩))
  exact wpAny_bind (wpAny_rule (wpAny_bind (wpAny_isSame_ref_other hne hz ho (by simp) (wpAny_pure h))))
end
end Mine

namespace Mine
open PySem PySem.W PyProof.Rows PySem.Calls PySem.SeqAt

abbrev K2 := Int × Int
/-- a thing of a row, as data -/
def pd (k : K2) : PyData := .list [.int k.1, .int k.2]
/-- v is a list of the two numbers k -/
def El (h : Heap) (v : Value) (k : K2) : Prop := ∃ a as, v = .ref a ∧ Reads h v (pd k) as
/-- v is the marker z, or a thing -/
def Cell (h : Heap) (z : Addr) (v : Value) : Option K2 → Prop
  | none => v = .ref z
  | some k => El h v k
theorem El.kp {h h' : Heap} {v : Value} {k : K2} (x : El h v k) (K : Kp h h') : El h' v k := let ⟨a, as, e, r⟩ := x; ⟨a, as, e, Reads.keeps K r⟩
theorem Cell.kp {h h' : Heap} {z : Addr} {v : Value} {o : Option K2} (x : Cell h z v o) (K : Kp h h') : Cell h' z v o := by
  cases o with
  | none => exact x
  | some k => exact El.kp x K
theorem El.list {h : Heap} {v : Value} {k : K2} (x : El h v k) : ∃ a items, v = .ref a ∧ h.IsList a items := by
  obtain ⟨a, as, rfl, r⟩ := x
  cases r with
  | list h1 h2 h3 h4 => exact ⟨a, _, rfl, _, h1, h2, _, h3⟩
theorem pd_eqv (k k' : K2) : PyData.eqv (pd k) (pd k') = decide (k = k') := by
  obtain ⟨a, b⟩ := k
  obtain ⟨c, d⟩ := k'
  simp only [pd, PyData.eqv, PyData.eqvAll, Prod.mk.injEq, Bool.decide_and, Bool.and_true]
  by_cases h1 : a = c <;> by_cases h2 : b = d <;> simp [h1, h2]
theorem pd_depth (k : K2) : (pd k).depth = 1 := by simp [pd, PyData.depth, PyData.depthAll]
theorem pd_lay (k : K2) : (pd k).canLay0 = true := by
  obtain ⟨a, b⟩ := k
  simp [pd, PyData.canLay0, PyData.canLayAll0]
theorem IsObj.kp {h h' : Heap} {z : Addr} (x : IsObj h z) (K : Kp h h') : IsObj h' z := let ⟨od, dt, sl, e⟩ := x; ⟨od, dt, sl, K _ _ e⟩

section
variable {prog : Program} {w : World} {A : Around} {E : Value → Shared → Prop} {s : Shared}

theorem cell_eq {g : Heap} {z : Addr} {v u : Value} {o : Option K2} {k : K2} {Q : Value → Shared → Prop} (hz : IsObj g z) (hv : Cell g z v o) (hu : El g u k) (K : Kp g s.heap) (hr : A.units + 5 < cLine)
    (h : Q (.bool (decide (o = some k))) s) : wpAny (model prog w) A (compareOp .Eq v u) Q E s := by
  cases o with
  | none =>
    obtain rfl : v = .ref z := hv
    obtain ⟨a, items, rfl, hl⟩ := (hu.kp K).list
    exact eq_obj_list (hz.kp K) hl (by omega) h
  | some k' =>
    obtain ⟨a, as, rfl, ra⟩ := El.kp hv K
    obtain ⟨b, bs, rfl, rb⟩ := hu.kp K
    refine compareEq_reads ra rb (pd_lay _) (pd_lay _) (by rw [pd_depth, pd_depth]; omega) ?_
    rw [pd_eqv]
    simpa using h

/-- elem is NULL -/
theorem cell_is {g : Heap} {z : Addr} {v : Value} {o : Option K2} {Q : Value → Shared → Prop} (hz : IsObj g z) (hv : Cell g z v o) (K : Kp g s.heap)
    (h : Q (.bool (decide (o = none))) s) : wpAny (model prog w) A (compareOp .Is v (.ref z)) Q E s := by
  cases o with
  | none =>
    obtain rfl : v = .ref z := hv
    exact wpAny_is_ref_self (by simpa using h)
  | some k =>
    obtain ⟨a, items, rfl, oa, ho, hc, _⟩ := (El.kp hv K).list
    obtain ⟨od, dt, sl, e⟩ := hz.kp K
    exact wpAny_is_ref_other (fun q => by rw [q, e] at ho; cases ho; simp at hc) ho e (by rw [hc]; decide) (by simpa using h)

/-- how often k stands at the places i .. j - 1 -/
def cntTo (f : Nat → Option K2) (k : K2) (i j : Nat) : Nat := (List.range j).countP fun t => decide (i ≤ t ∧ f t = some k)
theorem cntTo_succ (f : Nat → Option K2) (k : K2) (i j : Nat) : cntTo f k i (j + 1) = cntTo f k i j + (if i ≤ j ∧ f j = some k then 1 else 0) := by
  unfold cntTo
  rw [List.range_succ, List.countP_append]
  by_cases h : i ≤ j ∧ f j = some k <;> simp [h]
theorem cntTo_start (f : Nat → Option K2) (k : K2) (i : Nat) : cntTo f k i i = 0 := by
  unfold cntTo
  rw [List.countP_eq_zero]
  intro t ht
  have := List.mem_range.mp ht
  simp; omega
/-- what stands at a place when all k from i up to j are marked -/
def wiped (f : Nat → Option K2) (k : K2) (i j : Nat) : Nat → Option K2 := fun t => if i ≤ t ∧ t < j ∧ f t = some k then none else f t
/-- a row of things and markers -/
def Arr (g : Heap) (z : Addr) (n : Nat) (f : Nat → Option K2) (xs : Array Value) : Prop := xs.size = n ∧ ∀ t, t < n → ∃ v, xs[t]? = some v ∧ Cell g z v (f t)
theorem Arr.kp {g g' : Heap} {z : Addr} {n : Nat} {f : Nat → Option K2} {xs : Array Value} (x : Arr g z n f xs) (K : Kp g g') : Arr g' z n f xs := ⟨x.1, fun t ht => let ⟨v, e, c⟩ := x.2 t ht; ⟨v, e, c.kp K⟩⟩
theorem Arr.ext {g : Heap} {z : Addr} {n : Nat} {f f' : Nat → Option K2} {xs : Array Value} (x : Arr g z n f xs) (h : ∀ t, t < n → f t = f' t) : Arr g z n f' xs := ⟨x.1, fun t ht => let ⟨v, e, c⟩ := x.2 t ht; ⟨v, e, h t ht ▸ c⟩⟩
theorem Arr.set {g : Heap} {z : Addr} {n j : Nat} {f : Nat → Option K2} {xs : Array Value} (x : Arr g z n f xs) (hj : j < n) : Arr g z n (fun t => if t = j then none else f t) (xs.setIfInBounds j (.ref z)) := by
  refine ⟨by rw [Array.size_setIfInBounds]; exact x.1, fun t ht => ?_⟩
  by_cases h : t = j
  · subst h
    refine ⟨.ref z, ?_, by simp [Cell]⟩
    rw [Array.getElem?_setIfInBounds]
    simp [x.1, hj]
  · obtain ⟨v, e, c⟩ := x.2 t ht
    refine ⟨v, ?_, by simpa [h] using c⟩
    rw [Array.getElem?_setIfInBounds, if_neg (fun q => h q.symm)]
    exact e

/-- range(i, n), walked -/
theorem range_iter {hh : Heap} {i n : Nat} {ti tn : Tok} {Q : Value → Shared → Prop} (hin : i ≤ n) (hn : n ≤ 1000)
    (h : ∀ h' it tk, IsRangeIter h' it i ((n : Int) - i) 1 → hh.get? it = none → Kp hh h' → Q (.ref it) { s with heap := h', toks := tk }) (hs : s.heap = hh := by rfl) :
    wpAny (model prog w) A (call (.type "range") [.int i ti, .int n tn]) (fun x s₁ => wpAny (model prog w) A (pyIter x) Q E s₁) E s := by
  subst hs
  refine call_range_2 (wpAny_pyIter_range (IsRange.new ..) (small_one (by omega) (by omega) (by omega) (by omega)) ?_)
  refine h _ _ _ (?_ : IsRangeIter _ _ _ _ _) (get_none (by show _ ≤ (s.heap.push _).objs.size; rw [Heap.size_push]; exact Nat.le_succ _)) fun b o e => Heap.get?_push_of_some _ (Heap.get?_push_of_some _ e)
  have e : Builtin.Range.rangeSize (i : Int) n 1 = (n : Int) - i := by
    rw [rangeSize_one]
    split <;> omega
  rw [e]
  exact Heap.get?_push_size _ rfl
end
end Mine

namespace Mine
open PySem PySem.W PyProof.Rows PySem.Calls PySem.SeqAt

theorem ghost_none {g h : Heap} {a : Addr} (K : Kp g h) (e : h.get? a = none) : g.get? a = none := by
  cases q : g.get? a with
  | none => rfl
  | some o => rw [K _ _ q] at e; cases e
theorem kp_of_kb {g h h' : Heap} {X : List Addr} (Kg : Kp g h) (off : ∀ a ∈ X, g.get? a = none) (K : KB X h h') : Kp g h' := fun b o e => K b o (fun hb => by rw [off b hb] at e; cases e) (Kg b o e)

section
variable {prog : Program} {w : World} {A : Around} {E : Value → Shared → Prop} {s : Shared} {env : Env} {mg mb : Str → Option Value} {d : Ad}

/-- for j in range(i, xm): if xs[j] == elem: xc += 1; xs[j] = NULL -/
theorem count_loop {h₀ g : Heap} {m : Str → Option Value} {xs xc xm : Str} {l z : Addr} {i n : Nat} {k : K2} {ve : Value} {f : Nat → Option K2} {vs : Array Value} {ti tm tc : Tok}
    {p1 p2 p3 p4 p5 p6 p7 p8 p9 p10 p11 p12 p13 p14 p15 p16 p17 p18 p19 p20 : Pos} {kk : Nat} {orelse : List Stmt} {Q : Flow → Shared → Prop} (N : NM d mg mb) (hH : A.handled = none) (hr : A.units + 5 < cLine)
    (hk : env.scope.kind = .function) (hge : env.globals = mainGlobals) (hbe : env.builtins = builtinsNs) (kr : env.kindOf "range" = some .globalImplicit)
    (kj : env.kindOf "j" = some .local) (ki : env.kindOf "i" = some .local) (ke : env.kindOf "elem" = some .local) (kn : env.kindOf "NULL" = some .local) (ks : env.kindOf xs = some .local) (kc : env.kindOf xc = some .local) (km : env.kindOf xm = some .local)
    (sj : xs ≠ "j") (sc : xs ≠ xc) (ec : ("elem" : Str) ≠ xc) (nc : ("NULL" : Str) ≠ xc) (cj : ("j" : Str) ≠ xc) (cd : (xc == ("__debug__" : Str)) = false) (sd : (xs == ("__debug__" : Str)) = false) (md : (xm == ("__debug__" : Str)) = false)
    (hn : h₀.Ns env.locals m) (m1 : m xs = some (.ref l)) (m2 : m xm = some (.int n tm)) (m3 : m "i" = some (.int i ti)) (m4 : m "elem" = some ve) (m5 : m "NULL" = some (.ref z)) (m6 : m xc = some (.int (0 : Nat) tc))
    (Kg : Kp g h₀) (gL : g.get? env.locals = none) (gl : g.get? l = none) (lL : l ≠ env.locals) (gm : g.Ns mainGlobals mg) (gb : g.Ns builtinsNs mb) (hz : IsObj g z)
    (hl : h₀.IsList l vs) (ha : Arr g z n f vs) (hve : El g ve k) (hin : i ≤ n) (hn1 : n ≤ 1000)
    (h : ∀ h' tk m' vs' tc', h'.Ns env.locals m' → (∀ y : Str, y ≠ "j" → y ≠ xc → m' y = m y) → m' xc = some (.int (cntTo f k i n) tc') → h'.IsList l vs' → Arr g z n (wiped f k i n) vs' → KB [env.locals, l] h₀ h' →
      wpAny (model prog w) A (execs orelse env) (fun fl s' => Q fl s') NO { s with heap := h', toks := tk }) (hs : s.heap = h₀ := by rfl) :
    wpAny (model prog w) A (exec (.For (.Name "j" p1) (.Call (.Name "range" p2) [.Name "i" p3, .Name xm p4] [] p5)
      [.If (.Compare (.Subscript (.Name xs p6) (.Name "j" p7) p8) [.Eq] [.Name "elem" p9] p10) [.AugAssign (.Name xc p11) .Add (.Constant (.int 1) kk p12) p13, .Assign [.Subscript (.Name xs p14) (.Name "j" p15) p16] (.Name "NULL" p17) p18] [] p19] orelse p20) env) Q NO s := by
  subst hs
  refine wpAny_For (callTs (nameB (gm.keeps Kg) N.range.1 (gb.keeps Kg) N.range.2 ⟨rfl, args_cons (ldE hn m3 (args_cons (ldE hn m2 (args_nil ?_) rfl hk km md)) rfl hk ki)⟩ rfl hk kr (by decide) hge hbe))
  refine range_iter hin hn1 fun h₁ it tk₁ hit hit0 K₁ => ?_
  have itL : it ≠ env.locals := ne_ns hit0 hn
  have itl : it ≠ l := by obtain ⟨o, e, _⟩ := hl; exact ne_get hit0 e
  refine codeAny_for (fun c s' => ∃ (j : Nat) (h : Heap) (tk : Nat) (m' : Str → Option Value) (vs' : Array Value) (tc' : Tok), i ≤ j ∧ j ≤ n ∧ c = n - j ∧ s' = { s with heap := h, toks := tk } ∧ IsRangeIter h it j ((n : Int) - j) 1 ∧
    h.Ns env.locals m' ∧ (∀ y : Str, y ≠ "j" → y ≠ xc → m' y = m y) ∧ m' xc = some (.int (cntTo f k i j) tc') ∧ h.IsList l vs' ∧ Arr g z n (wiped f k i j) vs' ∧ KB [env.locals, l] s.heap h) ?_ (n - i)
    ⟨i, h₁, tk₁, m, vs, tc, Nat.le_refl _, hin, rfl, rfl, hit, hn.keeps K₁, fun _ _ _ => rfl, by rw [cntTo_start]; exact m6, hl.at fun o e => K₁ _ o e, ha.ext fun t _ => by unfold wiped; rw [if_neg (by omega)], fun b o _ e => K₁ b o e⟩
  rintro c s' ⟨j, h₂, tk₂, m', vs', tc', hij, hjn, rfl, rfl, hit₂, hn₂, hm', hc', hl₂, ha₂, K₂⟩
  rcases Nat.lt_or_eq_of_le hjn with hlt | rfl
  · refine .inr (bound_range hk kj hit₂ (by omega) hn₂ itL fun h₃ tk₃ t₃ hit₃ hn₃ K₃ => ?_)
    replace K₃ : KB [it, env.locals] h₂ h₃ := K₃
    have e1 : (j : Int) + 1 = ((j + 1 : Nat) : Int) := by push_cast; rfl
    have e2 : (n : Int) - j - 1 = (n : Int) - ((j + 1 : Nat) : Int) := by push_cast; omega
    rw [e1, e2] at hit₃
    have K₄ : KB [env.locals, l] s.heap h₃ := fun b o hb e => K₃ b o (mem_two.mpr ⟨Ne.symm (ne_get hit0 e), (mem_two.mp hb).1⟩) (K₂ b o hb e)
    have Kg₃ : Kp g h₃ := kp_of_kb Kg (by intro a hm; rcases List.mem_cons.mp hm with rfl | hm; exact gL; rw [List.mem_singleton.mp hm]; exact gl) K₄
    have hl₃ : h₃.IsList l vs' := hl₂.at fun o e => K₃ _ o (mem_two.mpr ⟨Ne.symm itl, lL⟩) e
    obtain ⟨v, hv, hcell⟩ := ha₂.2 j hlt
    have hf : wiped f k i j j = f j := by unfold wiped; rw [if_neg (by omega)]
    rw [hf] at hcell
    dsimp only
    have ms : upd m' "j" (.int j t₃) xs = some (.ref l) := by simp only [upd]; rw [if_neg sj]; exact (hm' xs sj sc).trans m1
    have me : upd m' "j" (.int j t₃) "elem" = some ve := by simp only [upd]; rw [if_neg (by decide)]; exact (hm' _ (by decide) ec).trans m4
    have mn : upd m' "j" (.int j t₃) "NULL" = some (.ref z) := by simp only [upd]; rw [if_neg (by decide)]; exact (hm' _ (by decide) nc).trans m5
    have mc : upd m' "j" (.int j t₃) xc = some (.int (cntTo f k i j) tc') := by simp only [upd]; rw [if_neg (Ne.symm cj)]; exact hc'
    have mj : upd m' "j" (.int j t₃) "j" = some (.int j t₃) := by simp [upd]
    refine wpAny_execs_cons (wpAny_If (wpAny_isTrue_Compare1 (Subscript_ (ldE hn₃ ms (ldE hn₃ mj (item_list hl₃ (by omega) (by omega) (by simpa using hv) ?_) rfl hk kj) rfl hk ks sd))))
    refine ldE hn₃ me (cell_eq hz hcell hve Kg₃ hr (wpAny_truthy_bool ?_)) rfl hk ke
    by_cases hfj : f j = some k
    · rw [if_pos (by simpa using hfj)]
      refine wpAny_execs_cons (wpAny_AugAssign_Name (wpAny_loadName_local hk kc hn₃ mc (wpAny_Constant_int (iadd_int ?_))))
      refine wpAny_storeName_local kc hn₃ (fun h₄ hn₄ hs₄ => ?_) (hp_of hk)
      replace hs₄ : Heap.SameBut env.locals h₃ h₄ := hs₄
      have hl₄ : h₄.IsList l vs' := hl₃.at fun o e => hs₄.extBut _ o lL e
      refine wpAny_execs_cons (wpAny_Assign_Subscript (ldE (hh := h₄) (by exact hn₄) (by rw [if_neg nc]; exact mn) (ldE (hh := h₄) (by exact hn₄) (by rw [if_neg sc]; exact ms) (ldE (hh := h₄) (by exact hn₄) (by rw [if_neg cj]; exact mj) ?_ rfl hk kj) rfl hk ks sd) rfl hk kn))
      refine wpAny_setItem_list (by exact hl₄) (by omega) (by omega) (by rw [ha₂.1]; omega) fun h₅ hl₅ hs₅ => ?_
      replace hs₅ : Heap.SameBut l h₄ h₅ := hs₅
      refine wpAny_execs_nil (wpAny_execs_nil ?_)
      refine ⟨n - (j + 1), by omega, j + 1, h₅, _, _, _, tk₃ + 1, by omega, hlt, rfl, rfl, (hs₅.2 _ itl).trans ((hs₄.2 _ itL).trans hit₃), hn₄.sameBut hs₅ (Ne.symm lL), fun y y1 y2 => ?_, ?_, hl₅, ?_, fun b o hb e => hs₅.extBut b o (mem_two.mp hb).2 (hs₄.extBut b o (mem_two.mp hb).1 (K₄ b o hb e))⟩
      · rw [if_neg y2]; simp only [upd]; rw [if_neg y1]; exact hm' y y1 y2
      · rw [if_pos rfl, cntTo_succ, if_pos ⟨hij, hfj⟩]; push_cast; rfl
      · refine (ha₂.set hlt).ext fun t ht => ?_
        unfold wiped
        by_cases htj : t = j
        · subst htj; rw [if_pos rfl, if_pos ⟨hij, by omega, hfj⟩]
        · rw [if_neg htj]
          by_cases hc : i ≤ t ∧ t < j ∧ f t = some k
          · rw [if_pos hc, if_pos ⟨hc.1, by omega, hc.2.2⟩]
          · rw [if_neg hc, if_neg (fun q => hc ⟨q.1, by omega, q.2.2⟩)]
    · rw [if_neg (by simpa using hfj)]
      refine wpAny_execs_nil (wpAny_execs_nil ?_)
      refine ⟨n - (j + 1), by omega, j + 1, h₃, _, _, _, tc', by omega, hlt, rfl, rfl, hit₃, hn₃, fun y y1 y2 => ?_, ?_, hl₃, ?_, K₄⟩
      · simp only [upd]; rw [if_neg y1]; exact hm' y y1 y2
      · rw [mc, cntTo_succ, if_neg (fun q => hfj q.2)]; rfl
      · refine ha₂.ext fun t ht => ?_
        unfold wiped
        by_cases hc : i ≤ t ∧ t < j ∧ f t = some k
        · rw [if_pos hc, if_pos ⟨hc.1, by omega, hc.2.2⟩]
        · rw [if_neg hc, if_neg (fun q => hc ⟨q.1, (by
            rcases Nat.lt_or_eq_of_le (Nat.le_of_lt_succ q.2.1) with h' | rfl
            · exact h'
            · exact absurd q.2.2 hfj), q.2.2⟩)]
  · refine .inl (ended_range hH hit₂ (by omega) fun h₃ K₃ => ?_)
    replace K₃ : KB [it] h₂ h₃ := K₃
    exact h h₃ _ m' vs' tc' (hn₂.at' fun o e => K₃ _ o (mem_one.mpr (Ne.symm itL)) e) hm' hc' (hl₂.at fun o e => K₃ _ o (mem_one.mpr (Ne.symm itl)) e) ha₂ fun b o hb e => K₃ b o (mem_one.mpr (Ne.symm (ne_get hit0 e))) (K₂ b o hb e)
end
end Mine

namespace Mine
open PySem PySem.W PyProof.Rows PySem.Calls PySem.SeqAt

section
variable {prog : Program} {w : World} {A : Around} {E : Value → Shared → Prop} {s : Shared} {env : Env} {mg mb : Str → Option Value} {d : Ad}

/-- for j, other_elem in enumerate(t): if other_elem == elem: cnt_t += 1; t[j] = NULL -/
theorem enum_loop {h₀ g : Heap} {m : Str → Option Value} {l z : Addr} {n : Nat} {k : K2} {ve : Value} {f : Nat → Option K2} {vs : Array Value} {tc : Tok}
    {p0 p1 p2 p3 p4 p5 p9 p10 p11 p12 p13 p14 p15 p16 p17 p18 p19 p20 p21 : Pos} {kk x1 : Nat} {orelse : List Stmt} {Q : Flow → Shared → Prop} (N : NM d mg mb) (hH : A.handled = none) (hr : A.units + 5 < cLine)
    (hk : env.scope.kind = .function) (hge : env.globals = mainGlobals) (hbe : env.builtins = builtinsNs) (kr : env.kindOf "enumerate" = some .globalImplicit)
    (kj : env.kindOf "j" = some .local) (ko : env.kindOf "other_elem" = some .local) (ke : env.kindOf "elem" = some .local) (kn : env.kindOf "NULL" = some .local) (ks : env.kindOf "t" = some .local) (kc : env.kindOf "cnt_t" = some .local)
    (hn : h₀.Ns env.locals m) (m1 : m "t" = some (.ref l)) (m4 : m "elem" = some ve) (m5 : m "NULL" = some (.ref z)) (m6 : m "cnt_t" = some (.int (0 : Nat) tc))
    (Kg : Kp g h₀) (gL : g.get? env.locals = none) (gl : g.get? l = none) (lL : l ≠ env.locals) (gm : g.Ns mainGlobals mg) (gb : g.Ns builtinsNs mb) (hz : IsObj g z)
    (hl : h₀.IsList l vs) (ha : Arr g z n f vs) (hve : El g ve k) (hn1 : n ≤ 1000)
    (h : ∀ h' tk m' vs' tc', h'.Ns env.locals m' → (∀ y : Str, y ≠ "j" → y ≠ "other_elem" → y ≠ "cnt_t" → m' y = m y) → m' "cnt_t" = some (.int (cntTo f k 0 n) tc') → h'.IsList l vs' → Arr g z n (wiped f k 0 n) vs' → KB [env.locals, l] h₀ h' →
      wpAny (model prog w) A (execs orelse env) (fun fl s' => Q fl s') NO { s with heap := h', toks := tk }) (hs : s.heap = h₀ := by rfl) :
    wpAny (model prog w) A (exec (.For (.Tuple [.Name "j" p0, .Name "other_elem" p1] x1 p21) (.Call (.Name "enumerate" p2) [.Name "t" p3] [] p5)
      [.If (.Compare (.Name "other_elem" p4) [.Eq] [.Name "elem" p9] p10) [.AugAssign (.Name "cnt_t" p11) .Add (.Constant (.int 1) kk p12) p13, .Assign [.Subscript (.Name "t" p14) (.Name "j" p15) p16] (.Name "NULL" p17) p18] [] p19] orelse p20) env) Q NO s := by
  subst hs
  refine wpAny_For (callT (nameB (gm.keeps Kg) N.enumerate.1 (gb.keeps Kg) N.enumerate.2 ⟨rfl, ldE hn m1 (enum_list hl fun h₁ e it he hit hei he0 hit0 K₁ => wpAny_pyIter_enum (by exact he) ?_) rfl hk ks⟩ rfl hk kr (by decide) hge hbe))
  have itL : it ≠ env.locals := ne_ns hit0 hn
  have eL : e ≠ env.locals := ne_ns he0 hn
  have itl : it ≠ l := by obtain ⟨o, e, _⟩ := hl; exact ne_get hit0 e
  have el : e ≠ l := by obtain ⟨o, e, _⟩ := hl; exact ne_get he0 e
  refine codeAny_for (fun c s' => ∃ (j : Nat) (h : Heap) (tk : Nat) (m' : Str → Option Value) (vs' : Array Value) (tc' : Tok) (old : Value), j ≤ n ∧ c = n - j ∧ s' = { s with heap := h, toks := tk } ∧ IsEnum h e it (j : Int) old ∧ h.IsListIter it l j ∧
    h.Ns env.locals m' ∧ (∀ y : Str, y ≠ "j" → y ≠ "other_elem" → y ≠ "cnt_t" → m' y = m y) ∧ m' "cnt_t" = some (.int (cntTo f k 0 j) tc') ∧ h.IsList l vs' ∧ Arr g z n (wiped f k 0 j) vs' ∧ KB [env.locals, l] s.heap h) ?_ n
    ⟨0, h₁, _, m, vs, tc, .none, Nat.zero_le _, rfl, rfl, he, hit, hn.keeps K₁, fun _ _ _ _ => rfl, by rw [cntTo_start]; exact m6, hl.at fun o e => K₁ _ o e, ha.ext fun t _ => by unfold wiped; rw [if_neg (by omega)], fun b o _ e => K₁ b o e⟩
  rintro c s' ⟨j, h₂, tk₂, m', vs', tc', old, hjn, rfl, rfl, he₂, hit₂, hn₂, hm', hc', hl₂, ha₂, K₂⟩
  rcases Nat.lt_or_eq_of_le hjn with hlt | rfl
  · obtain ⟨v, hv, hcell⟩ := ha₂.2 j hlt
    refine .inr (bound_enum hH hk kj ko he₂ hit₂ hl₂ hv hn₂ hei eL itL fun h₃ tk₃ t₃ he₃ hit₃ hn₃ K₃ => ?_)
    replace K₃ : KB [e, it, env.locals] h₂ h₃ := K₃
    have K₄ : KB [env.locals, l] s.heap h₃ := fun b o hb e => K₃ b o (mem_three.mpr ⟨Ne.symm (ne_get he0 e), Ne.symm (ne_get hit0 e), (mem_two.mp hb).1⟩) (K₂ b o hb e)
    have Kg₃ : Kp g h₃ := kp_of_kb Kg (by intro a hm; rcases List.mem_cons.mp hm with rfl | hm; exact gL; rw [List.mem_singleton.mp hm]; exact gl) K₄
    have hl₃ : h₃.IsList l vs' := hl₂.at fun o e => K₃ _ o (mem_three.mpr ⟨Ne.symm el, Ne.symm itl, lL⟩) e
    have hf : wiped f k 0 j j = f j := by unfold wiped; rw [if_neg (by omega)]
    rw [hf] at hcell
    dsimp only
    generalize hM : upd (upd m' "j" (.int j t₃)) "other_elem" v = M at hn₃
    have hMy : ∀ y : Str, y ≠ "j" → y ≠ "other_elem" → M y = m' y := fun y y1 y2 => by rw [← hM]; simp only [upd]; rw [if_neg y2, if_neg y1]
    have ms : M "t" = some (.ref l) := (hMy _ (by decide) (by decide)).trans ((hm' _ (by decide) (by decide) (by decide)).trans m1)
    have me : M "elem" = some ve := (hMy _ (by decide) (by decide)).trans ((hm' _ (by decide) (by decide) (by decide)).trans m4)
    have mn : M "NULL" = some (.ref z) := (hMy _ (by decide) (by decide)).trans ((hm' _ (by decide) (by decide) (by decide)).trans m5)
    have mc : M "cnt_t" = some (.int (cntTo f k 0 j) tc') := (hMy _ (by decide) (by decide)).trans hc'
    have mj : M "j" = some (.int j t₃) := by rw [← hM]; simp only [upd]; rw [if_neg (by decide)]; simp
    have mo : M "other_elem" = some v := by rw [← hM]; simp [upd]
    refine wpAny_execs_cons (wpAny_If (wpAny_isTrue_Compare1 (ldE hn₃ mo ?_ rfl hk ko)))
    refine ldE hn₃ me (cell_eq hz hcell hve Kg₃ hr (wpAny_truthy_bool ?_)) rfl hk ke
    by_cases hfj : f j = some k
    · rw [if_pos (by simpa using hfj)]
      refine wpAny_execs_cons (wpAny_AugAssign_Name (wpAny_loadName_local hk kc hn₃ mc (wpAny_Constant_int (iadd_int ?_))))
      refine wpAny_storeName_local kc hn₃ (fun h₄ hn₄ hs₄ => ?_) (hp_of hk)
      replace hs₄ : Heap.SameBut env.locals h₃ h₄ := hs₄
      have hl₄ : h₄.IsList l vs' := hl₃.at fun o e => hs₄.extBut _ o lL e
      refine wpAny_execs_cons (wpAny_Assign_Subscript (ldE (hh := h₄) (by exact hn₄) (by rw [if_neg (by decide)]; exact mn) (ldE (hh := h₄) (by exact hn₄) (by rw [if_neg (by decide)]; exact ms) (ldE (hh := h₄) (by exact hn₄) (by rw [if_neg (by decide)]; exact mj) ?_ rfl hk kj) rfl hk ks) rfl hk kn))
      refine wpAny_setItem_list (by exact hl₄) (by omega) (by omega) (by rw [ha₂.1]; omega) fun h₅ hl₅ hs₅ => ?_
      replace hs₅ : Heap.SameBut l h₄ h₅ := hs₅
      refine wpAny_execs_nil (wpAny_execs_nil ?_)
      refine ⟨n - (j + 1), by omega, j + 1, h₅, _, _, _, tk₃ + 1, _, hlt, rfl, rfl, (hs₅.2 _ el).trans ((hs₄.2 _ eL).trans he₃), (hit₃.at fun o e => (hs₅.2 _ itl).trans ((hs₄.2 _ itL).trans e)), hn₄.sameBut hs₅ (Ne.symm lL), fun y y1 y2 y3 => ?_, ?_, hl₅, ?_, fun b o hb e => hs₅.extBut b o (mem_two.mp hb).2 (hs₄.extBut b o (mem_two.mp hb).1 (K₄ b o hb e))⟩
      · rw [if_neg y3]; exact (hMy y y1 y2).trans (hm' y y1 y2 y3)
      · rw [if_pos rfl, cntTo_succ, if_pos ⟨Nat.zero_le _, hfj⟩]; push_cast; rfl
      · refine (ha₂.set hlt).ext fun t ht => ?_
        unfold wiped
        by_cases htj : t = j
        · subst htj; rw [if_pos rfl, if_pos ⟨Nat.zero_le _, by omega, hfj⟩]
        · rw [if_neg htj]
          by_cases hc : 0 ≤ t ∧ t < j ∧ f t = some k
          · rw [if_pos hc, if_pos ⟨hc.1, by omega, hc.2.2⟩]
          · rw [if_neg hc, if_neg (fun q => hc ⟨q.1, by omega, q.2.2⟩)]
    · rw [if_neg (by simpa using hfj)]
      refine wpAny_execs_nil (wpAny_execs_nil ?_)
      refine ⟨n - (j + 1), by omega, j + 1, h₃, _, M, _, tc', _, hlt, rfl, rfl, he₃, hit₃, hn₃, fun y y1 y2 y3 => (hMy y y1 y2).trans (hm' y y1 y2 y3), ?_, hl₃, ?_, K₄⟩
      · rw [mc, cntTo_succ, if_neg (fun q => hfj q.2)]; rfl
      · refine ha₂.ext fun t ht => ?_
        unfold wiped
        by_cases hc : 0 ≤ t ∧ t < j ∧ f t = some k
        · rw [if_pos hc, if_pos ⟨hc.1, by omega, hc.2.2⟩]
        · rw [if_neg hc, if_neg (fun q => hc ⟨q.1, (by
            rcases Nat.lt_or_eq_of_le (Nat.le_of_lt_succ q.2.1) with h' | rfl
            · exact h'
            · exact absurd q.2.2 hfj), q.2.2⟩)]
  · refine .inl (ended_enum hH he₂ hit₂ hl₂ (by simp [ha₂.1]) fun h₃ K₃ => ?_)
    replace K₃ : KB [it] h₂ h₃ := K₃
    exact h h₃ _ m' vs' tc' (hn₂.at' fun o e => K₃ _ o (mem_one.mpr (Ne.symm itL)) e) hm' hc' (hl₂.at fun o e => K₃ _ o (mem_one.mpr (Ne.symm itl)) e) ha₂ fun b o hb e => K₃ b o (mem_one.mpr (Ne.symm (ne_get hit0 e))) (K₂ b o hb e)
end
end Mine

namespace Mine
open PySem PySem.W PyProof.Rows PySem.Calls PySem.SeqAt

/-- the thing at a place -/
def kAt (S : List K2) (t : Nat) : K2 := S.getD t (0, 0)
/-- a row whose things of seen are marked -/
def mask (seen R : List K2) : Nat → Option K2 := fun t => if kAt R t ∈ seen then none else some (kAt R t)

theorem kAt_eq {S : List K2} {t : Nat} (h : t < S.length) : kAt S t = S[t] := by simp [kAt, h]
theorem kAt_mem {S : List K2} {t i : Nat} (h : t < i) (hi : i ≤ S.length) : kAt S t ∈ S.take i := by
  rw [kAt_eq (Nat.lt_of_lt_of_le h hi), List.mem_take_iff_getElem]
  exact ⟨t, by omega, rfl⟩
theorem mem_take_succ {S : List K2} {t : Nat} (h : t < S.length) (x : K2) : x ∈ S.take (t + 1) ↔ x ∈ S.take t ∨ x = kAt S t := by
  rw [List.take_succ, List.mem_append, kAt_eq h]
  simp [h]
theorem map_kAt (S : List K2) : (List.range S.length).map (kAt S) = S := by
  apply List.ext_getElem
  · simp
  · intro t h1 h2
    simp [kAt_eq h2]
theorem mask_step {S R : List K2} {i i0 n t : Nat} (hi : i < S.length) (h0 : ∀ t, t < i0 → kAt R t ∈ S.take i) (ht : t < n) :
    wiped (mask (S.take i) R) (kAt S i) i0 n t = mask (S.take (i + 1)) R t := by
  unfold wiped mask
  by_cases h1 : kAt R t ∈ S.take i
  · rw [if_pos h1, if_neg (by simp), if_pos ((mem_take_succ hi _).mpr (.inl h1))]
  · rw [if_neg h1]
    have ht0 : i0 ≤ t := Nat.le_of_not_lt fun q => h1 (h0 t q)
    by_cases h2 : kAt R t = kAt S i
    · rw [if_pos ⟨ht0, ht, by rw [h2]⟩, if_pos ((mem_take_succ hi _).mpr (.inr h2))]
    · rw [if_neg (fun q => h2 (Option.some.inj q.2.2)), if_neg (fun q => ((mem_take_succ hi _).mp q).elim h1 h2)]
theorem mask_same {S R : List K2} {i t : Nat} (hi : i < S.length) (h : kAt S i ∈ S.take i) : mask (S.take i) R t = mask (S.take (i + 1)) R t := by
  unfold mask
  by_cases h1 : kAt R t ∈ S.take i
  · rw [if_pos h1, if_pos ((mem_take_succ hi _).mpr (.inl h1))]
  · rw [if_neg h1, if_neg (fun q => ((mem_take_succ hi _).mp q).elim h1 fun e => h1 (e ▸ h))]
theorem mask_cnt {seen R : List K2} {k : K2} {i0 : Nat} (hk : k ∉ seen) (h0 : ∀ t, t < i0 → kAt R t ∈ seen) : cntTo (mask seen R) k i0 R.length = R.count k := by
  unfold cntTo
  conv => rhs; rw [← map_kAt R, List.count_eq_countP, List.countP_map]
  refine List.countP_congr fun t ht => ?_
  unfold mask
  simp only [decide_eq_true_eq, Function.comp, beq_iff_eq]
  constructor
  · rintro ⟨_, h⟩
    by_cases h1 : kAt R t ∈ seen
    · rw [if_pos h1] at h; cases h
    · rw [if_neg h1] at h; exact Option.some.inj h
  · intro h
    refine ⟨Nat.le_of_not_lt fun q => hk (h ▸ h0 t q), ?_⟩
    rw [if_neg (h ▸ hk), h]
theorem mask_nil (R : List K2) (t : Nat) : mask (([] : List K2)) R t = some (kAt R t) := by simp [mask]

abbrev O3 := Nat × Nat × K2
/-- is the thing at a place the first of its like -/
def fst1 (S : List K2) (t : Nat) : Bool := decide (kAt S t ∉ S.take t)
def p1 (S T : List K2) (t : Nat) : Bool := fst1 S t && decide (S.count (kAt S t) ≠ T.count (kAt S t))
def o1 (S T : List K2) (t : Nat) : O3 := (S.count (kAt S t), T.count (kAt S t), kAt S t)
def p2 (S T : List K2) (t : Nat) : Bool := fst1 T t && decide (kAt T t ∉ S)
def o2 (T : List K2) (t : Nat) : O3 := (0, T.count (kAt T t), kAt T t)
def outs1 (S T : List K2) (i : Nat) : List O3 := ((List.range i).filter (p1 S T)).map (o1 S T)
def outs2 (S T : List K2) (i : Nat) : List O3 := ((List.range i).filter (p2 S T)).map (o2 T)
theorem outs1_succ (S T : List K2) (i : Nat) : outs1 S T (i + 1) = outs1 S T i ++ (if p1 S T i then [o1 S T i] else []) := by
  unfold outs1
  rw [range_filter_succ, List.map_append]
  cases p1 S T i <;> rfl
theorem outs2_succ (S T : List K2) (i : Nat) : outs2 S T (i + 1) = outs2 S T i ++ (if p2 S T i then [o2 T i] else []) := by
  unfold outs2
  rw [range_filter_succ, List.map_append]
  cases p2 S T i <;> rfl

/-- v is a Mismatch of the class C -/
def MisAt (C : Addr) (h : Heap) (o : O3) (v : Value) : Prop := ∃ M e t1 t2 dd, v = .ref M ∧ h.get? M = some ({ cls := .ref C, dict := dd, data := .seq #[.int o.1 t1, .int o.2.1 t2, e] } : Obj) ∧ El h e o.2.2
theorem MisAt.kp {C : Addr} {h h' : Heap} {o : O3} {v : Value} (x : MisAt C h o v) (K : Kp h h') : MisAt C h' o v := let ⟨M, e, t1, t2, dd, a, b, c⟩ := x; ⟨M, e, t1, t2, dd, a, K _ _ b, c.kp K⟩

/-- what is asked of the class Mismatch -/
structure MisOk (prog : Program) (w : World) (A : Around) (C : Addr) (g : Heap) : Prop where
  keep : ∀ h, Kp g h → ∃ k, (k = Keeper.frame ∨ k = Keeper.machine ∨ k = Keeper.boundFrame) ∧ Looks (model prog w) h (keeperOf (.ref C)) k
  call : ∀ (s : Shared) (a b : Int) (ta tb : Tok) (e : Addr) (Q : Value → Shared → Prop), Kp g s.heap → s.gens = #[] →
    (∀ h' Ta tk dd, h'.get? Ta = some ({ cls := .ref C, dict := dd, data := .seq #[.int a ta, .int b tb, .ref e] } : Obj) → Kp s.heap h' → s.heap.get? Ta = none → Q (.ref Ta) { s with heap := h', toks := tk }) →
    wpAny (model prog w) A (PySem.call (.ref C) [.int a ta, .int b tb, .ref e]) Q NO s
theorem MisOk.kp {prog : Program} {w : World} {A : Around} {C : Addr} {g g' : Heap} (x : MisOk prog w A C g) (K : Kp g g') : MisOk prog w A C g' :=
  ⟨fun h k => x.keep h fun b o e => k b o (K b o e), fun s a b ta tb e Q k => x.call s a b ta tb e Q fun b o e => k b o (K b o e)⟩

section
variable {prog : Program} {w : World} {A : Around} {E : Value → Shared → Prop} {s : Shared} {env : Env}

/-- result.append(x) -/
theorem append_stmt {pl : Sem Bool} {x y : Str} {p1 p2 p3 p4 p5 : Pos} {l : Addr} {vs : Array Value} {v : Value} {m : Str → Option Value} {hh : Heap} {Q : Flow → Shared → Prop} (hk : env.scope.kind = .function) (kx : env.kindOf x = some .local) (ky : env.kindOf y = some .local)
    (hn : hh.Ns env.locals m) (mx : m x = some (.ref l)) (my : m y = some v) (hl : hh.PlainList l vs) (hsz : vs.size ≤ 1000) (hx : (x == ("__debug__" : Str)) = false) (hy : (y == ("__debug__" : Str)) = false)
    (h : ∀ h', h'.PlainList l (vs.push v) → Heap.SameBut l hh h' → Q .next { s with heap := h' }) (hs : s.heap = hh := by rfl)
    (hc : eval (.Call (.Attribute (.Name x p1) "append" p2) [.Name y p3] [] p4) env = (do
      let ov ← eval (.Name x p1) env
      standAt p2.atName
      let (f, first) ← holding [ov] (getMethod ov "append" pl)
      callWith p4 f first (backTo p4 (starEach [.Name y p3] env)) []) := by rfl) (hi : interactive env = false := by rfl) :
    wpAny (model prog w) A (exec (.Expr (.Call (.Attribute (.Name x p1) "append" p2) [.Name y p3] [] p4) p5) env) Q E s := by
  subst hs
  refine wpAny_Expr (MethodCall_ (ldE hn mx ?_ rfl hk kx hx) hc) hi
  obtain ⟨n, ho⟩ := hl
  refine getMethod_list_append ho rfl rfl (callWith_method1 (args_cons (ldE hn my (args_nil ?_) rfl hk ky hy)))
  exact wpAny_list_append_plain ⟨n, ho⟩ (fun h' hl' hs' => h h' hl' hs') (by rw [sizeLine_eq]; omega)
end
end Mine

namespace Mine
open PySem PySem.W PyProof.Rows PySem.Calls PySem.SeqAt

theorem kb_sub {X Y : List Addr} {h h' : Heap} (K : KB X h h') (s : ∀ a ∈ X, a ∈ Y) : KB Y h h' := fun b o hb e => K b o (fun q => hb (s b q)) e
theorem hide_drop {X Y : List Addr} {h : Heap} (s : ∀ a ∈ X, a ∈ Y) : Kp (hideAll h Y) (hideAll h X) := fun b o e => hideAll_get X (of_hideAll Y e) fun q => by rw [hideAll_none Y (s b q)] at e; cases e
theorem mem_four {a b c d e : Addr} : a ∉ [b, c, d, e] ↔ a ≠ b ∧ a ≠ c ∧ a ≠ d ∧ a ≠ e := by simp
theorem mem_six {a b c d e f i : Addr} : a ∉ [b, c, d, e, f, i] ↔ a ≠ b ∧ a ≠ c ∧ a ≠ d ∧ a ≠ e ∧ a ≠ f ∧ a ≠ i := by simp

/-- what stands still while the rows are counted -/
structure Cx (prog : Program) (w : World) (A : Around) (d : Ad) (mg mb : Str → Option Value) (g : Heap) (L sA tA rA z : Addr) (S T : List K2) : Prop where
  N : NM d mg mb
  hH : A.handled = none
  hr : A.units + 5 < cLine
  mis : MisOk prog w A d.mis g
  gm : g.Ns mainGlobals mg
  gb : g.Ns builtinsNs mb
  hz : IsObj g z
  gL : g.get? L = none
  gs : g.get? sA = none
  gt : g.get? tA = none
  gr : g.get? rA = none
  sL : sA ≠ L
  tL : tA ≠ L
  rL : rA ≠ L
  st : sA ≠ tA
  sr : sA ≠ rA
  tr : tA ≠ rA
  nS : S.length ≤ 100
  nT : T.length ≤ 100
/-- the names of the frame that stand still -/
structure Nm (m : Str → Option Value) (sA tA rA z : Addr) (S T : List K2) : Prop where
  fs : m "s" = some (.ref sA)
  ft : m "t" = some (.ref tA)
  fm : ∃ t, m "m" = some (.int S.length t)
  fn : ∃ t, m "n" = some (.int T.length t)
  null : m "NULL" = some (.ref z)
  res : m "result" = some (.ref rA)
theorem Nm.agree {m m' : Str → Option Value} {sA tA rA z : Addr} {S T : List K2} (x : Nm m sA tA rA z S T) (h : ∀ y ∈ (["s", "t", "m", "n", "NULL", "result"] : List Str), m' y = m y) : Nm m' sA tA rA z S T :=
  ⟨(h _ (by decide)).trans x.fs, (h _ (by decide)).trans x.ft, let ⟨t, e⟩ := x.fm; ⟨t, (h _ (by decide)).trans e⟩, let ⟨t, e⟩ := x.fn; ⟨t, (h _ (by decide)).trans e⟩, (h _ (by decide)).trans x.null, (h _ (by decide)).trans x.res⟩

def for1 : Stmt := (fBody (stN 20)).getD 5 (.Pass ⟨0, 0, 0, 0⟩)
def for2 : Stmt := (fBody (stN 20)).getD 6 (.Pass ⟨0, 0, 0, 0⟩)
abbrev cenv (L a : Addr) (cd : Value) : Env := envOf "_count_diff_all_purpose" (fScope (stN 20)) L a cd

section
variable {prog : Program} {w : World} {A : Around} {E : Value → Shared → Prop} {s : Shared} {mg mb : Str → Option Value} {d : Ad}

theorem Cx.off {g : Heap} {L sA tA rA z : Addr} {S T : List K2} (X : Cx prog w A d mg mb g L sA tA rA z S T) : ∀ a ∈ [L, sA, tA, rA], g.get? a = none := by
  intro a h
  simp only [List.mem_cons, List.not_mem_nil, or_false] at h
  rcases h with rfl | rfl | rfl | rfl
  · exact X.gL
  · exact X.gs
  · exact X.gt
  · exact X.gr

/-- a call of Mismatch, its result bound and appended -/
theorem mis_append {pl : Sem Bool} {g h₀ : Heap} {L a sA tA rA z : Addr} {cd : Value} {S T : List K2} {m : Str → Option Value} {c1 c2 : Int} {k : K2} {ve : Value} {xs : Array Value} {e1 e2 : Expr}
    {q1 q2 q3 q4 q5 q6 q7 q8 q9 q10 : Pos} {rest : List Stmt} {Q : Flow → Shared → Prop} (X : Cx prog w A d mg mb g L sA tA rA z S T) (hg : s.gens = #[])
    (h1 : ∀ (s : Shared) (Q : Value → Shared → Prop), s.heap = h₀ → (∀ s' t, s'.heap = h₀ → s'.gens = s.gens → (∃ tk, s' = { s with toks := tk }) → Q (.int c1 t) s') → wpAny (model prog w) A (eval e1 (cenv L a cd)) Q NO s)
    (h2 : ∀ (s : Shared) (Q : Value → Shared → Prop), s.heap = h₀ → (∀ s' t, s'.heap = h₀ → s'.gens = s.gens → (∃ tk, s' = { s with toks := tk }) → Q (.int c2 t) s') → wpAny (model prog w) A (eval e2 (cenv L a cd)) Q NO s)
    (hn : h₀.Ns L m) (nm : Nm m sA tA rA z S T) (me : m "elem" = some ve) (hve : El g ve k) (Kg : Kp g h₀) (hl : h₀.PlainList rA xs) (hsz : xs.size ≤ 1000)
    (he1 : starEach (e1 :: [e2, .Name "elem" q4]) (cenv L a cd) = (false, eval e1 (cenv L a cd)) :: starEach [e2, .Name "elem" q4] (cenv L a cd)) (he2 : starEach (e2 :: [.Name "elem" q4]) (cenv L a cd) = (false, eval e2 (cenv L a cd)) :: starEach [.Name "elem" q4] (cenv L a cd))
    (hp : (backTo q5 (starEach [e2, .Name "elem" q4] (cenv L a cd))).any (·.1) = false)
    (hc : eval (.Call (.Attribute (.Name "result" q2) "append" q3) [.Name "diff" q8] [] q9) (cenv L a cd) = (do
      let ov ← eval (.Name "result" q2) (cenv L a cd)
      standAt q3.atName
      let (f, first) ← holding [ov] (getMethod ov "append" pl)
      callWith q9 f first (backTo q9 (starEach [.Name "diff" q8] (cenv L a cd))) []))
    (hsw : swapsWith (.Call (.Name "_Mismatch" q1) [e1, e2, .Name "elem" q4] [] q5) (some (.Name "diff" q6)) q7.line (cenv L a cd) = pure false)
    (h : ∀ h' tk m' M v, h'.Ns L m' → (∀ y : Str, y ≠ "diff" → m' y = m y) → h'.PlainList rA (xs.push v) → KB [L, rA] h₀ h' → h₀.get? M = none → v = .ref M →
      (∃ t1 t2 dd, h'.get? M = some ({ cls := .ref d.mis, dict := dd, data := .seq #[.int c1 t1, .int c2 t2, ve] } : Obj)) → wpAny (model prog w) A (execs rest (cenv L a cd)) Q NO { s with heap := h', toks := tk }) (hs : s.heap = h₀ := by rfl) :
    wpAny (model prog w) A (execs (.Assign [.Name "diff" q6] (.Call (.Name "_Mismatch" q1) [e1, e2, .Name "elem" q4] [] q5) q7 :: .Expr (.Call (.Attribute (.Name "result" q2) "append" q3) [.Name "diff" q8] [] q9) q10 :: rest) (cenv L a cd)) Q NO s := by
  obtain ⟨b, as, rfl, r⟩ := hve
  refine wpAny_execs_cons (wpAny_Assign_Name (Call_ (nameG (X.gm.keeps Kg) X.N.mis ?_ hs) (by rfl)) hsw)
  rw [he1]
  refine W.callWith_of (P := fun h => Kp g h) (by show ((false || (backTo q5 (starEach [e2, .Name "elem" q4] (cenv L a cd))).any (·.1)) || false) = false; rw [hp]; rfl) X.mis.keep (evalArgs_plain ?_)
  refine spliced_cons (h1 _ _ hs fun s₁ t₁ hs₁ hg₁ hss₁ => ?_)
  rw [he2]
  refine spliced_cons (h2 _ _ hs₁ fun s₂ t₂ hs₂ hg₂ hss₂ => ?_)
  obtain ⟨tk₁, rfl⟩ := hss₁
  obtain ⟨tk₂, rfl⟩ := hss₂
  refine args_cons (ldE (hh := h₀) (env := cenv L a cd) hn me (args_nil ⟨by rw [hs₂]; exact Kg, ?_⟩) hs₂)
  refine X.mis.call _ c1 c2 _ _ b _ (by rw [hs₂]; exact Kg) (by rw [hg₂, hg₁]; exact hg) fun h₃ M tk₃ dd hM K₃ hM0 => ?_
  rw [hs₂] at hM0
  replace K₃ : Kp h₀ h₃ := fun b o e => K₃ b o (by rw [hs₂]; exact e)
  have hn₃ : h₃.Ns L m := hn.keeps K₃
  refine wpAny_storeName_local (by rfl) hn₃ (fun h₄ hn₄ hs₄ => ?_) (hp_of rfl)
  replace hs₄ : Heap.SameBut L h₃ h₄ := hs₄
  have ML : M ≠ L := ne_ns hM0 hn
  have Mr : M ≠ rA := by obtain ⟨n, e⟩ := hl; exact ne_get hM0 e
  have hl₄ : h₄.PlainList rA xs := hl.at fun o e => hs₄.extBut _ o X.rL (K₃ _ _ e)
  refine wpAny_execs_cons (append_stmt (x := "result") (y := "diff") (m := fun y => if y = "diff" then some (.ref M) else m y) rfl (by rfl) (by rfl) hn₄ (by rw [if_neg (by decide)]; exact nm.res) (by rw [if_pos rfl]) hl₄ hsz (by decide) (by decide) (fun h₅ hl₅ hs₅ => ?_) rfl hc)
  exact h h₅ _ _ M _ (hn₄.sameBut hs₅ (Ne.symm X.rL)) (fun y hy => by rw [if_neg hy]) hl₅ (fun b o hb e => hs₅.extBut b o (mem_two.mp hb).2 (hs₄.extBut b o (mem_two.mp hb).1 (K₃ b o e))) hM0 rfl ⟨_, _, _, hs₅.extBut _ _ Mr (hs₄.extBut _ _ ML hM)⟩
end
end Mine

namespace Mine
open PySem PySem.W PyProof.Rows PySem.Calls PySem.SeqAt

theorem int_expr {prog : Program} {w : World} {A : Around} {h₀ : Heap} {L a : Addr} {cd : Value} {m : Str → Option Value} {x : Str} {p : Pos} {c : Int} {t : Tok} (hn : h₀.Ns L m) (hx : m x = some (.int c t)) (kx : (cenv L a cd).kindOf x = some .local) (dx : (x == ("__debug__" : Str)) = false)
    (s : Shared) (Q : Value → Shared → Prop) (hs : s.heap = h₀) (h : ∀ s' t, s'.heap = h₀ → s'.gens = s.gens → (∃ tk, s' = { s with toks := tk }) → Q (.int c t) s') : wpAny (model prog w) A (eval (.Name x p) (cenv L a cd)) Q NO s :=
  ldE (env := cenv L a cd) hn hx (h s t hs rfl ⟨_, rfl⟩) hs rfl kx dx

section
variable {prog : Program} {w : World} {A : Around} {E : Value → Shared → Prop} {s : Shared} {mg mb : Str → Option Value} {d : Ad}

theorem paired_snoc {α β : Type} {F : α → β → Prop} {l : List α} {xs : Array β} {a : α} {b : β} (h : Paired F l xs.toList) (hf : F a b) : Paired F (l ++ [a]) (xs.push b).toList := by
  simpa using Paired.snoc h hf

theorem outs1_le (S T : List K2) (i : Nat) : (outs1 S T i).length ≤ i := by
  unfold outs1
  rw [List.length_map]
  exact Nat.le_trans (List.length_filter_le _ _) (by simp)
theorem outs2_le (S T : List K2) (i : Nat) : (outs2 S T i).length ≤ i := by
  unfold outs2
  rw [List.length_map]
  exact Nat.le_trans (List.length_filter_le _ _) (by simp)
theorem paired_size {α β : Type} {F : α → β → Prop} {l : List α} {xs : Array β} (h : Paired F l xs.toList) : xs.size = l.length := by
  have := h.length
  simpa using this.symm

theorem outer1 {g h₀ : Heap} {L a sA tA rA z : Addr} {cd : Value} {S T : List K2} {m : Str → Option Value} {vs ws : Array Value} {Q : Flow → Shared → Prop} (X : Cx prog w A d mg mb g L sA tA rA z S T) (hg : s.gens = #[])
    (hn : h₀.Ns L m) (nm : Nm m sA tA rA z S T) (Kg : Kp g h₀) (hs : h₀.IsList sA vs) (ha : Arr g z S.length (mask [] S) vs) (ht : h₀.IsList tA ws) (hb : Arr g z T.length (mask [] T) ws) (hres : h₀.PlainList rA #[])
    (h : ∀ h' tk m' ws' xs, h'.Ns L m' → Nm m' sA tA rA z S T → Kp g h' → h'.IsList tA ws' → Arr g z T.length (mask S T) ws' → h'.PlainList rA xs → Paired (MisAt d.mis (hideAll h' [L, sA, tA, rA])) (outs1 S T S.length) xs.toList → Q .next { s with heap := h', toks := tk })
    (hsh : s.heap = h₀ := by rfl) : wpAny (model prog w) A (exec for1 (cenv L a cd)) Q NO s := by
  subst hsh
  refine wpAny_For (callT (nameB (X.gm.keeps Kg) X.N.enumerate.1 (X.gb.keeps Kg) X.N.enumerate.2 ⟨rfl, ldE (env := cenv L a cd) hn nm.fs (enum_list hs fun h₁ e it he hit hei he0 hit0 K₁ => wpAny_pyIter_enum (by exact he) ?_)⟩))
  have hl0 : ∀ {b}, (∃ o, s.heap.get? b = some o) → e ≠ b ∧ it ≠ b := fun ⟨o, q⟩ => ⟨ne_get he0 q, ne_get hit0 q⟩
  obtain ⟨eL, itL⟩ := hl0 (b := L) (let ⟨o, _, _, q, _⟩ := hn; ⟨o, q⟩)
  obtain ⟨es, its⟩ := hl0 (b := sA) (let ⟨o, q, _⟩ := hs; ⟨o, q⟩)
  obtain ⟨et, itt⟩ := hl0 (b := tA) (let ⟨o, q, _⟩ := ht; ⟨o, q⟩)
  obtain ⟨er, itr⟩ := hl0 (b := rA) (let ⟨_, q⟩ := hres; ⟨_, q⟩)
  have ge : g.get? e = none := ghost_none Kg he0
  have git : g.get? it = none := ghost_none Kg hit0
  have nS := X.nS
  have nT := X.nT
  refine codeAny_for (fun c s' => ∃ (i : Nat) (h : Heap) (tk : Nat) (m' : Str → Option Value) (vs' ws' xs : Array Value) (old : Value), i ≤ S.length ∧ c = S.length - i ∧ s' = { s with heap := h, toks := tk } ∧ IsEnum h e it (i : Int) old ∧ h.IsListIter it sA i ∧
    h.Ns L m' ∧ Nm m' sA tA rA z S T ∧ Kp g h ∧ h.IsList sA vs' ∧ Arr g z S.length (mask (S.take i) S) vs' ∧ h.IsList tA ws' ∧ Arr g z T.length (mask (S.take i) T) ws' ∧ h.PlainList rA xs ∧
    Paired (MisAt d.mis (hideAll h [e, it, L, sA, tA, rA])) (outs1 S T i) xs.toList) ?_ S.length
    ⟨0, h₁, _, m, vs, ws, #[], .none, Nat.zero_le _, rfl, rfl, he, hit, hn.keeps K₁, nm, fun b o q => K₁ _ _ (Kg b o q), hs.at fun o q => K₁ _ o q, ha, ht.at fun o q => K₁ _ o q, hb, hres.at fun o q => K₁ _ o q, .nil⟩
  rintro c s' ⟨i, h₂, tk₂, m₂, vs₂, ws₂, xs, old, hiS, rfl, rfl, he₂, hit₂, hn₂, nm₂, Kg₂, hs₂, ha₂, ht₂, hb₂, hr₂, hP₂⟩
  rcases Nat.lt_or_eq_of_le hiS with hlt | rfl
  · obtain ⟨v, hv, hcell⟩ := ha₂.2 i hlt
    refine .inr (bound_enum X.hH rfl (by rfl) (by rfl) he₂ hit₂ hs₂ hv hn₂ hei eL itL fun h₃ tk₃ t₃ he₃ hit₃ hn₃ K₃ => ?_)
    replace K₃ : KB [e, it, L] h₂ h₃ := K₃
    replace hn₃ : h₃.Ns L (upd (upd m₂ "i" (.int i t₃)) "elem" v) := hn₃
    generalize hM : upd (upd m₂ "i" (.int i t₃)) "elem" v = M at hn₃
    have hMy : ∀ y : Str, y ≠ "i" → y ≠ "elem" → M y = m₂ y := fun y y1 y2 => by rw [← hM]; simp only [upd]; rw [if_neg y2, if_neg y1]
    have nm₃ : Nm M sA tA rA z S T := nm₂.agree fun y hy => hMy y (fun q => by subst q; revert hy; decide) (fun q => by subst q; revert hy; decide)
    have me : M "elem" = some v := by rw [← hM]; simp [upd]
    have mi : M "i" = some (.int i t₃) := by rw [← hM]; simp only [upd]; rw [if_neg (by decide)]; simp
    have Kg₃ : Kp g h₃ := kp_of_kb Kg₂ (by
      intro b hm
      simp only [List.mem_cons, List.not_mem_nil, or_false] at hm
      rcases hm with rfl | rfl | rfl
      · exact ge
      · exact git
      · exact X.gL) K₃
    have hs₃ : h₃.IsList sA vs₂ := hs₂.at fun o q => K₃ _ o (mem_three.mpr ⟨Ne.symm es, Ne.symm its, X.sL⟩) q
    have ht₃ : h₃.IsList tA ws₂ := ht₂.at fun o q => K₃ _ o (mem_three.mpr ⟨Ne.symm et, Ne.symm itt, X.tL⟩) q
    have hr₃ : h₃.PlainList rA xs := hr₂.at fun o q => K₃ _ o (mem_three.mpr ⟨Ne.symm er, Ne.symm itr, X.rL⟩) q
    have hP₃ : Paired (MisAt d.mis (hideAll h₃ [e, it, L, sA, tA, rA])) (outs1 S T i) xs.toList := Paired.imp (fun _ _ x => x.kp (hide_mono (kb_sub K₃ (by intro b hb; simp only [List.mem_cons, List.not_mem_nil, or_false] at hb ⊢; rcases hb with rfl | rfl | rfl <;> simp)))) hP₂
    dsimp only
    refine wpAny_execs_cons (wpAny_If (wpAny_isTrue_Compare1 (ldE (env := cenv L a cd) hn₃ me (ldE (env := cenv L a cd) hn₃ nm₃.null (cell_is X.hz hcell Kg₃ (wpAny_truthy_bool ?_))))))
    by_cases hin : kAt S i ∈ S.take i
    · have hmn : mask (S.take i) S i = none := by unfold mask; rw [if_pos hin]
      rw [if_pos (by simpa using hmn)]
      refine wpAny_execs_cons (wpAny_Continue ?_)
      have hp1 : p1 S T i = false := by unfold p1 fst1; simp [hin]
      refine ⟨S.length - (i + 1), by omega, i + 1, h₃, _, M, vs₂, ws₂, xs, _, hlt, rfl, rfl, he₃, hit₃, hn₃, nm₃, Kg₃, hs₃, ha₂.ext fun t _ => mask_same hlt hin, ht₃, hb₂.ext fun t _ => mask_same hlt hin, hr₃, ?_⟩
      rw [outs1_succ, hp1]
      simpa using hP₃
    · have hmn : mask (S.take i) S i = some (kAt S i) := by unfold mask; rw [if_neg hin]
      rw [hmn] at hcell
      rw [if_neg (by simp [hmn])]
      have hve : El g v (kAt S i) := hcell
      refine wpAny_execs_nil ?_
      -- cnt_s = cnt_t = 0
      refine wpAny_execs_cons (wpAny_Assign_two (wpAny_Constant_int ?_))
      refine wpAny_assign_Name (wpAny_storeName_local (by rfl) hn₃ (fun h₄ hn₄ hs₄ => ?_) (hp_of rfl))
      replace hs₄ : Heap.SameBut L h₃ h₄ := hs₄
      refine wpAny_assign_Name (wpAny_storeName_local (by rfl) (by exact hn₄) (fun h₅ hn₅ hs₅ => ?_) (hp_of rfl))
      replace hs₅ : Heap.SameBut L h₄ h₅ := hs₅
      have K₅ : KB [L] h₃ h₅ := fun b o hb q => hs₅.extBut b o (mem_one.mp hb) (hs₄.extBut b o (mem_one.mp hb) q)
      replace hn₅ : h₅.Ns L (upd (upd M "cnt_s" (.int 0 (tk₃))) "cnt_t" (.int 0 (tk₃))) := hn₅
      generalize hM2 : upd (upd M "cnt_s" (.int 0 (tk₃))) "cnt_t" (.int 0 (tk₃)) = M2 at hn₅
      have hM2y : ∀ y : Str, y ≠ "cnt_s" → y ≠ "cnt_t" → M2 y = M y := fun y y1 y2 => by rw [← hM2]; simp only [upd]; rw [if_neg y2, if_neg y1]
      have nm₅ : Nm M2 sA tA rA z S T := nm₃.agree fun y hy => hM2y y (fun q => by subst q; revert hy; decide) (fun q => by subst q; revert hy; decide)
      have mcs : M2 "cnt_s" = some (.int (0 : Nat) tk₃) := by rw [← hM2]; simp only [upd]; rw [if_neg (by decide), if_pos trivial]; rfl
      have mct : M2 "cnt_t" = some (.int (0 : Nat) tk₃) := by rw [← hM2]; simp only [upd]; rw [if_pos trivial]; rfl
      have me5 : M2 "elem" = some v := (hM2y _ (by decide) (by decide)).trans me
      have mi5 : M2 "i" = some (.int i t₃) := (hM2y _ (by decide) (by decide)).trans mi
      obtain ⟨tm, mm⟩ := nm₅.fm
      have Kg₅ : Kp g h₅ := kp_of_kb Kg₃ (by intro b hm; rw [List.mem_singleton.mp hm]; exact X.gL) K₅
      dsimp only
      -- for j in range(i, m)
      refine wpAny_execs_cons (count_loop (xs := "s") (xc := "cnt_s") (xm := "m") (k := kAt S i) X.N X.hH X.hr rfl rfl rfl (by rfl) (by rfl) (by rfl) (by rfl) (by rfl) (by rfl) (by rfl) (by rfl) (by decide) (by decide) (by decide) (by decide) (by decide) (by decide) (by decide) (by decide)
        (by exact hn₅) nm₅.fs mm mi5 me5 nm₅.null mcs Kg₅ X.gL X.gs X.sL X.gm X.gb X.hz (hs₃.at fun o q => K₅ _ o (mem_one.mpr X.sL) q) ha₂ hve (Nat.le_of_lt hlt) (by omega) (fun h₆ tk₆ m₆ vs₆ tc₆ hn₆ hm₆ hc₆ hs₆ ha₆ K₆ => ?_))
      refine wpAny_execs_nil ?_
      replace hn₆ : h₆.Ns L m₆ := hn₆
      replace K₆ : KB [L, sA] h₅ h₆ := K₆
      have h0 : ∀ t, t < i → kAt S t ∈ S.take i := fun t q => kAt_mem q hiS
      replace ha₆ : Arr g z S.length (mask (S.take (i + 1)) S) vs₆ := ha₆.ext fun t q => mask_step hlt h0 q
      rw [mask_cnt hin h0] at hc₆
      have nm₆ : Nm m₆ sA tA rA z S T := nm₅.agree fun y hy => hm₆ y (fun q => by subst q; revert hy; decide) (fun q => by subst q; revert hy; decide)
      have me6 : m₆ "elem" = some v := (hm₆ _ (by decide) (by decide)).trans me5
      have mct6 : m₆ "cnt_t" = some (.int (0 : Nat) tk₃) := (hm₆ _ (by decide) (by decide)).trans mct
      have Kg₆ : Kp g h₆ := kp_of_kb Kg₅ (by intro b hm; rcases List.mem_cons.mp hm with rfl | hm; exact X.gL; rw [List.mem_singleton.mp hm]; exact X.gs) K₆
      have ht₆ : h₆.IsList tA ws₂ := ht₃.at fun o q => K₆ _ o (mem_two.mpr ⟨X.tL, Ne.symm X.st⟩) (K₅ _ o (mem_one.mpr X.tL) q)
      dsimp only
      -- for j, other_elem in enumerate(t)
      refine wpAny_execs_cons (enum_loop (k := kAt S i) X.N X.hH X.hr rfl rfl rfl (by rfl) (by rfl) (by rfl) (by rfl) (by rfl) (by rfl) (by rfl) (by exact hn₆) nm₆.ft me6 nm₆.null mct6 Kg₆ X.gL X.gt X.tL X.gm X.gb X.hz ht₆ hb₂ hve (by omega) (fun h₇ tk₇ m₇ ws₇ tc₇ hn₇ hm₇ hc₇ ht₇ hb₇ K₇ => ?_))
      refine wpAny_execs_nil ?_
      replace hn₇ : h₇.Ns L m₇ := hn₇
      replace K₇ : KB [L, tA] h₆ h₇ := K₇
      have h00 : ∀ t, t < 0 → kAt T t ∈ S.take i := fun t q => absurd q (Nat.not_lt_zero _)
      replace hb₇ : Arr g z T.length (mask (S.take (i + 1)) T) ws₇ := hb₇.ext fun t q => mask_step hlt h00 q
      rw [mask_cnt hin h00] at hc₇
      have nm₇ : Nm m₇ sA tA rA z S T := nm₆.agree fun y hy => hm₇ y (fun q => by subst q; revert hy; decide) (fun q => by subst q; revert hy; decide) (fun q => by subst q; revert hy; decide)
      have me7 : m₇ "elem" = some v := (hm₇ _ (by decide) (by decide) (by decide)).trans me6
      have mcs7 : m₇ "cnt_s" = some (.int (S.count (kAt S i) : Nat) tc₆) := (hm₇ _ (by decide) (by decide) (by decide)).trans hc₆
      have Kg₇ : Kp g h₇ := kp_of_kb Kg₆ (by intro b hm; rcases List.mem_cons.mp hm with rfl | hm; exact X.gL; rw [List.mem_singleton.mp hm]; exact X.gt) K₇
      have K37 : KB [L, sA, tA] h₃ h₇ := fun b o hb q => by
        obtain ⟨b1, b2, b3⟩ := mem_three.mp hb
        exact K₇ b o (mem_two.mpr ⟨b1, b3⟩) (K₆ b o (mem_two.mpr ⟨b1, b2⟩) (K₅ b o (mem_one.mpr b1) q))
      have hs₇ : h₇.IsList sA vs₆ := hs₆.at fun o q => K₇ _ o (mem_two.mpr ⟨X.sL, X.st⟩) q
      have hr₇ : h₇.PlainList rA xs := hr₃.at fun o q => K37 _ o (mem_three.mpr ⟨X.rL, Ne.symm X.sr, Ne.symm X.tr⟩) q
      have he₇ : IsEnum h₇ e it ((i + 1 : Nat) : Int) v := K37 _ _ (mem_three.mpr ⟨eL, es, et⟩) he₃
      have hit₇ : h₇.IsListIter it sA (i + 1) := hit₃.at fun o q => K37 _ o (mem_three.mpr ⟨itL, its, itt⟩) q
      have hP₇ : Paired (MisAt d.mis (hideAll h₇ [e, it, L, sA, tA, rA])) (outs1 S T i) xs.toList := Paired.imp (fun _ _ x => x.kp (hide_mono (kb_sub K37 (by intro b hb; simp only [List.mem_cons, List.not_mem_nil, or_false] at hb ⊢; rcases hb with rfl | rfl | rfl <;> simp)))) hP₃
      clear K₅ K₆ hs₃ ht₃ hr₃ he₃ hit₃ hP₃ hs₆ ht₆
      dsimp only
      -- if cnt_s != cnt_t
      refine wpAny_execs_cons (wpAny_If (wpAny_isTrue_Compare1 (ldE (env := cenv L a cd) hn₇ mcs7 (ldE (env := cenv L a cd) hn₇ hc₇ (ne_int (wpAny_truthy_bool ?_))))))
      by_cases hcnt : S.count (kAt S i) = T.count (kAt S i)
      · rw [if_neg (by simp [hcnt])]
        refine wpAny_execs_nil (wpAny_execs_nil ?_)
        have hp1 : p1 S T i = false := by unfold p1; simp [hcnt]
        refine ⟨S.length - (i + 1), by omega, i + 1, h₇, _, m₇, vs₆, ws₇, xs, _, hlt, rfl, rfl, he₇, hit₇, hn₇, nm₇, Kg₇, hs₇, ha₆, ht₇, hb₇, hr₇, ?_⟩
        rw [outs1_succ, hp1]
        simpa using hP₇
      · rw [if_pos (by simpa using (fun q : (S.count (kAt S i) : Int) = T.count (kAt S i) => hcnt (by exact_mod_cast q)))]
        have hsz : xs.size ≤ 1000 := by rw [paired_size hP₇]; have := outs1_le S T i; omega
        refine mis_append X (by exact hg) (int_expr hn₇ mcs7 (by rfl) (by decide)) (int_expr hn₇ hc₇ (by rfl) (by decide)) hn₇ nm₇ me7 hve Kg₇ hr₇ hsz (by rfl) (by rfl) (by rfl) (by rfl) (by rfl) fun h₈ tk₈ m₈ Mi vM hn₈ hm₈ hr₈ K₈ hM0 evM hMo => ?_
        refine wpAny_execs_nil (wpAny_execs_nil ?_)
        have hp1 : p1 S T i = true := by unfold p1 fst1; simp [hin, hcnt]
        have h67 : ∀ {b}, (∃ o, h₇.get? b = some o) → Mi ≠ b := fun ⟨o, q⟩ => ne_get hM0 q
        refine ⟨S.length - (i + 1), by omega, i + 1, h₈, _, m₈, vs₆, ws₇, _, _, hlt, rfl, rfl, K₈ _ _ (mem_two.mpr ⟨eL, er⟩) he₇, hit₇.at fun o q => K₈ _ o (mem_two.mpr ⟨itL, itr⟩) q, hn₈,
          nm₇.agree fun y hy => hm₈ y (fun q => by subst q; revert hy; decide), kp_of_kb Kg₇ (by intro b hm; rcases List.mem_cons.mp hm with rfl | hm; exact X.gL; rw [List.mem_singleton.mp hm]; exact X.gr) K₈,
          hs₇.at fun o q => K₈ _ o (mem_two.mpr ⟨X.sL, X.sr⟩) q, ha₆, ht₇.at fun o q => K₈ _ o (mem_two.mpr ⟨X.tL, X.tr⟩) q, hb₇, hr₈, ?_⟩
        rw [outs1_succ, hp1]
        refine paired_snoc (Paired.imp (fun _ _ x => x.kp (hide_mono (kb_sub K₈ (by intro b hb; simp only [List.mem_cons, List.not_mem_nil, or_false] at hb ⊢; rcases hb with rfl | rfl <;> simp)))) hP₇) ?_
        obtain ⟨t1, t2, dd, hMo⟩ := hMo
        refine ⟨Mi, v, t1, t2, dd, evM, hideAll_get _ hMo (mem_six.mpr ⟨h67 ⟨_, he₇⟩, h67 (let ⟨o, q, _⟩ := hit₇; ⟨o, q⟩), ne_ns hM0 hn₇, h67 (let ⟨o, q, _⟩ := hs₇; ⟨o, q⟩), h67 (let ⟨o, q, _⟩ := ht₇; ⟨o, q⟩), h67 (let ⟨_, q⟩ := hr₇; ⟨_, q⟩)⟩), ?_⟩
        refine hve.kp (hide_sub (kp_of_kb Kg₇ (by intro b hm; rcases List.mem_cons.mp hm with rfl | hm; exact X.gL; rw [List.mem_singleton.mp hm]; exact X.gr) K₈) ?_)
        intro b hb
        rcases List.mem_cons.mp hb with rfl | hb
        · exact ge
        · rcases List.mem_cons.mp hb with rfl | hb
          · exact git
          · exact X.off b hb
  · refine .inl (ended_enum X.hH he₂ hit₂ hs₂ (by simp [ha₂.1]) fun h₃ K₃ => ?_)
    replace K₃ : KB [it] h₂ h₃ := K₃
    refine wpAny_execs_nil ?_
    rw [List.take_of_length_le (Nat.le_refl _)] at hb₂
    refine h h₃ _ m₂ ws₂ xs (hn₂.at' fun o q => K₃ _ o (mem_one.mpr (Ne.symm itL)) q) nm₂ (kp_of_kb Kg₂ (by intro b hm; rw [List.mem_singleton.mp hm]; exact git) K₃) (ht₂.at fun o q => K₃ _ o (mem_one.mpr (Ne.symm itt)) q) hb₂ (hr₂.at fun o q => K₃ _ o (mem_one.mpr (Ne.symm itr)) q)
      (Paired.imp (fun _ _ x => MisAt.kp (MisAt.kp x (hide_mono (kb_sub K₃ (by intro b hb; rw [List.mem_singleton.mp hb]; simp)))) (hide_drop (by intro b hb; exact List.mem_cons_of_mem _ (List.mem_cons_of_mem _ hb)))) hP₂)
end
end Mine

namespace Mine
open PySem PySem.W PyProof.Rows PySem.Calls PySem.SeqAt

theorem mask_add {seen seen' R : List K2} {k : K2} {i0 n t : Nat} (hm : ∀ x, x ∈ seen' ↔ x ∈ seen ∨ x = k) (h0 : ∀ t, t < i0 → kAt R t ∈ seen) (ht : t < n) :
    wiped (mask seen R) k i0 n t = mask seen' R t := by
  unfold wiped mask
  by_cases h1 : kAt R t ∈ seen
  · rw [if_pos h1, if_neg (by simp), if_pos ((hm _).mpr (.inl h1))]
  · rw [if_neg h1]
    have ht0 : i0 ≤ t := Nat.le_of_not_lt fun q => h1 (h0 t q)
    by_cases h2 : kAt R t = k
    · rw [if_pos ⟨ht0, ht, by rw [h2]⟩, if_pos ((hm _).mpr (.inr h2))]
    · rw [if_neg (fun q => h2 (Option.some.inj q.2.2)), if_neg (fun q => ((hm _).mp q).elim h1 h2)]
theorem mask_eq {seen seen' R : List K2} {t : Nat} (hm : ∀ x, x ∈ seen' ↔ x ∈ seen) : mask seen R t = mask seen' R t := by
  unfold mask
  by_cases h1 : kAt R t ∈ seen
  · rw [if_pos h1, if_pos ((hm _).mpr h1)]
  · rw [if_neg h1, if_neg (fun q => h1 ((hm _).mp q))]

section
variable {prog : Program} {w : World} {A : Around} {E : Value → Shared → Prop} {s : Shared} {mg mb : Str → Option Value} {d : Ad}

theorem const_expr {h₀ : Heap} {L a : Addr} {cd : Value} {c : Int} {kk : Nat} {p : Pos}
    (s : Shared) (Q : Value → Shared → Prop) (hs : s.heap = h₀) (h : ∀ s' t, s'.heap = h₀ → s'.gens = s.gens → (∃ tk, s' = { s with toks := tk }) → Q (.int c t) s') : wpAny (model prog w) A (eval (.Constant (.int c) kk p) (cenv L a cd)) Q NO s :=
  wpAny_Constant_int (h _ _ hs rfl ⟨_, rfl⟩)

theorem outer2 {g h₀ : Heap} {L a sA tA rA z : Addr} {cd : Value} {S T : List K2} {m : Str → Option Value} {ws xs₀ : Array Value} {O : List O3} {Q : Flow → Shared → Prop} (X : Cx prog w A d mg mb g L sA tA rA z S T) (hg : s.gens = #[])
    (hn : h₀.Ns L m) (nm : Nm m sA tA rA z S T) (Kg : Kp g h₀) (ht : h₀.IsList tA ws) (hb : Arr g z T.length (mask S T) ws) (hres : h₀.PlainList rA xs₀) (hO : O.length ≤ 200)
    (hP : Paired (MisAt d.mis (hideAll h₀ [L, tA, rA])) O xs₀.toList)
    (h : ∀ h' tk m' xs, h'.Ns L m' → Nm m' sA tA rA z S T → Kp g h' → h'.PlainList rA xs → Paired (MisAt d.mis (hideAll h' [L, tA, rA])) (O ++ outs2 S T T.length) xs.toList → Q .next { s with heap := h', toks := tk })
    (hsh : s.heap = h₀ := by rfl) : wpAny (model prog w) A (exec for2 (cenv L a cd)) Q NO s := by
  subst hsh
  refine wpAny_For (callT (nameB (X.gm.keeps Kg) X.N.enumerate.1 (X.gb.keeps Kg) X.N.enumerate.2 ⟨rfl, ldE (env := cenv L a cd) hn nm.ft (enum_list ht fun h₁ e it he hit hei he0 hit0 K₁ => wpAny_pyIter_enum (by exact he) ?_)⟩))
  have hl0 : ∀ {b}, (∃ o, s.heap.get? b = some o) → e ≠ b ∧ it ≠ b := fun ⟨o, q⟩ => ⟨ne_get he0 q, ne_get hit0 q⟩
  obtain ⟨eL, itL⟩ := hl0 (b := L) (let ⟨o, _, _, q, _⟩ := hn; ⟨o, q⟩)
  obtain ⟨et, itt⟩ := hl0 (b := tA) (let ⟨o, q, _⟩ := ht; ⟨o, q⟩)
  obtain ⟨er, itr⟩ := hl0 (b := rA) (let ⟨_, q⟩ := hres; ⟨_, q⟩)
  have ge : g.get? e = none := ghost_none Kg he0
  have git : g.get? it = none := ghost_none Kg hit0
  have nS := X.nS
  have nT := X.nT
  have hP₁ : Paired (MisAt d.mis (hideAll h₁ [e, it, L, tA, rA])) O xs₀.toList := Paired.imp (fun _ _ x => x.kp (fun b o q => by
    have hbX : b ∉ [L, tA, rA] := fun hb => by rw [hideAll_none _ hb] at q; cases q
    have q' := of_hideAll _ q
    exact hideAll_get _ (K₁ _ _ q') (fun hb => by
      rcases List.mem_cons.mp hb with rfl | hb
      · rw [he0] at q'; cases q'
      · rcases List.mem_cons.mp hb with rfl | hb
        · rw [hit0] at q'; cases q'
        · exact hbX hb))) hP
  refine codeAny_for (fun c s' => ∃ (i : Nat) (h : Heap) (tk : Nat) (m' : Str → Option Value) (ws' xs : Array Value) (old : Value), i ≤ T.length ∧ c = T.length - i ∧ s' = { s with heap := h, toks := tk } ∧ IsEnum h e it (i : Int) old ∧ h.IsListIter it tA i ∧
    h.Ns L m' ∧ Nm m' sA tA rA z S T ∧ Kp g h ∧ h.IsList tA ws' ∧ Arr g z T.length (mask (S ++ T.take i) T) ws' ∧ h.PlainList rA xs ∧
    Paired (MisAt d.mis (hideAll h [e, it, L, tA, rA])) (O ++ outs2 S T i) xs.toList) ?_ T.length
    ⟨0, h₁, _, m, ws, xs₀, .none, Nat.zero_le _, rfl, rfl, he, hit, hn.keeps K₁, nm, fun b o q => K₁ _ _ (Kg b o q), ht.at fun o q => K₁ _ o q, by simpa using hb, hres.at fun o q => K₁ _ o q, by simpa [outs2] using hP₁⟩
  rintro c s' ⟨i, h₂, tk₂, m₂, ws₂, xs, old, hiT, rfl, rfl, he₂, hit₂, hn₂, nm₂, Kg₂, ht₂, hb₂, hr₂, hP₂⟩
  rcases Nat.lt_or_eq_of_le hiT with hlt | rfl
  · obtain ⟨v, hv, hcell⟩ := hb₂.2 i hlt
    refine .inr (bound_enum X.hH rfl (by rfl) (by rfl) he₂ hit₂ ht₂ hv hn₂ hei eL itL fun h₃ tk₃ t₃ he₃ hit₃ hn₃ K₃ => ?_)
    replace K₃ : KB [e, it, L] h₂ h₃ := K₃
    replace hn₃ : h₃.Ns L (upd (upd m₂ "i" (.int i t₃)) "elem" v) := hn₃
    generalize hM : upd (upd m₂ "i" (.int i t₃)) "elem" v = M at hn₃
    have hMy : ∀ y : Str, y ≠ "i" → y ≠ "elem" → M y = m₂ y := fun y y1 y2 => by rw [← hM]; simp only [upd]; rw [if_neg y2, if_neg y1]
    have nm₃ : Nm M sA tA rA z S T := nm₂.agree fun y hy => hMy y (fun q => by subst q; revert hy; decide) (fun q => by subst q; revert hy; decide)
    have me : M "elem" = some v := by rw [← hM]; simp [upd]
    have mi : M "i" = some (.int i t₃) := by rw [← hM]; simp only [upd]; rw [if_neg (by decide)]; simp
    have Kg₃ : Kp g h₃ := kp_of_kb Kg₂ (by
      intro b hm
      simp only [List.mem_cons, List.not_mem_nil, or_false] at hm
      rcases hm with rfl | rfl | rfl
      · exact ge
      · exact git
      · exact X.gL) K₃
    have ht₃ : h₃.IsList tA ws₂ := ht₂.at fun o q => K₃ _ o (mem_three.mpr ⟨Ne.symm et, Ne.symm itt, X.tL⟩) q
    have hr₃ : h₃.PlainList rA xs := hr₂.at fun o q => K₃ _ o (mem_three.mpr ⟨Ne.symm er, Ne.symm itr, X.rL⟩) q
    have hP₃ : Paired (MisAt d.mis (hideAll h₃ [e, it, L, tA, rA])) (O ++ outs2 S T i) xs.toList := Paired.imp (fun _ _ x => x.kp (hide_mono (kb_sub K₃ (by intro b hb; simp only [List.mem_cons, List.not_mem_nil, or_false] at hb ⊢; rcases hb with rfl | rfl | rfl <;> simp)))) hP₂
    dsimp only
    refine wpAny_execs_cons (wpAny_If (wpAny_isTrue_Compare1 (ldE (env := cenv L a cd) hn₃ me (ldE (env := cenv L a cd) hn₃ nm₃.null (cell_is X.hz hcell Kg₃ (wpAny_truthy_bool ?_))))))
    by_cases hin : kAt T i ∈ S ++ T.take i
    · have hmn : mask (S ++ T.take i) T i = none := by unfold mask; rw [if_pos hin]
      rw [if_pos (by simpa using hmn)]
      refine wpAny_execs_cons (wpAny_Continue ?_)
      have hp2 : p2 S T i = false := by
        unfold p2 fst1
        rcases List.mem_append.mp hin with q | q <;> simp [q]
      have hsame : ∀ x, x ∈ S ++ T.take (i + 1) ↔ x ∈ S ++ T.take i := fun x => by
        rw [List.mem_append, List.mem_append, mem_take_succ hlt]
        constructor
        · rintro (q | q | rfl)
          · exact .inl q
          · exact .inr q
          · exact List.mem_append.mp hin
        · rintro (q | q)
          · exact .inl q
          · exact .inr (.inl q)
      refine ⟨T.length - (i + 1), by omega, i + 1, h₃, _, M, ws₂, xs, _, hlt, rfl, rfl, he₃, hit₃, hn₃, nm₃, Kg₃, ht₃, hb₂.ext fun t _ => mask_eq hsame, hr₃, ?_⟩
      rw [outs2_succ, hp2]
      simpa using hP₃
    · have hmn : mask (S ++ T.take i) T i = some (kAt T i) := by unfold mask; rw [if_neg hin]
      rw [hmn] at hcell
      rw [if_neg (by simp [hmn])]
      have hve : El g v (kAt T i) := hcell
      refine wpAny_execs_nil ?_
      -- cnt_t = 0
      refine wpAny_execs_cons (wpAny_Assign_Name (wpAny_Constant_int ?_))
      refine wpAny_storeName_local (by rfl) hn₃ (fun h₅ hn₅ hs₅ => ?_) (hp_of rfl)
      replace hs₅ : Heap.SameBut L h₃ h₅ := hs₅
      have K₅ : KB [L] h₃ h₅ := fun b o hb q => hs₅.extBut b o (mem_one.mp hb) q
      replace hn₅ : h₅.Ns L (upd M "cnt_t" (.int 0 (tk₃))) := hn₅
      generalize hM2 : upd M "cnt_t" (.int 0 (tk₃)) = M2 at hn₅
      have hM2y : ∀ y : Str, y ≠ "cnt_t" → M2 y = M y := fun y y2 => by rw [← hM2]; simp only [upd]; rw [if_neg y2]
      have nm₅ : Nm M2 sA tA rA z S T := nm₃.agree fun y hy => hM2y y (fun q => by subst q; revert hy; decide)
      have mct : M2 "cnt_t" = some (.int (0 : Nat) tk₃) := by rw [← hM2]; simp only [upd]; rw [if_pos trivial]; rfl
      have me5 : M2 "elem" = some v := (hM2y _ (by decide)).trans me
      have mi5 : M2 "i" = some (.int i t₃) := (hM2y _ (by decide)).trans mi
      obtain ⟨tm, mm⟩ := nm₅.fn
      have Kg₅ : Kp g h₅ := kp_of_kb Kg₃ (by intro b hm; rw [List.mem_singleton.mp hm]; exact X.gL) K₅
      dsimp only
      -- for j in range(i, n)
      refine wpAny_execs_cons (count_loop (xs := "t") (xc := "cnt_t") (xm := "n") (k := kAt T i) X.N X.hH X.hr rfl rfl rfl (by rfl) (by rfl) (by rfl) (by rfl) (by rfl) (by rfl) (by rfl) (by rfl) (by decide) (by decide) (by decide) (by decide) (by decide) (by decide) (by decide) (by decide)
        (by exact hn₅) nm₅.ft mm mi5 me5 nm₅.null mct Kg₅ X.gL X.gt X.tL X.gm X.gb X.hz (ht₃.at fun o q => K₅ _ o (mem_one.mpr X.tL) q) hb₂ hve (Nat.le_of_lt hlt) (by omega) (fun h₇ tk₇ m₇ ws₇ tc₇ hn₇ hm₇ hc₇ ht₇ hb₇ K₆ => ?_))
      refine wpAny_execs_nil ?_
      replace hn₇ : h₇.Ns L m₇ := hn₇
      replace K₆ : KB [L, tA] h₅ h₇ := K₆
      have h0 : ∀ t, t < i → kAt T t ∈ S ++ T.take i := fun t q => List.mem_append_right _ (kAt_mem q hiT)
      have hadd : ∀ x, x ∈ S ++ T.take (i + 1) ↔ x ∈ S ++ T.take i ∨ x = kAt T i := fun x => by
        rw [List.mem_append, List.mem_append, mem_take_succ hlt, or_assoc]
      replace hb₇ : Arr g z T.length (mask (S ++ T.take (i + 1)) T) ws₇ := hb₇.ext fun t q => mask_add hadd h0 q
      rw [mask_cnt hin h0] at hc₇
      have nm₇ : Nm m₇ sA tA rA z S T := nm₅.agree fun y hy => hm₇ y (fun q => by subst q; revert hy; decide) (fun q => by subst q; revert hy; decide)
      have me7 : m₇ "elem" = some v := (hm₇ _ (by decide) (by decide)).trans me5
      have K37 : KB [L, tA] h₃ h₇ := fun b o hb q => K₆ b o hb (K₅ b o (mem_one.mpr (mem_two.mp hb).1) q)
      have Kg₇ : Kp g h₇ := kp_of_kb Kg₃ (by intro b hm; rcases List.mem_cons.mp hm with rfl | hm; exact X.gL; rw [List.mem_singleton.mp hm]; exact X.gt) K37
      have hr₇ : h₇.PlainList rA xs := hr₃.at fun o q => K37 _ o (mem_two.mpr ⟨X.rL, Ne.symm X.tr⟩) q
      have he₇ : IsEnum h₇ e it ((i + 1 : Nat) : Int) v := K37 _ _ (mem_two.mpr ⟨eL, et⟩) he₃
      have hit₇ : h₇.IsListIter it tA (i + 1) := hit₃.at fun o q => K37 _ o (mem_two.mpr ⟨itL, itt⟩) q
      have hP₇ : Paired (MisAt d.mis (hideAll h₇ [e, it, L, tA, rA])) (O ++ outs2 S T i) xs.toList := Paired.imp (fun _ _ x => x.kp (hide_mono (kb_sub K37 (by intro b hb; simp only [List.mem_cons, List.not_mem_nil, or_false] at hb ⊢; rcases hb with rfl | rfl <;> simp)))) hP₃
      clear K₅ K₆ ht₃ hr₃ he₃ hit₃ hP₃
      dsimp only
      have hsz : xs.size ≤ 1000 := by rw [paired_size hP₇, List.length_append]; have := outs2_le S T i; omega
      refine mis_append X (by exact hg) const_expr (int_expr hn₇ hc₇ (by rfl) (by decide)) hn₇ nm₇ me7 hve Kg₇ hr₇ hsz (by rfl) (by rfl) (by rfl) (by rfl) (by rfl) fun h₈ tk₈ m₈ Mi vM hn₈ hm₈ hr₈ K₈ hM0 evM hMo => ?_
      refine wpAny_execs_nil ?_
      have hp2 : p2 S T i = true := by
        unfold p2 fst1
        rw [List.mem_append, not_or] at hin
        simp [hin.1, hin.2]
      have h67 : ∀ {b}, (∃ o, h₇.get? b = some o) → Mi ≠ b := fun ⟨o, q⟩ => ne_get hM0 q
      refine ⟨T.length - (i + 1), by omega, i + 1, h₈, _, m₈, ws₇, _, _, hlt, rfl, rfl, K₈ _ _ (mem_two.mpr ⟨eL, er⟩) he₇, hit₇.at fun o q => K₈ _ o (mem_two.mpr ⟨itL, itr⟩) q, hn₈,
        nm₇.agree fun y hy => hm₈ y (fun q => by subst q; revert hy; decide), kp_of_kb Kg₇ (by intro b hm; rcases List.mem_cons.mp hm with rfl | hm; exact X.gL; rw [List.mem_singleton.mp hm]; exact X.gr) K₈,
        ht₇.at fun o q => K₈ _ o (mem_two.mpr ⟨X.tL, X.tr⟩) q, hb₇, hr₈, ?_⟩
      rw [outs2_succ, hp2, if_pos rfl, ← List.append_assoc]
      refine paired_snoc (Paired.imp (fun _ _ x => x.kp (hide_mono (kb_sub K₈ (by intro b hb; simp only [List.mem_cons, List.not_mem_nil, or_false] at hb ⊢; rcases hb with rfl | rfl <;> simp)))) hP₇) ?_
      obtain ⟨t1, t2, dd, hMo⟩ := hMo
      have gsA : Mi ∉ [e, it, L, tA, rA] := by
        simp only [List.mem_cons, List.not_mem_nil, or_false, not_or]
        exact ⟨h67 ⟨_, he₇⟩, h67 (let ⟨o, q, _⟩ := hit₇; ⟨o, q⟩), ne_ns hM0 hn₇, h67 (let ⟨o, q, _⟩ := ht₇; ⟨o, q⟩), h67 (let ⟨_, q⟩ := hr₇; ⟨_, q⟩)⟩
      refine ⟨Mi, v, t1, t2, dd, evM, hideAll_get _ hMo gsA, ?_⟩
      refine hve.kp (hide_sub (kp_of_kb Kg₇ (by intro b hm; rcases List.mem_cons.mp hm with rfl | hm; exact X.gL; rw [List.mem_singleton.mp hm]; exact X.gr) K₈) ?_)
      intro b hb
      rcases List.mem_cons.mp hb with rfl | hb
      · exact ge
      · rcases List.mem_cons.mp hb with rfl | hb
        · exact git
        · exact X.off b (by simp only [List.mem_cons, List.not_mem_nil, or_false] at hb ⊢; rcases hb with rfl | rfl | rfl <;> simp)
  · refine .inl (ended_enum X.hH he₂ hit₂ ht₂ (by simp [hb₂.1]) fun h₃ K₃ => ?_)
    replace K₃ : KB [it] h₂ h₃ := K₃
    refine wpAny_execs_nil ?_
    refine h h₃ _ m₂ xs (hn₂.at' fun o q => K₃ _ o (mem_one.mpr (Ne.symm itL)) q) nm₂ (kp_of_kb Kg₂ (by intro b hm; rw [List.mem_singleton.mp hm]; exact git) K₃) (hr₂.at fun o q => K₃ _ o (mem_one.mpr (Ne.symm itr)) q)
      (Paired.imp (fun _ _ x => MisAt.kp (MisAt.kp x (hide_mono (kb_sub K₃ (by intro b hb; rw [List.mem_singleton.mp hb]; simp)))) (hide_drop (by intro b hb; exact List.mem_cons_of_mem _ (List.mem_cons_of_mem _ hb)))) hP₂)
end
end Mine

namespace Mine
open PySem PySem.W PyProof.Rows PySem.Calls PySem.SeqAt

theorem mro_object : mroOf (.type "object") = pure [.type "object"] := by rw [mroOf_type]; kernel_rfl
theorem lookup_object_new : typeLookup (.type "object") "__new__" = pure (some (.builtin "object.__new__")) := by rw [typeLookup_type, builtinLookup_eq_fast]; kernel_rfl
theorem called_object : TypeCalled "object" "object.__new__" "object.__init__" :=
  ⟨by decide +kernel, by decide +kernel, ⟨_, _, mro_object⟩, madeBy_type mro_object lookup_object_new (by decide +kernel), by decide +kernel, by rw [isSubtype_type]; kernel_rfl, F.slot_object_init⟩
theorem typeCall_object_0 : checkTypeCall "object" ⟨[], []⟩ = pure () := by kernel_rfl
theorem newCall_object_0 : checkBuiltinCall "object.__new__" ⟨[.type "object"], []⟩ = pure () := by kernel_rfl
theorem args_object_init_1 (a : Value) : argsOk "object.__init__" ⟨[a], []⟩ := by unfold argsOk; kernel_rfl
theorem madeHere_object : Bind.madeHere "object.__new__" (.type "object") = pure () := by
  unfold Bind.madeHere
  have e : Bind.staticBase (.type "object") = pure (.type "object") := by first | rfl | kernel_rfl
  rw [e]
  simp only [pure_bind, called_object.made]
  first | rfl | kernel_rfl | (simp; rfl)
theorem meets_object_new : Meets (Builtin.«object.__new__» ⟨[.type "object"], []⟩) (fun _ R s => R (.ok (.ret (.ref s.heap.objs.size))) { s with heap := s.heap.push { cls := .type "object", data := .plain } }) :=
  .of_wp fun prog w A R s h => by
    obtain ⟨hp, g, d, tk, os⟩ := s
    have hmh := madeHere_object
    wp_walk
    exact ⟨_, rfl, h⟩

section
variable {prog : Program} {w : World} {A : Around} {E : Value → Shared → Prop} {s : Shared} {mg mb : Str → Option Value} {d : Ad}

theorem call_object {hh : Heap} {Q : Value → Shared → Prop} (h : ∀ h' z, IsObj h' z → hh.get? z = none → Kp hh h' → Q (.ref z) { s with heap := h' }) (hs : s.heap = hh := by rfl) : wpAny (model prog w) A (call (.type "object") []) Q E s := by
  subst hs
  refine callType_meets (Q₁ := fun obj s₁ => obj = .ref s.heap.objs.size ∧ s₁ = { s with heap := s.heap.push { cls := .type "object", data := .plain } }) called_object typeCall_object_0 newCall_object_0 F.entry_object_new F.entry_object_init meets_object_new ⟨rfl, rfl⟩ fun obj s₁ h₁ => ?_
  obtain ⟨rfl, rfl⟩ := h₁
  refine ⟨⟨_, Heap.get?_push_size _ rfl, rfl⟩, args_object_init_1 _, (fun _ R s => R (.ok (.ret .none)) s), Meets.of_wp fun prog w A R s hs => wpAny_pure ⟨_, rfl, hs⟩, rfl, ?_⟩
  exact h _ _ ⟨_, _, _, Heap.get?_push_size _ rfl⟩ (get_none (Nat.le_refl _)) fun b o e => Heap.get?_push_of_some _ e

theorem call_list_list {hh : Heap} {l : Addr} {items : Array Value} {Q : Value → Shared → Prop} (hl : hh.IsList l items) (hsz : items.size ≤ 1000)
    (h : ∀ h' l', h'.PlainList l' items → hh.get? l' = none → Kp hh h' → Q (.ref l') { s with heap := h' }) (hs : s.heap = hh := by rfl) : wpAny (model prog w) A (call (.type "list") [.ref l]) Q E s := by
  subst hs
  obtain ⟨o, ho, hc, n, hd⟩ := hl
  exact call_list_seq l (.inl rfl) ho hc hd (fun h' c' K e => h h' _ ⟨c', e⟩ (get_none (Nat.le_refl _)) K) (by rw [sizeLine_eq]; omega)

end
end Mine

namespace Mine
open PySem PySem.W PyProof.Rows PySem.Calls PySem.SeqAt

section
variable {prog : Program} {w : World} {A : Around} {E : Value → Shared → Prop} {s : Shared} {mg mb : Str → Option Value} {d : Ad}

theorem count_call {hb hh : Heap} {a b : Addr} {S T : List K2} {vs ws : Array Value} {Q : Value → Shared → Prop} (N : NM d mg mb) (P : PG d mg mb hb) (K : Kp hb hh) (hroom : A.depth < recursionLimit) (hH : A.handled = none) (hu : A.units + 20 < cLine) (hg : s.gens = #[])
    (hmis : ∀ env, MisOk prog w (A.deeper env) d.mis hb) (ha : hh.IsList a vs) (hA : vs.size = S.length) (hA' : ∀ t, t < S.length → ∃ v, vs[t]? = some v ∧ El hh v (kAt S t)) (hbL : hh.IsList b ws) (hB : ws.size = T.length) (hB' : ∀ t, t < T.length → ∃ v, ws[t]? = some v ∧ El hh v (kAt T t))
    (nS : S.length ≤ 100) (nT : T.length ≤ 100)
    (h : ∀ h' tk R xs, h'.PlainList R xs → hh.get? R = none → Kp hh h' → Paired (MisAt d.mis h') (outs1 S T S.length ++ outs2 S T T.length) xs.toList → Q (.ref R) { s with heap := h', toks := tk }) (hs : s.heap = hh := by rfl) :
    wpAny (model prog w) A (call (.ref d.count) [.ref a, .ref b]) Q E s := by
  refine P.count.call (binds := [("actual", .ref a), ("expected", .ref b)]) P.lim K hroom (fun _ _ _ _ _ _ _ => by rfl) (fun h₁ L cdv F => ?_) hs
  have P₁ := P.kp fun b o e => F.keep b o (K b o e)
  refine wpAny_execs_cons (wpAny_Expr (Constant_str ?_))
  have a1 : h₁.IsList a vs := ha.at fun o e => F.keep _ o e
  have b1 : h₁.IsList b ws := hbL.at fun o e => F.keep _ o e
  dsimp only
  -- s, t = (list(actual), list(expected))
  refine wpAny_execs_cons (Assign_Tuple_swapped (Tuple_ (args_cons (callT (nameB P₁.g N.list.1 P₁.b N.list.2 ⟨rfl, F.ld rfl (call_list_list a1 (by omega) fun h₂ sA hs₂ s0 K₂ => ?_)⟩)))))
  have P₂ := P₁.kp K₂
  have F₂ := F.kp K₂
  refine args_cons (callT (nameB P₂.g N.list.1 P₂.b N.list.2 ⟨rfl, F₂.ld rfl (call_list_list (b1.at fun o e => K₂ _ o e) (by omega) fun h₃ tA ht₃ t0 K₃ => ?_)⟩))
  refine args_nil (wpAny_newTuple ?_)
  have F₃ := F₂.kp K₃
  refine unpackItems_tuple (items := #[.ref sA, .ref tA]) (by exact hH) ⟨_, Heap.get?_push_size _ rfl, rfl, _, rfl⟩ fun h₄ K₄ => ?_
  replace K₄ : Heap.ExtBut (h₃.push { cls := .type "tuple", data := .seq #[.ref sA, .ref tA] }).objs.size (h₃.push { cls := .type "tuple", data := .seq #[.ref sA, .ref tA] }) h₄ := K₄
  have K₅ : Kp h₃ h₄ := fun b o e => K₄ b o (Nat.ne_of_lt (Heap.lt_size (Heap.get?_push_of_some _ e))) (Heap.get?_push_of_some _ e)
  have F₄ := F₃.kp K₅
  dsimp only
  refine wpAny_bind (wpAny_holding (wpAny_bindName (F₄.st fun h₅ F₅ s₅ => ?_)))
  refine wpAny_bind (wpAny_holding (wpAny_bindName (F₅.st fun h₆ F₆ s₆ => wpAny_pure ?_)))
  have tL : tA ≠ L := ne_ns t0 F₂.ns
  have sL : sA ≠ L := ne_ns s0 F.ns
  have st : sA ≠ tA := by obtain ⟨n, e⟩ := hs₂; exact Ne.symm (ne_get t0 e)
  have hs₆ : h₆.PlainList sA vs := hs₂.at fun o e => s₆.extBut _ o sL (s₅.extBut _ o sL (K₅ _ _ (K₃ _ _ e)))
  have ht₆ : h₆.PlainList tA ws := ht₃.at fun o e => s₆.extBut _ o tL (s₅.extBut _ o tL (K₅ _ _ e))
  clear K₄ K₅ s₅ s₆ F₅ F₃ F₄ P₂ P₁ K₃ hs₂ ht₃
  have s0' : hh.get? sA = none := ghost_none F.keep s0
  have t0' : hh.get? tA = none := ghost_none F₂.keep t0
  dsimp only
  -- m, n = (len(s), len(t))
  have P₆ := P.kp fun b o e => F₆.keep b o (K b o e)
  refine wpAny_execs_cons (Assign_Tuple_swapped (Tuple_ (args_cons (callB (nameB P₆.g N.len.1 P₆.b N.len.2 ⟨rfl, F₆.ld rfl (call_len_list (by exact hs₆.isList) (by rw [hA]; omega) ?_)⟩)))))
  refine args_cons (callB (nameB P₆.g N.len.1 P₆.b N.len.2 ⟨rfl, F₆.ld rfl (call_len_list (by exact ht₆.isList) (by rw [hB]; omega) ?_)⟩))
  dsimp only
  refine args_nil (wpAny_newTuple ?_)
  refine unpackItems_tuple (items := #[.int vs.size _, .int ws.size _]) (by exact hH) ⟨_, Heap.get?_push_size _ rfl, rfl, _, rfl⟩ fun h₇ K₇ => ?_
  have K₈ : Kp h₆ h₇ := fun b o e => K₇ b o (Nat.ne_of_lt (Heap.lt_size (Heap.get?_push_of_some _ e))) (Heap.get?_push_of_some _ e)
  have F₇ := F₆.kp K₈
  dsimp only
  refine wpAny_bind (wpAny_holding (wpAny_bindName (F₇.st fun h₈ F₈ s₈ => ?_)))
  refine wpAny_bind (wpAny_holding (wpAny_bindName (F₈.st fun h₉ F₉ s₉ => wpAny_pure ?_)))
  have hs₉ : h₉.PlainList sA vs := hs₆.at fun o e => s₉.extBut _ o sL (s₈.extBut _ o sL (K₈ _ _ e))
  have ht₉ : h₉.PlainList tA ws := ht₆.at fun o e => s₉.extBut _ o tL (s₈.extBut _ o tL (K₈ _ _ e))
  clear K₇ K₈ s₈ s₉ F₈ F₇ hs₆ ht₆ P₆
  have P₉ := P.kp fun b o e => F₉.keep b o (K b o e)
  dsimp only
  -- NULL = object()
  refine wpAny_execs_cons (wpAny_Assign_Name (Call_ (nameB P₉.g N.object.1 P₉.b N.object.2 (PyProof.Rows.callWith_type0 (call_object fun h₁₀ z hz z0 K₁₀ => ?_)))))
  dsimp only
  refine (F₉.kp K₁₀).st fun h₁₁ F₁₁ s₁₁ => ?_
  have zL : z ≠ L := ne_ns z0 F₉.ns
  have zs : z ≠ sA := by obtain ⟨n, e⟩ := hs₉; exact ne_get z0 e
  have zt : z ≠ tA := by obtain ⟨n, e⟩ := ht₉; exact ne_get z0 e
  have hs₁₁ : h₁₁.PlainList sA vs := hs₉.at fun o e => s₁₁.extBut _ o sL (K₁₀ _ _ e)
  have ht₁₁ : h₁₁.PlainList tA ws := ht₉.at fun o e => s₁₁.extBut _ o tL (K₁₀ _ _ e)
  have hz₁₁ : IsObj h₁₁ z := let ⟨od, dt, sl, e⟩ := hz; ⟨od, dt, sl, s₁₁.extBut _ _ zL e⟩
  dsimp only
  -- result = []
  refine wpAny_execs_cons (wpAny_Assign_Name (wpAny_List (args_nil ⟨by decide, ?_⟩)))
  have r0 : h₁₁.get? h₁₁.objs.size = none := get_none (Nat.le_refl _)
  have r1 : (h₁₁.push { cls := .type "list", data := .seq ([] : List Value).toArray }).PlainList h₁₁.objs.size #[] := ⟨0, Heap.get?_push_size _ rfl⟩
  dsimp only
  generalize h₁₁.objs.size = rA at r0 r1 ⊢
  have K₁₂ : Kp h₁₁ (h₁₁.push { cls := .type "list", data := .seq ([] : List Value).toArray }) := fun b o e => Heap.get?_push_of_some _ e
  generalize (h₁₁.push { cls := .type "list", data := .seq ([] : List Value).toArray }) = h₁₂ at r1 K₁₂ ⊢
  refine (F₁₁.kp K₁₂).st fun h₁₃ F₁₃ s₁₃ => ?_
  have rL : rA ≠ L := ne_ns r0 F₁₁.ns
  have rs : rA ≠ sA := by obtain ⟨n, e⟩ := hs₁₁; exact ne_get r0 e
  have rt : rA ≠ tA := by obtain ⟨n, e⟩ := ht₁₁; exact ne_get r0 e
  have rz : rA ≠ z := by obtain ⟨od, dt, sl, e⟩ := hz₁₁; exact ne_get r0 e
  have hs₁₃ : h₁₃.PlainList sA vs := hs₁₁.at fun o e => s₁₃.extBut _ o sL (K₁₂ _ _ e)
  have ht₁₃ : h₁₃.PlainList tA ws := ht₁₁.at fun o e => s₁₃.extBut _ o tL (K₁₂ _ _ e)
  have hr₁₃ : h₁₃.PlainList rA #[] := r1.at fun o e => s₁₃.extBut _ o rL e
  have hz₁₃ : IsObj h₁₃ z := let ⟨od, dt, sl, e⟩ := hz₁₁; ⟨od, dt, sl, s₁₃.extBut _ _ zL (K₁₂ _ _ e)⟩
  dsimp only
  have L0 : hh.get? L = none := F₁₃.off
  have R0 : hh.get? rA = none := ghost_none F₁₁.keep r0
  -- the still things
  have Kg : Kp (hideAll h₁₃ [L, sA, tA, rA]) h₁₃ := hide_le
  have Khg : Kp hh (hideAll h₁₃ [L, sA, tA, rA]) := hide_sub F₁₃.keep (by
    intro b hb
    simp only [List.mem_cons, List.not_mem_nil, or_false] at hb
    rcases hb with rfl | rfl | rfl | rfl
    · exact L0
    · exact s0'
    · exact t0'
    · exact R0)
  have P₁₃ := P.kp fun b o e => Khg b o (K b o e)
  have X : Cx prog w (A.deeper (envOf "_count_diff_all_purpose" (fScope (stN 20)) L d.count cdv)) d mg mb (hideAll h₁₃ [L, sA, tA, rA]) L sA tA rA z S T := {
    N := N, hH := hH, hr := by show A.units + 3 + 5 < _; omega, mis := (hmis _).kp fun b o e => Khg b o (K b o e), gm := P₁₃.g, gb := P₁₃.b,
    hz := let ⟨od, dt, sl, e⟩ := hz₁₃; ⟨od, dt, sl, hideAll_get _ e (mem_four.mpr ⟨zL, zs, zt, Ne.symm rz⟩)⟩,
    gL := hideAll_none _ (by simp), gs := hideAll_none _ (by simp), gt := hideAll_none _ (by simp), gr := hideAll_none _ (by simp),
    sL := sL, tL := tL, rL := rL, st := st, sr := Ne.symm rs, tr := Ne.symm rt, nS := nS, nT := nT }
  clear P₉ hs₁₁ ht₁₁ hz₁₁ hs₉ ht₉ F₉ F₁₁ K₁₀ K₁₂ F₆ F₂ F P₁₃
  refine wpAny_execs_cons (outer1 X (by exact hg) F₁₃.ns ⟨by rfl, by rfl, ⟨_, by rw [← hA]; rfl⟩, ⟨_, by rw [← hB]; rfl⟩, by rfl, by rfl⟩ Kg hs₁₃.isList ⟨hA, fun t ht => let ⟨v, e, q⟩ := hA' t ht; ⟨v, e, by rw [mask_nil]; exact q.kp Khg⟩⟩
    ht₁₃.isList ⟨hB, fun t ht => let ⟨v, e, q⟩ := hB' t ht; ⟨v, e, by rw [mask_nil]; exact q.kp Khg⟩⟩ hr₁₃ fun h₁₄ tk₁₄ m₁₄ ws₁₄ xs₁₄ hn₁₄ nm₁₄ Kg₁₄ ht₁₄ hb₁₄ hr₁₄ hP₁₄ => ?_)
  refine wpAny_execs_cons (outer2 (O := outs1 S T S.length) X (by exact hg) hn₁₄ nm₁₄ Kg₁₄ ht₁₄ hb₁₄ hr₁₄ (by have := outs1_le S T S.length; omega)
    (Paired.imp (fun _ _ x => x.kp (hide_drop (by intro b hb; simp only [List.mem_cons, List.not_mem_nil, or_false] at hb ⊢; rcases hb with rfl | rfl | rfl <;> simp))) hP₁₄) fun h₁₅ tk₁₅ m₁₅ xs₁₅ hn₁₅ nm₁₅ Kg₁₅ hr₁₅ hP₁₅ => ?_)
  refine wpAny_execs_cons (wpAny_Return_some (ldE (env := cenv L d.count cdv) hn₁₅ nm₁₅.res ?_))
  exact h h₁₅ _ rA xs₁₅ hr₁₅ R0 (fun b o e => Kg₁₅ b o (Khg b o e)) (Paired.imp (fun _ _ x => x.kp hide_le) hP₁₅)
end
end Mine

namespace Mine
open PySem PySem.W PyProof.Rows PySem.Calls PySem.SeqAt

/-- a list of things -/
def Row (h : Heap) (l : Addr) (S : List K2) : Prop := ∃ vs, h.PlainList l vs ∧ Paired (fun k v => El h v k) S vs.toList
theorem Row.kp {h h' : Heap} {l : Addr} {S : List K2} (x : Row h l S) (K : Kp h h') : Row h' l S := let ⟨vs, a, b⟩ := x; ⟨vs, a.at fun o e => K _ o e, Paired.imp (fun _ _ q => q.kp K) b⟩

theorem paired_at {α β : Type} {F : α → β → Prop} : ∀ {l : List α} {xs : List β}, Paired F l xs → ∀ (t : Nat) (ht : t < l.length), ∃ v, xs[t]? = some v ∧ F l[t] v
  | _, _, .cons a r, 0, _ => ⟨_, rfl, a⟩
  | _, _, .cons a r, t + 1, ht => paired_at r t (Nat.lt_of_succ_lt_succ ht)
theorem paired_of {α β : Type} {F : α → β → Prop} : ∀ {l : List α} {xs : List β}, xs.length = l.length → (∀ (t : Nat) (ht : t < l.length), ∃ v, xs[t]? = some v ∧ F l[t] v) → Paired F l xs
  | [], [], _, _ => .nil
  | a :: l, x :: xs, e, h => by
    refine .cons ?_ (paired_of (by simpa using e) fun t ht => ?_)
    · obtain ⟨v, hv, hF⟩ := h 0 (by simp)
      obtain rfl : x = v := Option.some.inj hv
      exact hF
    · obtain ⟨v, hv, hF⟩ := h (t + 1) (by simpa using ht)
      exact ⟨v, by simpa using hv, by simpa using hF⟩
theorem paired_map {α β γ : Type} {F : γ → β → Prop} {f : α → γ} : ∀ {l : List α} {xs : List β}, Paired (fun a v => F (f a) v) l xs → Paired F (l.map f) xs
  | _, _, .nil => .nil
  | _, _, .cons a r => .cons a (paired_map r)
theorem paired_unmap {α β γ : Type} {F : γ → β → Prop} {f : α → γ} : ∀ {l : List α} {xs : List β}, Paired F (l.map f) xs → Paired (fun a v => F (f a) v) l xs
  | [], _, .nil => .nil
  | _ :: _, _, .cons a r => .cons a (paired_unmap r)

theorem Row.get {h : Heap} {S : List K2} {vs : Array Value} (p : Paired (fun k v => El h v k) S vs.toList) : vs.size = S.length ∧ ∀ t, t < S.length → ∃ v, vs[t]? = some v ∧ El h v (kAt S t) := by
  refine ⟨paired_size p, fun t ht => ?_⟩
  obtain ⟨v, a, b⟩ := paired_at p t ht
  exact ⟨v, by simpa using a, by rw [kAt_eq ht]; exact b⟩

theorem lay_all : ∀ S : List K2, PyData.canLayAll0 (S.map pd) = true
  | [] => by simp [PyData.canLayAll0]
  | k :: S => by simp [PyData.canLayAll0, pd_lay, lay_all S]
theorem depth_all : ∀ S : List K2, PyData.depthAll (S.map pd) ≤ 1
  | [] => by simp [PyData.depthAll]
  | k :: S => by simp [PyData.depthAll, pd_depth, depth_all S]

theorem reads_all {h : Heap} {α : Type} {f : α → PyData} : ∀ {l : List α} {vs : List Value}, Paired (fun a v => ∃ as, Reads h v (f a) as) l vs → ∃ as, ReadsAll h vs (l.map f) as
  | _, _, .nil => ⟨_, .nil⟩
  | _, _, .cons ⟨as, r⟩ p => let ⟨bs, q⟩ := reads_all p; ⟨_, .cons r q⟩
theorem els_read {h : Heap} {S : List K2} {vs : List Value} (p : Paired (fun k v => El h v k) S vs) : ∃ as, ReadsAll h vs (S.map pd) as :=
  reads_all (Paired.imp (fun _ _ q => let ⟨_, as, _, r⟩ := q; ⟨as, r⟩) p)
theorem Row.reads {h : Heap} {l : Addr} {S : List K2} (x : Row h l S) : ∃ as, Reads h (.ref l) (.list (S.map pd)) as := by
  obtain ⟨vs, ⟨n, e⟩, p⟩ := x
  obtain ⟨as, r⟩ := els_read p
  exact ⟨_, .list e rfl rfl r⟩

theorem any_pd (S : List K2) (k : K2) : ((S.map pd).any fun y => PyData.eqv y (pd k)) = decide (k ∈ S) := by
  rw [List.any_map]
  induction S with
  | nil => simp
  | cons a S ih =>
    rw [List.any_cons, ih]
    simp only [Function.comp, pd_eqv, List.mem_cons]
    by_cases h1 : a = k
    · simp [h1]
    · have h2 : k ≠ a := fun q => h1 q.symm
      simp [h1, h2]
theorem count_pd (S : List K2) (k : K2) : ((S.map pd).countP fun y => PyData.eqv y (pd k)) = S.count k := by
  rw [List.countP_map, List.count_eq_countP]
  refine List.countP_congr fun a _ => ?_
  simp [pd_eqv]

theorem paired_take {α β : Type} {F : α → β → Prop} : ∀ {l : List α} {xs : List β} (n : Nat), Paired F l xs → Paired F (l.take n) (xs.take n)
  | _, _, 0, _ => .nil
  | _, _, n + 1, .nil => .nil
  | _, _, n + 1, .cons a r => .cons a (paired_take n r)

section
variable {prog : Program} {w : World} {A : Around} {E : Value → Shared → Prop} {s : Shared} {env : Env}

/-- one in l, one not in l -/
theorem in_row {l : Addr} {S : List K2} {v : Value} {k : K2} {Q : Value → Shared → Prop} (x : Row s.heap l S) (hv : El s.heap v k) (hu : A.units + 5 < cLine) (h : Q (.bool (decide (k ∈ S))) s) : wpAny (model prog w) A (compareOp .In v (.ref l)) Q E s := by
  obtain ⟨as, r⟩ := x.reads
  obtain ⟨a, bs, rfl, rv⟩ := hv
  refine in_list_reads r rv (lay_all S) (pd_lay k) ?_ (by rw [any_pd]; exact h)
  have := depth_all S
  rw [pd_depth]; omega
theorem notIn_row {l : Addr} {S : List K2} {v : Value} {k : K2} {Q : Value → Shared → Prop} (x : Row s.heap l S) (hv : El s.heap v k) (hu : A.units + 5 < cLine) (h : Q (.bool (!decide (k ∈ S))) s) : wpAny (model prog w) A (compareOp .NotIn v (.ref l)) Q E s := by
  obtain ⟨as, r⟩ := x.reads
  obtain ⟨a, bs, rfl, rv⟩ := hv
  refine notIn_list_reads r rv (lay_all S) (pd_lay k) ?_ (by rw [any_pd]; exact h)
  have := depth_all S
  rw [pd_depth]; omega

theorem count_row {l : Addr} {S : List K2} {v : Value} {k : K2} {Q : Value → Shared → Prop} (x : Row s.heap l S) (hv : El s.heap v k) (hu : A.units + 8 < cLine)
    (h : ∀ t tk, Q (.int (S.count k : Nat) t) { s with toks := tk }) : wpAny (model prog w) A (call (.builtin "list.count") [.ref l, v]) Q E s := by
  obtain ⟨vs, ⟨n, e⟩, p⟩ := x
  obtain ⟨as, r⟩ := els_read p
  obtain ⟨a, bs, rfl, rv⟩ := hv
  refine call_meets PySem.F.slot_list_count ⟨_, e, rfl⟩ PySem.F.entry_list_count (PySem.F.args_list_count_2 _ _) (list_countAt l vs n none #[] (.ref a) (fun y => PyData.eqv (readOf s.heap y) (pd k))) ⟨e, ?_, ?_⟩
  · exact items_eqAt r rv (lay_all S) (pd_lay k) (by
      have := depth_all S
      rw [pd_depth]
      omega)
  · have : vs.toList.countP (fun y => PyData.eqv (readOf s.heap y) (pd k)) = S.count k := by
      rw [← count_pd, ← readsAll_map _ _ _ (lay_all S) r, List.countP_map]; rfl
    rw [this]
    exact h _ _

/-- row[:k] -/
theorem slice_row {value e : Expr} {p pos : Pos} {Q : Value → Shared → Prop}
    (h : wpAny (model prog w) A (eval value env) (fun o s₁ => wpAny (model prog w) A (eval e env) (fun u s₂ => ∃ l vs n t, o = .ref l ∧ u = .int (n : Nat) t ∧ s₂.heap.IsList l vs ∧ vs.size ≤ 1000 ∧
      ∀ h' l', h'.PlainList l' (vs.toList.take n).toArray → Kp s₂.heap h' → s₂.heap.get? l' = none → Q (.ref l') { s₂ with heap := h' }) E s₁) E s)
    (ht : ∀ o r, letTemporaryGo value o r = pure () := by intro _ _; rfl) :
    wpAny (model prog w) A (eval (.Subscript value (.Slice none (some e) none p) pos) env) Q E s := by
  refine wpAny_Subscript_list_slice (wpAny_mono h (fun o s₁ h₁ => wpAny_evalPart_none (wpAny_evalPart_some (wpAny_mono h₁ (fun u s₂ h₂ => ?_) fun _ _ e => e))) fun _ _ e => e) ht
  obtain ⟨l, vs, n, t, rfl, rfl, hl, hsz, hQ⟩ := h₂
  refine ⟨l, vs, none, some (n : Int), rfl, hl, by rw [sizeLine_eq]; omega, .none, .int _ _, ?_⟩
  rw [slicePick_upto']
  refine hQ _ _ ⟨0, ?_⟩ (fun b o e => Heap.get?_push_of_some _ (Heap.get?_push_of_some _ e)) (get_none (Nat.le_succ _))
  have := Heap.get?_push_size (s₂.heap.push { cls := .type "slice", data := .fields #[.none, .int (n : Int) t, .none] }) (o := { cls := .type "list", data := .seq (vs.toList.take n).toArray }) rfl
  rw [Heap.size_push] at this
  exact this
end
end Mine

namespace Mine
open PySem PySem.W PyProof.Rows PySem.Calls PySem.SeqAt

section
variable {prog : Program} {w : World} {A : Around} {E : Value → Shared → Prop} {s : Shared} {env : Env} {mg mb : Str → Option Value} {d : Ad}

/-- a comprehension over enumerate of a list that stands still -/
theorem lc_enum {elt iter : Expr} {xi xv : Str} {pi pv pt : Pos} {x1 : Nat} {ifs : List Expr} {scope : Scope} {cl : List (Str × Addr)} {pos : Pos} {Q : Value → Shared → Prop}
    (hH : A.handled = none) (hclos : closureFor scope env = pure cl) (hkind : scope.kind = .function) (hnames : ∀ y ∈ scope.names, y.2 = .local → scope.names.lookup y.1 = some .local) (hnc : ∀ y ∈ scope.names, y.2 ≠ .cell)
    (hxi : scope.names.lookup xi = some .local) (hxv : scope.names.lookup xv = some .local) (hiv : xi ≠ xv)
    (h : wpAny (model prog w) A (eval iter env) (fun x s₂ => ∃ (e it l : Addr) (vs : Array Value) (p : Nat → Bool) (F : Nat → Value → Prop), x = .ref e ∧ IsEnum s₂.heap e it ((0 : Nat) : Int) .none ∧ s₂.heap.IsListIter it l 0 ∧ e ≠ it ∧ l ≠ e ∧ l ≠ it ∧ s₂.heap.IsList l vs ∧ vs.size ≤ 1000 ∧
        (∀ t v C h tk m, t < vs.size → vs[t]? = some v → h.Ns C m → (∃ u, m xi = some (.int (t : Nat) u)) → m xv = some v → (∀ b o, b ∉ [e, it] → s₂.heap.get? b = some o → h.get? b = some o) →
          wpAny (model prog w) A (tests ifs (cEnv scope cl C env)) (fun ok s' => ok = p t ∧ ∃ h' tk', s' = { s₂ with heap := h', toks := tk' } ∧ Kp h h' ∧
            (p t = true → wpAny (model prog w) A (eval elt (cEnv scope cl C env)) (fun y s'' => F t y ∧ ∃ h'' tk'', s'' = { s₂ with heap := h'', toks := tk'' } ∧ Kp h' h'') NO s')) NO { s₂ with heap := h, toks := tk }) ∧
        (∀ D h' tk ys, s₂.heap.get? D = none → h'.PlainList D ys → (∀ b o, b ∉ [e, it] → s₂.heap.get? b = some o → h'.get? b = some o) → Paired F ((List.range vs.size).filter p) ys.toList → Q (.ref D) { s₂ with heap := h', toks := tk })) E s)
    (hs : ∀ x, foldedSetIterable iter env x = pure x := by intro _; rfl) :
    wpAny (model prog w) A (eval (.ListComp elt [⟨.Tuple [.Name xi pi, .Name xv pv] x1 pt, iter, ifs, 0⟩] scope pos) env) Q E s := by
  rw [eval_ListComp]
  obtain ⟨hpc, hcf⟩ := cells_none scope hnc
  refine comp_run (use := none) hclos hkind hnames (wpAny_mono h (fun x s₂ h₂ => ?_) fun _ _ e => e) hs
  obtain ⟨e, it, l, vs, p, F, rfl, he, hit, hei, hle, hli, hl, hn, turn, done⟩ := h₂
  refine wpAny_pyIter_enum he ?_
  intro D C H cells hD hC hH' hcells
  rw [hpc] at hH'
  rw [hcf] at hcells
  subst hcells
  have hD0 : s₂.heap.get? D = none := get_none (by rw [hD]; exact Nat.le_refl _)
  have hC0 : s₂.heap.get? C = none := get_none (by rw [hC]; exact Nat.le_succ _)
  have hDC : D ≠ C := by rw [hD, hC]; exact Nat.ne_of_lt (Nat.lt_succ_self _)
  have eD : e ≠ D := Ne.symm (ne_get hD0 he)
  have eC : e ≠ C := Ne.symm (ne_get hC0 he)
  have itD : it ≠ D := by obtain ⟨o, q, _⟩ := hit; exact Ne.symm (ne_get hD0 q)
  have itC : it ≠ C := by obtain ⟨o, q, _⟩ := hit; exact Ne.symm (ne_get hC0 q)
  have lD : l ≠ D := by obtain ⟨o, q, _⟩ := hl; exact Ne.symm (ne_get hD0 q)
  have lC : l ≠ C := by obtain ⟨o, q, _⟩ := hl; exact Ne.symm (ne_get hC0 q)
  have K0 : Kp s₂.heap H := fun b o e => by rw [hH']; exact Heap.get?_push_of_some _ (Heap.get?_push_of_some _ e)
  have hl0 : H.PlainList D #[] := by
    refine ⟨0, ?_⟩
    rw [hH', hD]
    exact Heap.get?_push_of_some _ (Heap.get?_push_size _ rfl)
  have hn0 : H.Ns C fun _ => none := by
    have := Heap.Ns.new (s₂.heap.push (listOb #[])) (.type "dict")
    rw [Heap.size_push] at this
    rw [hH', hC]; exact this
  refine ⟨wpAny_pyIter_enum (K0 _ _ he) ⟨rfl, rfl⟩, (fun k s' => ∃ i h tk m ys old, i ≤ vs.size ∧ k = vs.size - i ∧ s' = { s₂ with heap := h, toks := tk } ∧ IsEnum h e it ((i : Nat) : Int) old ∧ h.IsListIter it l i ∧ h.Ns C m ∧ h.PlainList D ys ∧
    (∀ b o, b ∉ [e, it] → s₂.heap.get? b = some o → h.get? b = some o) ∧ Paired F ((List.range i).filter p) ys.toList), vs.size, ⟨0, H, _, _, #[], .none, Nat.zero_le _, rfl, rfl, K0 _ _ he, hit.at fun o q => K0 _ o q, hn0, hl0, fun b o _ q => K0 b o q, .nil⟩, ?_⟩
  rintro k s' ⟨i, h₃, tk, m, ys, old, hi, rfl, rfl, he₃, hit₃, hn₃, hl₃, K₃, hP⟩
  have hls₃ : h₃.IsList l vs := hl.at fun o q => K₃ _ o (mem_two.mpr ⟨hle, hli⟩) q
  rcases Nat.lt_or_eq_of_le hi with hlt | rfl
  · have hv : vs[i]? = some vs[i] := by simp [hlt]
    refine .inr (bound_enum hH (by simp [compEnvC, relabel, hkind]) (lookup_relabel_local hxi) (lookup_relabel_local hxv) he₃ hit₃ hls₃ hv hn₃ hei eC itC fun h₄ tk₄ t₄ he₄ hit₄ hn₄ K₄ => ?_)
    replace K₄ : KB [e, it, C] h₃ h₄ := K₄
    have hl₄ : h₄.PlainList D ys := hl₃.at fun o q => K₄ _ o (mem_three.mpr ⟨Ne.symm eD, Ne.symm itD, hDC⟩) q
    have K₅ : ∀ b o, b ∉ [e, it] → s₂.heap.get? b = some o → h₄.get? b = some o := fun b o hb q => K₄ b o (mem_three.mpr ⟨(mem_two.mp hb).1, (mem_two.mp hb).2, Ne.symm (ne_get hC0 q)⟩) (K₃ b o hb q)
    refine wpAny_mono (turn i vs[i] C h₄ tk₄ _ hlt hv hn₄ ⟨t₄, by simp [upd, hiv]⟩ (by simp [upd]) K₅) (fun ok s₅ h₅ => ?_) fun _ _ x => x
    obtain ⟨rfl, h₅, tk₅, rfl, K₆, helt⟩ := h₅
    cases hp : p i with
    | false =>
      rw [if_neg (by decide)]
      refine ⟨vs.size - (i + 1), by omega, i + 1, h₅, tk₅, _, ys, _, hlt, rfl, rfl, K₆ _ _ he₄, hit₄.at fun o q => K₆ _ o q, hn₄.keeps K₆, hl₄.at fun o q => K₆ _ o q, fun b o hb q => K₆ b o (K₅ b o hb q), ?_⟩
      rw [range_filter_succ, hp]; simpa using hP
    | true =>
      rw [if_pos rfl]
      refine wpAny_mono (helt hp) (fun y s₆ h₆ => ?_) fun _ _ x => x
      obtain ⟨hF, h₆, tk₆, rfl, K₇⟩ := h₆
      have hys : ys.size ≤ sizeLine := by
        have e1 := hP.length
        have e2 := List.length_filter_le p (List.range i)
        rw [List.length_range] at e2
        have e3 : ys.toList.length = ys.size := by simp
        rw [sizeLine_eq]; omega
      refine wpAny_list_append_plain (hsz := hys) ((hl₄.at fun o q => K₆ _ o q).at fun o q => K₇ _ o q) fun h₈ hl₈ hs₈ => ?_
      replace hs₈ : Heap.SameBut D h₆ h₈ := hs₈
      refine ⟨vs.size - (i + 1), by omega, i + 1, h₈, tk₆, _, ys.push y, _, hlt, rfl, rfl, hs₈.extBut _ _ eD (K₇ _ _ (K₆ _ _ he₄)), hit₄.at fun o q => hs₈.extBut _ o itD (K₇ _ _ (K₆ _ o q)), ((hn₄.keeps K₆).keeps K₇).sameBut hs₈ (Ne.symm hDC), hl₈,
        fun b o hb q => hs₈.extBut b o (Ne.symm (ne_get hD0 q)) (K₇ b o (K₆ b o (K₅ b o hb q))), ?_⟩
      rw [range_filter_succ, hp]
      simpa using Paired.snoc hP hF
  · refine .inl (ended_enum hH he₃ hit₃ hls₃ (by simp) fun h₄ K₄ => ?_)
    replace K₄ : KB [it] h₃ h₄ := K₄
    refine ⟨m, hn₃.at' fun o q => K₄ _ o (mem_one.mpr (Ne.symm itC)) q, fun h'' hs'' => ?_⟩
    replace hs'' : Heap.SameBut C h₄ h'' := hs''
    exact done D h'' tk ys hD0 (hl₃.at fun o q => hs''.extBut _ o hDC (K₄ _ o (mem_one.mpr (Ne.symm itD)) q)) (fun b o hb q => hs''.extBut b o (Ne.symm (ne_get hC0 q)) (K₄ b o (mem_one.mpr (mem_two.mp hb).2) (K₃ b o hb q))) hP

/-- _law_first(row) -/
theorem first_call {hb hh : Heap} {l : Addr} {S : List K2} {vs : Array Value} {Q : Value → Shared → Prop} (N : NM d mg mb) (P : PG d mg mb hb) (K : Kp hb hh) (hroom : A.depth < recursionLimit) (hH : A.handled = none) (hu : A.units + 20 < cLine)
    (hl : hh.PlainList l vs) (p : Paired (fun k v => El hh v k) S vs.toList) (nS : S.length ≤ 100)
    (h : ∀ h' tk D ys, h'.PlainList D ys → hh.get? D = none → Kp hh h' → Paired (fun t v => vs[t]? = some v) ((List.range S.length).filter (fst1 S)) ys.toList → Q (.ref D) { s with heap := h', toks := tk }) (hs : s.heap = hh := by rfl) :
    wpAny (model prog w) A (call (.ref d.first) [.ref l]) Q E s := by
  have P' := P.first.kp K
  obtain ⟨oc, od, osl, name, kV, doc, pm, an, cdv, ct, e, crec⟩ := P'
  subst hs
  obtain ⟨hsz, hel⟩ := Row.get p
  refine call_fnC (B := fun _ => True) (binds := [("row", .ref l)]) hroom e (P.lim.keeps K) crec (fun M A E Q hq => wpAny_of_eq (a := [(("row" : Str), Value.ref l)]) (by rfl) (hq _ _ (fun _ _ e => e) True.intro)) (fun _ _ _ _ => True.intro) (fun h₁ L tk _ F => ?_) (fun L x hx => ?_)
  rotate_left
  · obtain rfl := List.mem_singleton.mp hx
    exact .inr ⟨by rfl, by rfl⟩
  have P₁ := P.kp fun b o e => F.keep b o (K b o e)
  refine wpAny_execs_cons (wpAny_Return_some ?_)
  refine lc_enum (cl := [(("row" : Str), (L + 1 : Addr))]) (by exact hH) (by rfl) rfl (by decide) (by decide) rfl rfl (by decide) ?_
  refine callT (nameB P₁.g N.enumerate.1 P₁.b N.enumerate.2 ⟨rfl, F.ldc (c := L + 1) (by rfl) (by rfl) (enum_list ((hl.at fun o q => F.keep _ o q).isList) fun h₂ en it he hit hei he0 hit0 K₂ => ?_)⟩)
  have lE : l ≠ en := by obtain ⟨_, q⟩ := hl; exact Ne.symm (ne_get he0 (F.keep _ _ q))
  have lI : l ≠ it := by obtain ⟨_, q⟩ := hl; exact Ne.symm (ne_get hit0 (F.keep _ _ q))
  have hc1 : h₁.IsCell (L + 1) (some (.ref l)) := F.cl.cell "row" (L + 1) (by rfl)
  have up : ∀ {h : Heap}, (∀ b o, b ∉ [en, it] → h₂.get? b = some o → h.get? b = some o) → Kp h₁ h := fun q b o z => q b o (mem_two.mpr ⟨Ne.symm (ne_get he0 z), Ne.symm (ne_get hit0 z)⟩) (K₂ b o z)
  refine ⟨en, it, l, vs, fst1 S, fun t v => vs[t]? = some v, rfl, he, hit, hei, lE, lI, (hl.at fun o q => K₂ _ o (F.keep _ o q)).isList, by omega, ?_, ?_⟩
  · intro t v C h₃ tk₃ m ht hv hn ⟨u, mk⟩ mo K₃
    have Kh : Kp s.heap h₃ := fun b o q => up K₃ b o (F.keep b o q)
    have hv' : El h₃ v (kAt S t) := by
      obtain ⟨v', e1, e2⟩ := hel t (by omega)
      obtain rfl : v = v' := Option.some.inj (hv.symm.trans e1)
      exact e2.kp Kh
    refine wpAny_tests_one (wpAny_isTrue_Compare1 (ldE hn mo ?_))
    refine slice_row (Mine.ldC (c := L + 1) (by rfl) (hc1.keeps (up K₃)) (ldE hn mk ⟨l, vs, t, u, rfl, rfl, (hl.at fun o q => Kh _ o q).isList, by omega, fun h₄ l' hl' K₄ l0 => ?_⟩))
    replace K₄ : Kp h₃ h₄ := K₄
    refine notIn_row (S := S.take t) (k := kAt S t) ⟨_, hl', by
      rw [List.toList_toArray]
      exact paired_take t (Paired.imp (fun _ _ q => q.kp fun b o z => K₄ _ _ (Kh b o z)) p)⟩ (hv'.kp K₄) (by show A.units + 3 + 5 < _; omega) (wpAny_truthy_bool ?_)
    refine ⟨by unfold fst1; simp, h₄, _, rfl, K₄, fun _ => ldE (hn.keeps K₄) mo ⟨hv, h₄, _, rfl, fun _ _ e => e⟩⟩
  · intro D h₃ tk₃ ys hD hl₃ K₃ hP
    rw [hsz] at hP
    exact h h₃ tk₃ D ys hl₃ (ghost_none F.keep (ghost_none K₂ hD)) (fun b o q => up K₃ b o (F.keep b o q)) hP
end
end Mine

namespace Mine
open PySem PySem.W PyProof.Rows PySem.Calls PySem.SeqAt

def asgE : Stmt → Expr
  | .Assign _ e _ => e
  | _ => .Constant .none 0 ⟨0, 0, 0, 0⟩
def lcElt : Expr → Expr
  | .ListComp e _ _ _ => e
  | e => e
def lcScope : Expr → Scope
  | .ListComp _ _ s _ => s
  | _ => { kind := .function, names := [], isGenerator := false, isCoroutine := false, more := [] }
def lawS (n : Nat) : Stmt := (fBody (stN 23)).getD n (.Pass ⟨0, 0, 0, 0⟩)
def rowsE : Expr := asgE (lawS 0)
abbrev lenv (L a : Addr) (cd : Value) : Env := envOfC "law" (fScope (stN 23)) L a cd
abbrev renv (L a : Addr) (cd : Value) (c C : Addr) : Env := compEnvC (lcScope rowsE) [(("j" : Str), c), (("script" : Str), (L + 1 : Addr))] C (lenv L a cd)

/-- the two remainders -/
def two (n : Int) : K2 := (n.fmod 3, (n.fdiv 3).fmod 2)
/-- the numbers whose place is j by two -/
def pick (ns : List Int) (j : Int) : List Int := ((List.range ns.length).filter fun (t : Nat) => decide ((t : Int).fmod 2 = j)).map fun t => ns.getD t 0
def rowOf (ns : List Int) (j : Int) : List K2 := (pick ns j).map two

theorem Paired.imp_mem {α β : Type} {F F' : α → β → Prop} : ∀ {l₁ : List α} {l₂ : List β}, Paired F l₁ l₂ → (∀ a b, a ∈ l₁ → F a b → F' a b) → Paired F' l₁ l₂
  | _, _, .nil, _ => .nil
  | _, _, .cons a t, h => .cons (h _ _ (List.mem_cons_self ..) a) (Paired.imp_mem t fun a b m => h a b (List.mem_cons_of_mem _ m))
/-- v is the number n -/
abbrev IsN (n : Int) (v : Value) : Prop := ∃ t, v = .int n t

section
variable {prog : Program} {w : World} {A : Around} {E : Value → Shared → Prop} {s : Shared} {mg mb : Str → Option Value} {d : Ad}

theorem len_list {hh : Heap} {l : Addr} {items : Array Value} {Q : Value → Shared → Prop} (hl : hh.IsList l items) (hsz : items.size ≤ 1000) (h : ∀ t tk, Q (.int items.size t) { s with toks := tk }) (hs : s.heap = hh := by rfl) : wpAny (model prog w) A (call (.builtin "len") [.ref l]) Q E s := by
  subst hs
  exact call_len_list hl (by omega) (h _ _)
theorem range_one {hh : Heap} {n : Nat} {tn : Tok} {Q : Value → Shared → Prop} (hn : n ≤ 1000)
    (h : ∀ h' it tk, IsRangeIter h' it 0 n 1 → hh.get? it = none → it < h'.objs.size → Kp hh h' → Q (.ref it) { s with heap := h', toks := tk }) (hs : s.heap = hh := by rfl) :
    wpAny (model prog w) A (call (.type "range") [.int n tn]) (fun x s₁ => wpAny (model prog w) A (pyIter x) Q E s₁) E s := by
  subst hs
  refine call_range_1 (wpAny_pyIter_range (IsRange.new ..) (small_one (by omega) (by omega) (by omega) (by omega)) ?_)
  have e : Builtin.Range.rangeSize (0 : Int) n 1 = (n : Int) := by
    rw [rangeSize_one]
    split <;> omega
  rw [e]
  have hit := Heap.get?_push_size (s.heap.push { cls := .type "range", data := .fields #[.int 0 s.toks, .int (n : Int) tn, .int 1 (s.toks + 1)] }) (o := { cls := .type "range_iterator", data := .fields #[rawInt 0, rawInt (n : Int), rawInt 1] }) rfl
  exact h _ _ _ hit (get_none (by show _ ≤ (s.heap.push _).objs.size; rw [Heap.size_push]; exact Nat.le_succ _)) (Heap.lt_size hit) fun b o e => Heap.get?_push_of_some _ (Heap.get?_push_of_some _ e)

theorem new_el {h : Heap} {X : List Addr} {n m : Int} {t u : Tok} (hX : ∀ a ∈ X, a < h.objs.size) : El (hideAll (h.push { cls := .type "list", data := .seq #[.int n t, .int m u] }) X) (.ref h.objs.size) (n, m) :=
  ⟨_, _, rfl, .list (hideAll_get _ (Heap.get?_push_size _ rfl) fun q => Nat.lt_irrefl _ (hX _ q)) rfl rfl (.cons (.int _ _) (.cons (.int _ _) .nil))⟩

/-- a row of things that are all new -/
def RowF (old h : Heap) (l : Addr) (S : List K2) : Prop := ∃ vs, h.PlainList l vs ∧ Paired (fun k v => El h v k ∧ ∃ e, v = .ref e ∧ old.get? e = none) S vs.toList
theorem El.hide {h : Heap} {X : List Addr} {e : Addr} {k : K2} (x : El h (.ref e) k) (hX : e ∉ X) : El (hideAll h X) (.ref e) k := by
  obtain ⟨a, as, ea, r⟩ := x
  cases r with
  | @list _ o vs n _ _ h1 h2 h3 h4 =>
    obtain ⟨vl⟩ := vs
    replace h4 : ReadsAll h vl _ _ := h4
    cases h4 with
    | cons r1 h4 => cases h4 with
      | cons r2 h4 => cases h4 with
        | nil => cases r1 with
          | int i t => cases r2 with
            | int i' t' => exact ⟨e, _, rfl, .list (hideAll_get _ h1 hX) h2 h3 (.cons (.int _ _) (.cons (.int _ _) .nil))⟩
theorem RowF.hide {old h : Heap} {l : Addr} {S : List K2} {X : List Addr} (x : RowF old h l S) (hl : old.get? l = none) (hX : ∀ a ∈ X, ∃ o, old.get? a = some o) : Row (hideAll h X) l S := by
  obtain ⟨vs, a, b⟩ := x
  have off : ∀ {a}, old.get? a = none → a ∉ X := fun q m => by obtain ⟨o, e⟩ := hX _ m; rw [q] at e; cases e
  exact ⟨vs, a.at fun o e => hideAll_get _ e (off hl), Paired.imp (fun k v q => by obtain ⟨q1, e, rfl, q2⟩ := q; exact q1.hide (off q2)) b⟩
set_option maxHeartbeats 4000000 in
/-- the numbers of one row: [script[k] for k in range(len(script)) if k % 2 == j] -/
theorem rows_elt {hb hh : Heap} {L a c C l : Addr} {cd : Value} {j : Int} {tj : Tok} {ns : List Int} {vs : Array Value} {Q : Value → Shared → Prop} (N : NM d mg mb) (P : PG d mg mb hb) (K : Kp hb hh) (hH : A.handled = none)
    (hcj : hh.IsCell c (some (.int j tj))) (hcs : hh.IsCell (L + 1) (some (.ref l))) (hl : hh.IsList l vs) (hv : Paired IsN ns vs.toList) (hn : ns.length ≤ 100)
    (h : ∀ h' tk D, RowF hh h' D (rowOf ns j) → hh.get? D = none → Kp hh h' → Q (.ref D) { s with heap := h', toks := tk }) (hs : s.heap = hh := by rfl) :
    wpAny (model prog w) A (eval (lcElt rowsE) (renv L a cd c C)) Q NO s := by
  subst hs
  have hsz : vs.size = ns.length := paired_size hv
  refine lc_eval (cl := []) (closureFor_none (by decide)) rfl (by decide) (by decide) rfl ?_
  refine lc_eval (cl := [(("script" : Str), (L + 1 : Addr)), (("j" : Str), c)]) (by rfl) rfl (by decide) (by decide) rfl ?_
  have P₁ := P.kp K
  refine callT (nameB P₁.g N.range.1 P₁.b N.range.2 ⟨rfl, callB (nameB P₁.g N.len.1 P₁.b N.len.2 ⟨rfl, Mine.ldC (c := L + 1) (by rfl) hcs (len_list hl (by omega) fun t tk => ?_)⟩)⟩)
  rw [hsz]
  refine range_one (by omega) fun h₁ it tk₁ hit it0 itl K₁ => ?_
  have up1 : ∀ {h : Heap}, (∀ b o, b ≠ it → h₁.get? b = some o → h.get? b = some o) → Kp s.heap h := fun q b o z => q b o (Ne.symm (ne_get it0 z)) (K₁ b o z)
  refine ⟨it, ns.length, _, _, [it], fun (t : Nat) => decide ((t : Int).fmod 2 = j), fun _ t y => vs[t]? = some y, rfl, Src.range (by exact hH) it 0 ns.length, by omega, (by simpa using hit), (by intro b hb; rw [List.mem_singleton.mp hb]; exact itl), fun _ _ _ _ _ q => q, ?_, ?_⟩
  · intro i v C₁ D₁ h₂ tk₂ m hi ⟨t₂, hv₂⟩ hn₂ hm₂ K₂ _ _ _ _
    have Kh := up1 K₂
    have e0 : (0 : Int) + (i : Int) = (i : Int) := by omega
    rw [e0] at hv₂
    subst hv₂
    refine wpAny_tests_one (wpAny_isTrue_Compare1 (wpAny_BinOp (ldE hn₂ hm₂ (wpAny_Constant_int (mod_int (by decide) ?_)))))
    refine Mine.ldC (c := c) (by rfl) (hcj.keeps Kh) (eq_int (wpAny_truthy_bool ?_))
    refine ⟨rfl, h₂, _, rfl, fun _ _ e => e, fun _ => ?_⟩
    have hvi : vs[i]? = some vs[i] := by simp [hsz, hi]
    refine Subscript_ (Mine.ldC (c := L + 1) (by rfl) (hcs.keeps Kh) (ldE hn₂ hm₂ (item_list (hl.at fun o q => Kh _ o q) (by omega) (by omega) hvi ?_)))
    exact ⟨h₂, _, {}, rfl, (fun _ _ e => e), (fun _ _ e => by cases e), (fun _ _ => rfl), hvi⟩
  · intro D h₂ tk₂ ys g hD hlD K₂ Kg gD git hP
    have Kh := up1 K₂
    have hD0 : s.heap.get? D = none := ghost_none K₁ hD
    -- the numbers
    have hpk : Paired IsN (pick ns j) ys.toList := by
      unfold pick
      refine paired_map (Paired.imp_mem hP fun t y ht e => ?_)
      have ht' : t < ns.length := List.mem_range.mp (List.mem_filter.mp ht).1
      obtain ⟨v, e1, u, e2⟩ := paired_at hv t ht'
      obtain rfl : y = v := Option.some.inj (e.symm.trans (by simpa using e1))
      exact ⟨u, by rw [e2]; simp [ht']⟩
    have hys : ys.size = (pick ns j).length := paired_size hpk
    have hpl : (pick ns j).length ≤ 100 := by
      unfold pick
      rw [List.length_map]
      exact Nat.le_trans (List.length_filter_le _ _) (by simpa using hn)
    refine wpAny_pyIter_list (by exact hlD.isList) ?_
    have Dl : D < h₂.objs.size := by obtain ⟨_, q⟩ := hlD; exact Heap.lt_size q
    refine ⟨h₂.objs.size, ys.size, _, _, [h₂.objs.size, D], fun _ => true, fun g t y => El g y (two ((pick ns j).getD t 0)) ∧ ∃ e, y = .ref e ∧ s.heap.get? e = none, rfl, Src.list (by exact hH) h₂.objs.size D (Nat.ne_of_lt Dl) ys, by omega, ⟨⟨_, Heap.get?_push_size _ rfl, rfl, rfl⟩, hlD.isList.push _⟩, ?_, fun _ _ _ _ k q => ⟨q.1.kp k, q.2⟩, ?_, ?_⟩
    · intro b hb
      show b < (h₂.push _).objs.size
      rw [Heap.size_push]
      rcases List.mem_cons.mp hb with rfl | hb
      · exact Nat.lt_succ_self _
      · rw [List.mem_singleton.mp hb]; exact Nat.lt_succ_of_lt Dl
    · intro i v C₁ D₁ h₃ tk₃ m hi hvi hn₃ hm₃ K₃ hC0 hD0' hDl hitl
      obtain ⟨y, e1, u, rfl⟩ := paired_at hpk i (by omega)
      obtain rfl : v = .int (pick ns j)[i] u := Option.some.inj (Eq.trans (Eq.symm hvi) (by simpa using e1))
      refine wpAny_tests_nil ⟨rfl, h₃, tk₃, rfl, fun _ _ e => e, fun _ => ?_⟩
      refine wpAny_List (args_cons (wpAny_BinOp (ldE hn₃ hm₃ (wpAny_Constant_int (mod_int (by decide) ?_)))))
      refine args_cons (wpAny_BinOp (wpAny_BinOp (ldE hn₃ hm₃ (wpAny_Constant_int (floordiv_int (by decide) (wpAny_Constant_int (mod_int (by decide) ?_)))))))
      refine args_nil ⟨by rw [sizeLine_eq]; show 2 ≤ _; omega, ?_⟩
      refine ⟨_, _, hideAll (h₃.push { cls := .type "list", data := .seq #[.int ((pick ns j)[i].fmod 3) _, .int (((pick ns j)[i].fdiv 3).fmod 2) _] }) [C₁, D₁, h₂.objs.size], rfl, fun _ _ e => Heap.get?_push_of_some _ e, hide_le, hide_off, ?_⟩
      have hget : (pick ns j).getD i 0 = (pick ns j)[i] := by simp [show i < (pick ns j).length by omega]
      refine ⟨?_, _, rfl, ghost_none (fun b o e => K₃ b o (Nat.ne_of_lt (Heap.lt_size (Kh _ _ e))) (Heap.get?_push_of_some _ (Kh _ _ e))) (get_none (Nat.le_refl _))⟩
      rw [hget]
      obtain ⟨o1, q1⟩ := hDl
      obtain ⟨o2, q2⟩ := hitl
      exact new_el (by
        intro b hb
        rcases List.mem_cons.mp hb with rfl | hb
        · exact hn₃.lt
        · rcases List.mem_cons.mp hb with rfl | hb
          · exact Heap.lt_size q1
          · rw [List.mem_singleton.mp hb]; exact Heap.lt_size q2)
    · intro D' h₃ tk₃ zs g' hD' hlD' K₃ Kg' gD' git' hP'
      have K₃' : Kp h₂ h₃ := fun b o e => K₃ b o (Nat.ne_of_lt (Heap.lt_size e)) (Heap.get?_push_of_some _ e)
      refine h h₃ tk₃ D' ⟨zs, hlD', ?_⟩ (ghost_none Kh (ghost_none (fun b o e => Heap.get?_push_of_some _ e) hD')) fun b o e => K₃' _ _ (Kh b o e)
      have e1 : rowOf ns j = (List.range ys.size).map fun t => two ((pick ns j).getD t 0) := by
        unfold rowOf
        rw [hys]
        apply List.ext_getElem
        · simp
        · intro t h1 h2
          simp only [List.length_map] at h1
          simp [h1]
      rw [e1]
      have e2 : (List.range ys.size).filter (fun _ => true) = List.range ys.size := List.filter_eq_self.mpr fun _ _ => rfl
      rw [e2] at hP'
      exact paired_map (F := fun k v => El h₃ v k ∧ ∃ e, v = .ref e ∧ s.heap.get? e = none) (Paired.imp (fun _ _ q => ⟨q.1.kp Kg', q.2⟩) hP')
end
end Mine

namespace Mine
open PySem PySem.W PyProof.Rows PySem.Calls PySem.SeqAt

/-- the law's frame and its cells -/
abbrev XL (L : Addr) : List Addr := [L, L + 1, L + 1 + 1, L + 1 + 1 + 1]
theorem FmC.other {hb h h' : Heap} {L C : Addr} {m cm : Str → Option Value} {cs : List (Str × Addr)} (F : FmC hb L m cs cm h) (hs : Heap.SameBut C h h') (hL : L ≠ C) (hc : ∀ n c, cs.lookup n = some c → c ≠ C) (h0 : hb.get? C = none) : FmC hb L m cs cm h' :=
  ⟨⟨F.fm.ns.sameBut hs hL, fun b o e => (hs.2 b fun q => by rw [q, h0] at e; cases e).trans (F.fm.keep b o e), F.fm.off⟩, ⟨fun n c e => (F.cl.cell n c e).sameBut hs (hc n c e), F.cl.apart, F.cl.above⟩, F.offC⟩
theorem two_refs {G : Nat → Value → Prop} {ys : Array Value} (h : Paired G (List.range 2) ys.toList) : ∃ u v, ys = #[u, v] ∧ G 0 u ∧ G 1 v := by
  obtain ⟨l⟩ := ys
  replace h : Paired G [0, 1] l := h
  cases h with
  | cons a h => cases h with
    | cons b h => cases h with
      | nil => exact ⟨_, _, rfl, a, b⟩

section
variable {prog : Program} {w : World} {A : Around} {E : Value → Shared → Prop} {s : Shared} {mg mb : Str → Option Value} {d : Ad}

theorem bound_range_cell {env : Env} {it c : Addr} {k left step : Int} {x : Str} {px : Pos} {v₀ : Option Value} {Q : Shared → Prop} (hk : env.scope.kind = .function) (hx : env.kindOf x = some .cell) (hc : env.cells.lookup x = some c)
    (hit : IsRangeIter s.heap it k left step) (hleft : 0 < left) (hv : s.heap.IsCell c v₀) (hne : it ≠ c)
    (h : ∀ h' tk t, IsRangeIter h' it (k + step) (left - 1) step → h'.IsCell c (some (.int k t)) → KB [it, c] s.heap h' → Q { s with heap := h', toks := tk }) :
    Bound prog w A (.Name x px) (.ref it) env Q s := by
  refine wpAny_pyNext_range_item hit hleft fun h₁ hit₁ hs₁ => ⟨_, rfl, wpAny_pure ?_⟩
  replace hs₁ : Heap.SameBut it s.heap h₁ := hs₁
  refine wpAny_assign_Name (wpAny_storeName_cell hk hx hc (hv.sameBut hs₁ (Ne.symm hne)) fun h₂ hv₂ hs₂ => ?_)
  replace hs₂ : Heap.SameBut c h₁ h₂ := hs₂
  exact h h₂ _ _ ((hs₂.2 _ hne).trans hit₁) hv₂ fun b o hb e => hs₂.extBut b o (fun q => hb (by simp [q])) (hs₁.extBut b o (fun q => hb (by simp [q])) e)

set_option maxHeartbeats 4000000 in
/-- rows = [.. for j in range(2)] -/
theorem rows_stmt {hb hh : Heap} {L a l : Addr} {cd : Value} {m cm : Str → Option Value} {ns : List Int} {vs : Array Value} {Q : Flow → Shared → Prop} (N : NM d mg mb) (P : PG d mg mb hb) (F : FmC hb L m (cellsAt (fScope (stN 23)) L) cm hh) (hH : A.handled = none)
    (hcm : cm "script" = some (.ref l)) (hl : hh.IsList l vs) (hv : Paired IsN ns vs.toList) (hn : ns.length ≤ 100)
    (h : ∀ h' tk R D0 D1, FmC hb L (upd m "rows" (.ref R)) (cellsAt (fScope (stN 23)) L) cm h' → (hideAll h' (XL L)).PlainList R #[.ref D0, .ref D1] → Row (hideAll h' (XL L)) D0 (rowOf ns 0) → Row (hideAll h' (XL L)) D1 (rowOf ns 1) → KB [L] hh h' → Q .next { s with heap := h', toks := tk }) (hs : s.heap = hh := by rfl) :
    wpAny (model prog w) A (exec (lawS 0) (lenv L a cd)) Q NO s := by
  subst hs
  have hsc : s.heap.IsCell (L + 1) (some (.ref l)) := hcm ▸ F.cl.cell "script" (L + 1) (by rfl)
  have P₀ := P.kp F.keep
  show wpAny _ A (exec (.Assign [.Name "rows" _] (.ListComp _ [⟨.Name "j" _, _, _, 0⟩] _ _) _) _) _ _ _
  rw [exec_Assign_Name_used _ _ _ _ (by rfl)]
  refine wpAny_bind (wpAny_standAt (wpAny_bind ?_))
  show wpAny _ A (do let _ ← comprehension _ (lcScope rowsE) (lenv L a cd) _ (newList []) false (eval _ (lenv L a cd)) (some (assign (.Name "rows" _) (lenv L a cd)))) _ _ s
  refine wpAny_bind (wpAny_mono (comp_run (use := some (assign (.Name "rows" _) (lenv L a cd))) (Q := fun _ s' => Q .next s') (cl := [(("script" : Str), (L + 1 : Addr))]) (by rfl) rfl (by decide)
    (callT (nameB P₀.g N.range.1 P₀.b N.range.2 ⟨rfl, wpAny_Constant_int ?_⟩)))
    (fun _ s' hq => wpAny_pure (wpAny_pure hq)) fun _ _ e => e)
  refine range_one (n := 2) (by decide) fun h₁ it tk₁ hit it0 itl K₁ => ?_
  intro D C H cells hD hC hH' hcells
  have hD0 : h₁.get? D = none := get_none (by rw [hD]; exact Nat.le_refl _)
  have hC0 : h₁.get? C = none := get_none (by rw [hC]; exact Nat.le_succ _)
  have hDC : D ≠ C := by rw [hD, hC]; exact Nat.ne_of_lt (Nat.lt_succ_self _)
  replace hH' : H = ((h₁.push (listOb #[])).push dictOb).push { cls := .type "cell", data := .cell none } := hH'
  replace hcells : cells = [(("j" : Str), h₁.objs.size + 2), (("script" : Str), (L + 1 : Addr))] := hcells
  generalize hc : h₁.objs.size + 2 = c at hcells
  subst hcells
  have hc0 : h₁.get? c = none := get_none (by rw [← hc]; exact Nat.le_add_right ..)
  have hDc : D ≠ c := by rw [hD, ← hc]; exact Nat.ne_of_lt (Nat.lt_add_of_pos_right (by decide))
  have hCc : C ≠ c := by rw [hC, ← hc]; exact Nat.ne_of_lt (Nat.lt_succ_self _)
  have sz1 : (h₁.push (listOb #[])).objs.size = h₁.objs.size + 1 := Heap.size_push ..
  have sz2 : ((h₁.push (listOb #[])).push dictOb).objs.size = h₁.objs.size + 2 := by rw [Heap.size_push, sz1]
  have K0 : Kp h₁ H := fun b o e => by rw [hH']; exact Heap.get?_push_of_some _ (Heap.get?_push_of_some _ (Heap.get?_push_of_some _ e))
  have hl0 : H.PlainList D #[] := by
    refine ⟨0, ?_⟩
    rw [hH', hD]
    exact Heap.get?_push_of_some _ (Heap.get?_push_of_some _ (Heap.get?_push_size _ rfl))
  have hn0 : H.Ns C fun _ => none := by
    have := Heap.Ns.new (h₁.push (listOb #[])) (.type "dict")
    rw [Heap.size_push] at this
    rw [hH', hC]; exact this.push _
  have hcl0 : H.IsCell c none := by
    refine ⟨{ cls := .type "cell", data := .cell none }, ?_, rfl⟩
    rw [hH', ← hc, ← sz2]
    exact Heap.get?_push_size _ rfl
  have hLl : L < s.heap.objs.size := F.ns.lt
  obtain ⟨oL, esL, epL, hoL, _⟩ := F.ns
  have itL : it ≠ L := ne_get it0 hoL
  have DL : D ≠ L := ne_get hD0 (K₁ _ _ hoL)
  have CL : C ≠ L := ne_get hC0 (K₁ _ _ hoL)
  have cL : c ≠ L := ne_get hc0 (K₁ _ _ hoL)
  have itD : it ≠ D := Ne.symm (ne_get hD0 hit)
  have itC : it ≠ C := Ne.symm (ne_get hC0 hit)
  have itc : it ≠ c := Ne.symm (ne_get hc0 hit)
  refine ⟨wpAny_pyIter_rangeiter (K0 _ _ hit) ⟨rfl, rfl⟩, (fun k s' => ∃ (i : Nat) (h : Heap) (tk : Nat) (ys : Array Value) (v₀ : Option Value), i ≤ 2 ∧ k = 2 - i ∧ s' = { s with heap := h, toks := tk } ∧ IsRangeIter h it i ((2 : Int) - i) 1 ∧ h.IsCell c v₀ ∧ h.Ns C (fun _ => none) ∧ h.PlainList D ys ∧
    Kp s.heap h ∧ Paired (fun (t : Nat) v => ∃ e, v = .ref e ∧ Row (hideAll h (it :: C :: D :: c :: XL L)) e (rowOf ns t)) (List.range i) ys.toList), 2, ⟨0, H, _, #[], none, by decide, rfl, rfl, by simpa using K0 _ _ hit, hcl0, hn0, hl0, fun b o e => K0 _ _ (K₁ _ _ e), .nil⟩, ?_⟩
  rintro k s' ⟨i, h₃, tk, ys, v₀, hi, rfl, rfl, hit₃, hcl₃, hn₃, hl₃, K₃, hP⟩
  rcases Nat.lt_or_eq_of_le hi with hlt | rfl
  · refine .inr (bound_range_cell (c := c) (by rfl) (by rfl) (by rfl) hit₃ (by omega) hcl₃ itc fun h₄ tk₄ t₄ hit₄ hcl₄ K₄ => ?_)
    replace K₄ : KB [it, c] h₃ h₄ := K₄
    have e1 : (i : Int) + 1 = ((i + 1 : Nat) : Int) := by push_cast; rfl
    have e2 : (2 : Int) - i - 1 = (2 : Int) - ((i + 1 : Nat) : Int) := by push_cast; omega
    rw [e1, e2] at hit₄
    have K₅ : Kp s.heap h₄ := fun b o e => K₄ b o (mem_two.mpr ⟨Ne.symm (ne_get it0 e), Ne.symm (ne_get hc0 (K₁ _ _ e))⟩) (K₃ b o e)
    have hn₄ : h₄.Ns C (fun _ => none) := hn₃.at' fun o e => K₄ _ o (mem_two.mpr ⟨Ne.symm itC, hCc⟩) e
    have hl₄ : h₄.PlainList D ys := hl₃.at fun o e => K₄ _ o (mem_two.mpr ⟨Ne.symm itD, hDc⟩) e
    have hP₄ : Paired (fun (t : Nat) v => ∃ e, v = .ref e ∧ Row (hideAll h₄ (it :: C :: D :: c :: XL L)) e (rowOf ns t)) (List.range i) ys.toList := Paired.imp (fun _ _ q => by
      obtain ⟨e, rfl, r⟩ := q
      exact ⟨e, rfl, r.kp (hide_mono (kb_sub K₄ (by intro b hb; simp only [List.mem_cons, List.not_mem_nil, or_false] at hb ⊢; rcases hb with rfl | rfl <;> simp)))⟩) hP
    refine wpAny_tests_nil ?_
    rw [if_pos rfl]
    refine rows_elt (L := L) (a := a) (cd := cd) (C := C) N P (fun b o e => K₅ b o (F.keep b o e)) hH hcl₄ (hsc.keeps K₅) (hl.at fun o e => K₅ _ o e) hv hn fun h₅ tk₅ D' hr₅ hD'0 K₆ => ?_
    have hys : ys.size ≤ sizeLine := by
      have := paired_size hP
      rw [List.length_range] at this
      rw [sizeLine_eq]; omega
    refine wpAny_list_append_plain (hsz := hys) (hl₄.at fun o q => K₆ _ o q) fun h₈ hl₈ hs₈ => ?_
    replace hs₈ : Heap.SameBut D h₅ h₈ := hs₈
    have hX : ∀ a ∈ (it :: C :: D :: c :: XL L), ∃ o, h₄.get? a = some o := by
      intro b hb
      simp only [List.mem_cons, List.not_mem_nil, or_false] at hb
      rcases hb with rfl | rfl | rfl | rfl | rfl | rfl | rfl | rfl
      · exact ⟨_, hit₄⟩
      · obtain ⟨o, _, _, q, _⟩ := hn₄; exact ⟨o, q⟩
      · obtain ⟨_, q⟩ := hl₄; exact ⟨_, q⟩
      · obtain ⟨o, q, _⟩ := hcl₄; exact ⟨o, q⟩
      · exact ⟨_, K₅ _ _ hoL⟩
      · obtain ⟨o, q, _⟩ := F.cl.cell "script" (L + 1) (by rfl); exact ⟨o, K₅ _ _ q⟩
      · obtain ⟨o, q, _⟩ := F.cl.cell "first" (L + 1 + 1) (by rfl); exact ⟨o, K₅ _ _ q⟩
      · obtain ⟨o, q, _⟩ := F.cl.cell "second" (L + 1 + 1 + 1) (by rfl); exact ⟨o, K₅ _ _ q⟩
    have hr₆ : Row (hideAll h₅ (it :: C :: D :: c :: XL L)) D' (rowOf ns i) := hr₅.hide hD'0 hX
    have K₅₈ : KB [D] h₅ h₈ := fun b o hb q => hs₈.extBut b o (mem_one.mp hb) q
    have K₄₈ : KB [D] h₄ h₈ := fun b o hb q => K₅₈ b o hb (K₆ b o q)
    have sub1 : ∀ a ∈ [D], a ∈ (it :: C :: D :: c :: XL L) := by intro b hb; rw [List.mem_singleton.mp hb]; simp
    refine ⟨2 - (i + 1), by omega, i + 1, h₈, _, _, _, hlt, rfl, rfl, K₄₈ _ _ (mem_one.mpr itD) hit₄, (let ⟨o, q, r⟩ := hcl₄; ⟨o, K₄₈ _ _ (mem_one.mpr (Ne.symm hDc)) q, r⟩), hn₄.at' fun o q => K₄₈ _ o (mem_one.mpr (Ne.symm hDC)) q, hl₈,
      fun b o q => K₄₈ b o (mem_one.mpr (Ne.symm (ne_get hD0 (K₁ _ _ q)))) (K₅ b o q), ?_⟩
    rw [List.range_succ]
    exact paired_snoc (Paired.imp (fun _ _ q => by
      obtain ⟨e, rfl, r⟩ := q
      exact ⟨e, rfl, r.kp (hide_mono (kb_sub K₄₈ sub1))⟩) hP₄) ⟨D', rfl, hr₆.kp (hide_mono (kb_sub K₅₈ sub1))⟩
  · refine .inl (ended_range hH hit₃ (by decide) fun h₄ K₄ => ?_)
    replace K₄ : KB [it] h₃ h₄ := K₄
    have hP₄ : Paired (fun (t : Nat) v => ∃ e, v = .ref e ∧ Row (hideAll h₄ (it :: C :: D :: c :: XL L)) e (rowOf ns t)) (List.range 2) ys.toList := Paired.imp (fun _ _ q => by
      obtain ⟨e, rfl, r⟩ := q
      exact ⟨e, rfl, r.kp (hide_mono (kb_sub K₄ (by intro b hb; rw [List.mem_singleton.mp hb]; simp)))⟩) hP
    have Ks₄ : Kp s.heap h₄ := fun b o q => K₄ b o (mem_one.mpr (Ne.symm (ne_get it0 q))) (K₃ b o q)
    have F₄ : FmC hb L m (cellsAt (fScope (stN 23)) L) cm h₄ := F.kp Ks₄
    refine wpAny_assign_Name (F₄.st fun h₅ F₅ s₅ => ?_)
    refine ⟨fun _ => none, (hn₃.at' fun o q => K₄ _ o (mem_one.mpr (Ne.symm itC)) q).sameBut s₅ CL, fun h₆ s₆ => ?_⟩
    replace s₆ : Heap.SameBut C h₅ h₆ := s₆
    have K₄₆ : KB [L, C] h₄ h₆ := fun b o hb q => s₆.extBut b o (mem_two.mp hb).2 (s₅.extBut b o (mem_two.mp hb).1 q)
    have hC0' : s.heap.get? C = none := ghost_none K₁ hC0
    obtain ⟨u, v, rfl, ⟨D0, rfl, r0⟩, ⟨D1, rfl, r1⟩⟩ := two_refs hP₄
    have Kh : Kp (hideAll h₄ (it :: C :: D :: c :: XL L)) (hideAll h₆ (XL L)) := fun b o q => by
      have hb : b ∉ it :: C :: D :: c :: XL L := fun hb => by rw [hideAll_none _ hb] at q; cases q
      simp only [List.mem_cons, not_or] at hb
      refine hideAll_get _ (K₄₆ b o (mem_two.mpr ⟨hb.2.2.2.2.1, hb.2.1⟩) (of_hideAll _ q)) ?_
      simp only [List.mem_cons, not_or]
      exact hb.2.2.2.2
    have dead : ∀ a ∈ XL L, D ≠ a := by
      intro b hb
      have : ∃ o, s.heap.get? b = some o := by
        simp only [List.mem_cons, List.not_mem_nil, or_false] at hb
        rcases hb with rfl | rfl | rfl | rfl
        · exact ⟨_, hoL⟩
        · obtain ⟨o, q, _⟩ := F.cl.cell "script" (L + 1) (by rfl); exact ⟨o, q⟩
        · obtain ⟨o, q, _⟩ := F.cl.cell "first" (L + 1 + 1) (by rfl); exact ⟨o, q⟩
        · obtain ⟨o, q, _⟩ := F.cl.cell "second" (L + 1 + 1 + 1) (by rfl); exact ⟨o, q⟩
      obtain ⟨o, q⟩ := this
      exact ne_get hD0 (K₁ _ _ q)
    have hD6 : h₆.PlainList D #[.ref D0, .ref D1] := hl₃.at fun o q => K₄₆ _ o (mem_two.mpr ⟨DL, hDC⟩) (K₄ _ o (mem_one.mpr (Ne.symm itD)) q)
    refine h h₆ _ D D0 D1 (F₅.other s₆ (Ne.symm CL) (fun n c' e => ?_) (ghost_none F.keep hC0')) (hD6.at fun o q => hideAll_get _ q fun hb => dead _ hb rfl) (r0.kp Kh) (r1.kp Kh) fun b o hb q => K₄₆ b o (mem_two.mpr ⟨mem_one.mp hb, Ne.symm (ne_get hC0' q)⟩) (Ks₄ b o q)
    obtain ⟨o, q, _⟩ := F.cl.cell n c' e
    exact Ne.symm (ne_get hC0' q)
end
end Mine

namespace Mine
open PySem PySem.W PyProof.Rows PySem.Calls PySem.SeqAt

theorem El.copy {h : Heap} {v : Value} {k : K2} (x : El h v k) : ∃ a items, v = .ref a ∧ h.IsList a items ∧ items.size ≤ 2 ∧ ∀ h' l', h'.PlainList l' items → El h' (.ref l') k := by
  obtain ⟨a, as, rfl, r⟩ := x
  cases r with
  | @list _ o vs n _ _ h1 h2 h3 h4 =>
    obtain ⟨vl⟩ := vs
    replace h4 : ReadsAll h vl _ _ := h4
    cases h4 with
    | cons r1 h4 => cases h4 with
      | cons r2 h4 => cases h4 with
        | nil => cases r1 with
          | int i t => cases r2 with
            | int i' t' => exact ⟨a, _, rfl, ⟨o, h1, h2, n, h3⟩, Nat.le_refl 2, fun h' l' ⟨n', e⟩ => ⟨l', _, rfl, .list e rfl rfl (.cons (.int _ _) (.cons (.int _ _) .nil))⟩⟩

section
variable {prog : Program} {w : World} {A : Around} {E : Value → Shared → Prop} {s : Shared} {mg mb : Str → Option Value} {d : Ad}

/-- [list(one) for one in l] -/
theorem copy_row {env : Env} {hh : Heap} {iter : Expr} {p1 p2 p3 p4 pos : Pos} {scope : Scope} {cl : List (Str × Addr)} {l : Addr} {S : List K2} {Q : Value → Shared → Prop} (N : NM d mg mb) (gm : hh.Ns mainGlobals mg) (gb : hh.Ns builtinsNs mb) (hH : A.handled = none)
    (hl : Row hh l S) (nS : S.length ≤ 100) (hiter : ∀ (Q : Value → Shared → Prop), (∀ tk, Q (.ref l) { s with toks := tk }) → wpAny (model prog w) A (eval iter env) Q E s)
    (hclos : closureFor scope env = pure cl) (hkind : scope.kind = .function) (hnames : ∀ y ∈ scope.names, y.2 = .local → scope.names.lookup y.1 = some .local) (hnc : ∀ y ∈ scope.names, y.2 ≠ .cell) (hx : scope.names.lookup ("one" : Str) = some .local)
    (hk : ∀ C, (cEnv scope cl C env).scope.kind = .function) (k1 : ∀ C, (cEnv scope cl C env).kindOf "one" = some .local) (k2 : ∀ C, (cEnv scope cl C env).kindOf "list" = some .globalImplicit) (hge : env.globals = mainGlobals) (hbe : env.builtins = builtinsNs)
    (h : ∀ h' tk D, RowF hh h' D S → hh.get? D = none → Kp hh h' → Q (.ref D) { s with heap := h', toks := tk }) (hs : s.heap = hh := by rfl)
    (hf : ∀ x, foldedSetIterable iter env x = pure x := by intro _; rfl) :
    wpAny (model prog w) A (eval (.ListComp (.Call (.Name "list" p1) [.Name "one" p2] [] p3) [⟨.Name "one" p4, iter, [], 0⟩] scope pos) env) Q E s := by
  subst hs
  obtain ⟨vs, hpl, p⟩ := hl
  obtain ⟨hsz, hel⟩ := Row.get p
  refine lc_eval (cl := cl) hclos hkind hnames hnc hx (hiter _ fun tk₀ => wpAny_pyIter_list (by exact hpl.isList) ?_) hf
  have lt : l < s.heap.objs.size := by obtain ⟨_, q⟩ := hpl; exact Heap.lt_size q
  have up : ∀ {h : Heap}, (∀ b o, b ≠ s.heap.objs.size → (s.heap.push { cls := .type "list_iterator", data := .fields #[.ref l, .int 0 0] }).get? b = some o → h.get? b = some o) → Kp s.heap h := fun q b o z => q b o (Nat.ne_of_lt (Heap.lt_size z)) (Heap.get?_push_of_some _ z)
  refine ⟨s.heap.objs.size, vs.size, _, _, [s.heap.objs.size, l], fun _ => true, fun g t y => El g y (kAt S t) ∧ ∃ e, y = .ref e ∧ s.heap.get? e = none, rfl, Src.list (by exact hH) s.heap.objs.size l (Nat.ne_of_lt lt) vs, by omega, ⟨⟨_, Heap.get?_push_size _ rfl, rfl, rfl⟩, hpl.isList.push _⟩, ?_, fun _ _ _ _ k q => ⟨q.1.kp k, q.2⟩, ?_, ?_⟩
  · intro b hb
    show b < (s.heap.push _).objs.size
    rw [Heap.size_push]
    rcases List.mem_cons.mp hb with rfl | hb
    · exact Nat.lt_succ_self _
    · rw [List.mem_singleton.mp hb]; exact Nat.lt_succ_of_lt lt
  · intro i v C₁ D₁ h₃ tk₃ m hi hvi hn₃ hm₃ K₃ hC0 hD0 hDl hitl
    have Kh := up K₃
    obtain ⟨v', e1, hv'⟩ := hel i (by omega)
    obtain rfl : v = v' := Option.some.inj (Eq.trans (Eq.symm hvi) e1)
    obtain ⟨a, items, rfl, hla, hs2, hcopy⟩ := (hv'.kp Kh).copy
    refine wpAny_tests_nil ⟨rfl, h₃, tk₃, rfl, fun _ _ e => e, fun _ => ?_⟩
    refine callT (nameB (env := cEnv scope cl C₁ env) (gm.keeps Kh) N.list.1 (gb.keeps Kh) N.list.2 ⟨rfl, ldE (env := cEnv scope cl C₁ env) hn₃ hm₃ (call_list_list hla (by omega) fun h₄ l' hl' l0 K₄ => ?_) rfl (hk _) (k1 _)⟩ rfl (hk _) (k2 _) (by decide) hge hbe)
    obtain ⟨o1, q1⟩ := hDl
    obtain ⟨o2, q2⟩ := hitl
    have off : l' ∉ [C₁, D₁, s.heap.objs.size] := mem_three.mpr ⟨ne_ns l0 hn₃, ne_get l0 q1, ne_get l0 q2⟩
    exact ⟨h₄, _, hideAll h₄ [C₁, D₁, s.heap.objs.size], rfl, K₄, hide_le, hide_off, (hcopy h₄ l' hl').hide off, l', rfl, ghost_none Kh l0⟩
  · intro D h₂ tk₂ ys g hD hlD K₂ Kg gD git hP
    have Kh := up K₂
    refine h h₂ tk₂ D ⟨ys, hlD, ?_⟩ (ghost_none (fun b o e => Heap.get?_push_of_some _ e) hD) Kh
    have e2 : (List.range vs.size).filter (fun _ => true) = List.range vs.size := List.filter_eq_self.mpr fun _ _ => rfl
    rw [e2, hsz] at hP
    rw [← map_kAt S]
    exact paired_map (F := fun k v => El h₂ v k ∧ ∃ e, v = .ref e ∧ s.heap.get? e = none) (Paired.imp (fun _ _ q => ⟨q.1.kp Kg, q.2⟩) hP)
end
end Mine

namespace Mine
open PySem PySem.W PyProof.Rows PySem.Calls PySem.SeqAt

abbrev lcs (L : Addr) : List (Str × Addr) := cellsAt (fScope (stN 23)) L

section
variable {prog : Program} {w : World} {A : Around} {E : Value → Shared → Prop} {s : Shared} {mg mb : Str → Option Value} {d : Ad}

/-- the frame and the cells of the law are live -/
theorem law_live {hb h : Heap} {L : Addr} {m cm : Str → Option Value} (F : FmC hb L m (lcs L) cm h) : ∀ a ∈ XL L, ∃ o, h.get? a = some o := by
  intro b hb
  simp only [List.mem_cons, List.not_mem_nil, or_false] at hb
  rcases hb with rfl | rfl | rfl | rfl
  · obtain ⟨o, _, _, q, _⟩ := F.ns; exact ⟨o, q⟩
  · obtain ⟨o, q, _⟩ := F.cl.cell "script" (L + 1) (by rfl); exact ⟨o, q⟩
  · obtain ⟨o, q, _⟩ := F.cl.cell "first" (L + 1 + 1) (by rfl); exact ⟨o, q⟩
  · obtain ⟨o, q, _⟩ := F.cl.cell "second" (L + 1 + 1 + 1) (by rfl); exact ⟨o, q⟩
theorem law_off {hb h : Heap} {L : Addr} {m cm : Str → Option Value} (F : FmC hb L m (lcs L) cm h) : ∀ a ∈ XL L, hb.get? a = none := by
  intro b hm
  simp only [List.mem_cons, List.not_mem_nil, or_false] at hm
  rcases hm with rfl | rfl | rfl | rfl
  · exact F.fm.off
  · exact F.offC "script" _ (mem_of_lookup (l := lcs L) (by rfl))
  · exact F.offC "first" _ (mem_of_lookup (l := lcs L) (by rfl))
  · exact F.offC "second" _ (mem_of_lookup (l := lcs L) (by rfl))
theorem law_ghost {hb h : Heap} {L : Addr} {m cm : Str → Option Value} (F : FmC hb L m (lcs L) cm h) : Kp hb (hideAll h (XL L)) := hide_sub F.keep (law_off F)

/-- first, second = ([list(one) for one in rows[0]], [list(one) for one in rows[1]]) -/
theorem copies_stmt {hb hh : Heap} {L a R D0 D1 : Addr} {cd : Value} {m cm : Str → Option Value} {S T : List K2} {Q : Flow → Shared → Prop} (N : NM d mg mb) (P : PG d mg mb hb) (F : FmC hb L m (lcs L) cm hh) (hH : A.handled = none)
    (hm : m "rows" = some (.ref R)) (hR : (hideAll hh (XL L)).PlainList R #[.ref D0, .ref D1]) (r0 : Row (hideAll hh (XL L)) D0 S) (r1 : Row (hideAll hh (XL L)) D1 T) (nS : S.length ≤ 100) (nT : T.length ≤ 100)
    (h : ∀ h' tk F0 F1, FmC hb L m (lcs L) (upd (upd cm "first" (.ref F0)) "second" (.ref F1)) h' → Row (hideAll h' (XL L)) F0 S → Row (hideAll h' (XL L)) F1 T → KB (XL L) hh h' → Q .next { s with heap := h', toks := tk }) (hs : s.heap = hh := by rfl) :
    wpAny (model prog w) A (exec (lawS 1) (lenv L a cd)) Q NO s := by
  subst hs
  have P₀ := P.kp F.keep
  refine Assign_Tuple (Tuple_ (args_cons (copy_row (cl := []) N P₀.g P₀.b hH (r0.kp hide_le) nS (fun Q hQ => Subscript_ (F.ld hm (wpAny_Constant_int (item_list (hR.isList.at fun o e => of_hideAll _ e) (by decide) (by decide) (x := .ref D0) rfl (hQ _))))) (closureFor_none (by decide)) rfl (by decide) (by decide) (by rfl) (fun _ => by rfl) (fun _ => by rfl) (fun _ => by rfl) rfl rfl fun h₁ tk₁ F0 rf0 f00 K₁ => ?_)))
  have F₁ := F.kp K₁
  have P₁ := P.kp F₁.keep
  have lv : ∀ a ∈ XL L, ∃ o, s.heap.get? a = some o := law_live F
  have hF0 : Row (hideAll h₁ (XL L)) F0 S := rf0.hide f00 lv
  have r1' : Row (hideAll h₁ (XL L)) D1 T := r1.kp (hide_mono fun b o _ e => K₁ b o e)
  have hR' : (hideAll h₁ (XL L)).PlainList R #[.ref D0, .ref D1] := hR.at fun o e => (hide_mono (l := XL L) (fun b o _ e => K₁ b o e)) _ _ e
  refine args_cons (copy_row (cl := []) N P₁.g P₁.b hH (r1'.kp hide_le) nT (fun Q hQ => Subscript_ (F₁.ld hm (wpAny_Constant_int (item_list (hR'.isList.at fun o e => of_hideAll _ e) (by decide) (by decide) (x := .ref D1) rfl (hQ _))))) (closureFor_none (by decide)) rfl (by decide) (by decide) (by rfl) (fun _ => by rfl) (fun _ => by rfl) (fun _ => by rfl) rfl rfl fun h₂ tk₂ F1 rf1 f10 K₂ => ?_)
  have F₂ := F₁.kp K₂
  have lv1 : ∀ a ∈ XL L, ∃ o, h₁.get? a = some o := law_live F₁
  have hF1 : Row (hideAll h₂ (XL L)) F1 T := rf1.hide f10 lv1
  have hF0' : Row (hideAll h₂ (XL L)) F0 S := hF0.kp (hide_mono fun b o _ e => K₂ b o e)
  refine args_nil (wpAny_newTuple ?_)
  refine wpAny_assign_Tuple (items := #[.ref F0, .ref F1]) (by exact hH) ⟨_, Heap.get?_push_size _ rfl, rfl, _, rfl⟩ rfl rfl fun h₃ K₃ => ?_
  have K₂₃ : Kp h₂ h₃ := fun b o e => K₃ b o (Nat.ne_of_lt (Heap.lt_size (Heap.get?_push_of_some _ e))) (Heap.get?_push_of_some _ e)
  have F₃ := F₂.kp K₂₃
  show wpAny _ A (do holding [Value.ref F1] (assign (.Name "first" _) (lenv L a cd) (.ref F0)); do holding [] (assign (.Name "second" _) (lenv L a cd) (.ref F1)); pure ()) _ _ _
  refine wpAny_bind (wpAny_holding (wpAny_assign_Name (F₃.stc (c := L + 1 + 1) (by rfl) fun h₄ F₄ s₄ => ?_)))
  refine wpAny_bind (wpAny_holding (wpAny_assign_Name (F₄.stc (c := L + 1 + 1 + 1) (by rfl) fun h₅ F₅ s₅ => wpAny_pure ?_)))
  have K₃₅ : KB (XL L) h₃ h₅ := fun b o hb e => s₅.extBut b o (fun q => hb (by rw [q]; simp)) (s₄.extBut b o (fun q => hb (by rw [q]; simp)) e)
  have K₂₅ : Kp (hideAll h₂ (XL L)) (hideAll h₅ (XL L)) := hide_mono fun b o hb e => K₃₅ b o hb (K₂₃ b o e)
  exact h h₅ _ F0 F1 F₅ (hF0'.kp K₂₅) (hF1.kp K₂₅) fun b o hb e => K₃₅ b o hb (K₂₃ _ _ (K₂ _ _ (K₁ _ _ e)))
end
end Mine

namespace Mine
open PySem PySem.W PyProof.Rows PySem.Calls PySem.SeqAt

theorem FmC.moved {hb h h' : Heap} {L : Addr} {m m' cm : Str → Option Value} {cs : List (Str × Addr)} (F : FmC hb L m cs cm h) (hn : h'.Ns L m') (K : KB [L] h h') : FmC hb L m' cs cm h' :=
  ⟨⟨hn, fun b o e => K b o (mem_one.mpr fun q => by rw [q, F.fm.off] at e; cases e) (F.keep b o e), F.fm.off⟩,
   ⟨fun n c e => let ⟨o, q, r⟩ := F.cl.cell n c e; ⟨o, K _ _ (mem_one.mpr (Nat.ne_of_gt (F.cl.above n c (mem_of_lookup e)))) q, r⟩, F.cl.apart, F.cl.above⟩, F.offC⟩

/-- v is a tuple of two numbers and a thing -/
def TupAt (h : Heap) (o : O3) (v : Value) : Prop := ∃ M e t1 t2, v = .ref M ∧ h.get? M = some ({ cls := .type "tuple", data := .seq #[.int o.1 t1, .int o.2.1 t2, e] } : Obj) ∧ El h e o.2.2
theorem TupAt.kp {h h' : Heap} {o : O3} {v : Value} (x : TupAt h o v) (K : Kp h h') : TupAt h' o v := let ⟨M, e, t1, t2, a, b, c⟩ := x; ⟨M, e, t1, t2, a, K _ _ b, c.kp K⟩
/-- .. a new one, its thing in G -/
def TupF (old G g : Heap) (o : O3) (v : Value) : Prop := ∃ M e t1 t2, v = .ref M ∧ g.get? M = some ({ cls := .type "tuple", data := .seq #[.int o.1 t1, .int o.2.1 t2, e] } : Obj) ∧ El G e o.2.2 ∧ old.get? M = none
theorem TupF.kp {old G g g' : Heap} {o : O3} {v : Value} (x : TupF old G g o v) (K : Kp g g') : TupF old G g' o v := let ⟨M, e, t1, t2, a, b, c, q⟩ := x; ⟨M, e, t1, t2, a, K _ _ b, c, q⟩
theorem TupF.hide {old G g : Heap} {o : O3} {v : Value} {X : List Addr} (x : TupF old G g o v) (KG : Kp G (hideAll g X)) (hX : ∀ a ∈ X, ∃ o, old.get? a = some o) : TupAt (hideAll g X) o v :=
  let ⟨M, e, t1, t2, a, b, c, q⟩ := x
  ⟨M, e, t1, t2, a, hideAll_get _ b (fun m => by obtain ⟨o, z⟩ := hX _ m; rw [q] at z; cases z), c.kp KG⟩

theorem idx_filter {α : Type} [Inhabited α] (I : List α) (q : α → Bool) : ((List.range I.length).filter fun t => q (I.getD t default)).map (fun t => I.getD t default) = I.filter q := by
  have e : (List.range I.length).map (fun t => I.getD t default) = I := by
    apply List.ext_getElem
    · simp
    · intro t h1 h2
      simp [h2]
  conv => rhs; rw [← e]
  rw [List.filter_map]
  rfl

section
variable {prog : Program} {w : World} {A : Around} {E : Value → Shared → Prop} {s : Shared} {env : Env} {mg mb : Str → Option Value} {d : Ad}

theorem type_list_count : typeOf (.builtin "list.count") = pure (.type "method_descriptor") := by show builtinType _ = _; rw [builtinType_eq_fast]; kernel_rfl

/-- x.count(y) -/
theorem count_expr {pl : Sem Bool} {x y : Str} {p1 p2 p3 p4 : Pos} {l : Addr} {S : List K2} {v : Value} {k : K2} {Q : Value → Shared → Prop}
    (hx : ∀ Q : Value → Shared → Prop, Q (.ref l) s → wpAny (model prog w) A (eval (.Name x p1) env) Q E s) (hl : Row s.heap l S) (hy : ∀ Q : Value → Shared → Prop, Q v s → wpAny (model prog w) A (eval (.Name y p3) env) Q E s) (hv : El s.heap v k) (hu : A.units + 10 < cLine)
    (h : ∀ t tk, Q (.int (S.count k : Nat) t) { s with toks := tk })
    (hc : eval (.Call (.Attribute (.Name x p1) "count" p2) [.Name y p3] [] p4) env = (do
      let ov ← eval (.Name x p1) env
      standAt p2.atName
      let (f, first) ← holding [ov] (getMethod ov "count" pl)
      callWith p4 f first (backTo p4 (starEach [.Name y p3] env)) []) := by rfl) :
    wpAny (model prog w) A (eval (.Call (.Attribute (.Name x p1) "count" p2) [.Name y p3] [] p4) env) Q E s := by
  refine MethodCall_ (hx _ ?_) hc
  obtain ⟨vs, ⟨n, e⟩, p⟩ := id hl
  refine getMethod_list_of PySem.F.slot_list_count type_list_count ⟨_, e, rfl, n, rfl⟩ ⟨_, e, rfl⟩ (callWith_method1 (args_cons (hy _ (args_nil ?_))))
  exact count_row hl hv (by omega) h

set_option maxHeartbeats 4000000 in
/-- due = [(first.count(one), second.count(one), one) for one in _law_first(first) if first.count(one) != second.count(one)] -/
theorem due1_stmt {hb hh : Heap} {L a F0 F1 : Addr} {cd : Value} {m cm : Str → Option Value} {S T : List K2} {Q : Flow → Shared → Prop} (N : NM d mg mb) (P : PG d mg mb hb) (F : FmC hb L m (lcs L) cm hh) (hH : A.handled = none) (hroom : A.depth < recursionLimit) (hu : A.units + 30 < cLine)
    (hc0 : cm "first" = some (.ref F0)) (hc1 : cm "second" = some (.ref F1)) (r0 : Row (hideAll hh (XL L)) F0 S) (r1 : Row (hideAll hh (XL L)) F1 T) (nS : S.length ≤ 100)
    (h : ∀ h' tk D zs, FmC hb L (upd m "due" (.ref D)) (lcs L) cm h' → (hideAll h' (XL L)).PlainList D zs → Paired (TupAt (hideAll h' (XL L))) (outs1 S T S.length) zs.toList → KB [L] hh h' → Q .next { s with heap := h', toks := tk }) (hs : s.heap = hh := by rfl) :
    wpAny (model prog w) A (exec (lawS 2) (lenv L a cd)) Q NO s := by
  subst hs
  have P₀ := P.kp F.keep
  have q0 := r0.kp hide_le
  have q1 := r1.kp hide_le
  have hcl0 : s.heap.IsCell (L + 1 + 1) (some (.ref F0)) := hc0 ▸ F.cl.cell "first" (L + 1 + 1) (by rfl)
  have hcl1 : s.heap.IsCell (L + 1 + 1 + 1) (some (.ref F1)) := hc1 ▸ F.cl.cell "second" (L + 1 + 1 + 1) (by rfl)
  obtain ⟨vs, hvl, hvp⟩ := r0
  have hvp' := Paired.imp (fun _ _ q => El.kp q hide_le) hvp
  refine lc_assign (cl := [(("second" : Str), (L + 1 + 1 + 1 : Addr)), (("first" : Str), (L + 1 + 1 : Addr))]) (by rfl) (by rfl) rfl (by decide) (by decide) rfl rfl (by rfl)
    (callG P₀.first (nameG P₀.g N.first ⟨rfl, args_cons (F.ldc (c := L + 1 + 1) (by rfl) hc0 (args_nil ⟨fun _ _ e => e, ?_⟩))⟩))
  refine first_call N P₀ (fun _ _ e => e) hroom hH (by omega) (hvl.at fun o e => of_hideAll _ e) hvp' nS fun h₁ tk₁ D ys hD D0 K₁ hP => ?_
  refine wpAny_pyIter_list (by exact hD.isList) ?_
  generalize hI : (List.range S.length).filter (fst1 S) = I at hP
  have hys : ys.size = I.length := paired_size hP
  have hIl : I.length ≤ 100 := by rw [← hI]; exact Nat.le_trans (List.length_filter_le _ _) (by simpa using nS)
  obtain ⟨hsz, hel⟩ := Row.get hvp
  have Dl : D < h₁.objs.size := by obtain ⟨_, q⟩ := hD; exact Heap.lt_size q
  have up : ∀ {h : Heap}, (∀ b o, b ≠ h₁.objs.size → (h₁.push { cls := .type "list_iterator", data := .fields #[.ref D, .int 0 0] }).get? b = some o → h.get? b = some o) → Kp s.heap h := fun q b o z => q b o (Nat.ne_of_lt (Heap.lt_size (K₁ _ _ z))) (Heap.get?_push_of_some _ (K₁ _ _ z))
  have lv := law_live F
  have itL : h₁.objs.size ≠ L := Nat.ne_of_gt (Heap.lt_size (K₁ _ _ (lv L (by simp)).choose_spec))
  refine ⟨h₁.objs.size, ys.size, _, _, [h₁.objs.size, D], fun t => decide (S.count (kAt S (I.getD t default)) ≠ T.count (kAt S (I.getD t default))), fun g t y => TupF s.heap (hideAll s.heap (XL L)) g (o1 S T (I.getD t default)) y, m, rfl, Src.list (by exact hH) h₁.objs.size D (Nat.ne_of_lt Dl) ys, by omega, ⟨⟨_, Heap.get?_push_size _ rfl, rfl, rfl⟩, hD.isList.push _⟩, ?_, (F.ns.keeps K₁).push _, itL, fun _ _ _ _ k q => q.kp k, ?_, ?_⟩
  · intro b hb
    show b < (h₁.push _).objs.size
    rw [Heap.size_push]
    rcases List.mem_cons.mp hb with rfl | hb
    · exact Nat.lt_succ_self _
    · rw [List.mem_singleton.mp hb]; exact Nat.lt_succ_of_lt Dl
  · intro i v C D' h₂ tk₂ m₂ hi hV hn₂ hm₂ K₂ hC0 hD0' hDl hitl
    have Kh := up K₂
    obtain ⟨y, e1, e2⟩ := paired_at hP i (by omega)
    obtain rfl : v = y := Option.some.inj (Eq.trans (Eq.symm hV) (by simpa using e1))
    have hIi : I.getD i default = I[i] := by simp [show i < I.length by omega]
    have hmem : ∀ x ∈ I, x < S.length := by intro x hx; rw [← hI] at hx; exact List.mem_range.mp (List.mem_filter.mp hx).1
    have hIt : I[i] < S.length := hmem _ (List.getElem_mem _)
    obtain ⟨v', e3, hv'⟩ := hel I[i] hIt
    obtain rfl : v = v' := Option.some.inj (e2.symm.trans e3)
    have hv2 : El h₂ v (kAt S I[i]) := hv'.kp fun b o z => Kh _ _ (of_hideAll _ z)
    refine wpAny_tests_one (wpAny_isTrue_Compare1 (count_expr (fun Q hQ => Mine.ldC (c := L + 1 + 1) (by rfl) (hcl0.keeps Kh) hQ) (q0.kp Kh) (fun Q hQ => ldE hn₂ hm₂ hQ) hv2 (by omega) fun t₃ tk₃ => ?_))
    refine count_expr (fun Q hQ => Mine.ldC (c := L + 1 + 1 + 1) (by rfl) (hcl1.keeps Kh) hQ) (q1.kp Kh) (fun Q hQ => ldE hn₂ hm₂ hQ) hv2 (by omega) fun t₄ tk₄ => ne_int (wpAny_truthy_bool ⟨?_, h₂, _, rfl, fun _ _ e => e, fun _ => ?_⟩)
    · show _ = decide (S.count (kAt S (I.getD i default)) ≠ T.count (kAt S (I.getD i default)))
      rw [hIi]
      by_cases hq : S.count (kAt S I[i]) = T.count (kAt S I[i])
      · simp [hq]
      · have hq' : (S.count (kAt S I[i]) : Int) ≠ T.count (kAt S I[i]) := fun z => hq (by exact_mod_cast z)
        simp [hq, hq']
    · refine Tuple_ (args_cons (count_expr (fun Q hQ => Mine.ldC (c := L + 1 + 1) (by rfl) (hcl0.keeps Kh) hQ) (q0.kp Kh) (fun Q hQ => ldE hn₂ hm₂ hQ) hv2 (by omega) fun t₅ tk₅ => ?_))
      refine args_cons (count_expr (fun Q hQ => Mine.ldC (c := L + 1 + 1 + 1) (by rfl) (hcl1.keeps Kh) hQ) (q1.kp Kh) (fun Q hQ => ldE hn₂ hm₂ hQ) hv2 (by omega) fun t₆ tk₆ => ?_)
      refine args_cons (ldE hn₂ hm₂ (args_nil (wpAny_newTuple ?_)))
      obtain ⟨oa, z1⟩ := hDl
      obtain ⟨ob, z2⟩ := hitl
      obtain ⟨oc, z3⟩ := lv L (by simp)
      have off : h₂.objs.size ∉ [C, D', h₁.objs.size, L] := mem_four.mpr ⟨Ne.symm (Nat.ne_of_lt hn₂.lt), Ne.symm (Nat.ne_of_lt (Heap.lt_size z1)), Ne.symm (Nat.ne_of_lt (Heap.lt_size z2)), Ne.symm (Nat.ne_of_lt (Heap.lt_size (Kh _ _ z3)))⟩
      refine ⟨_, _, hideAll (h₂.push { cls := .type "tuple", data := .seq #[.int (S.count (kAt S I[i]) : Nat) t₅, .int (T.count (kAt S I[i]) : Nat) t₆, v] }) [C, D', h₁.objs.size, L], rfl, fun _ _ e => Heap.get?_push_of_some _ e, hide_le, hide_off, ?_⟩
      show TupF _ _ _ (o1 S T (I.getD i default)) _
      rw [hIi]
      exact ⟨_, v, t₅, t₆, rfl, hideAll_get _ (Heap.get?_push_size _ rfl) off, hv', ghost_none Kh (get_none (Nat.le_refl _))⟩
  · intro D' h₂ tk₂ zs g hD' hlD hnD K₂ Kg gD git gL hPz
    have K : KB [L] s.heap h₂ := fun b o hb q => K₂ b o (Nat.ne_of_lt (Heap.lt_size (K₁ _ _ q))) (mem_one.mp hb) (Heap.get?_push_of_some _ (K₁ _ _ q))
    have hD0' : s.heap.get? D' = none := ghost_none K₁ (ghost_none (fun b o e => Heap.get?_push_of_some _ e) hD')
    have KG : Kp (hideAll s.heap (XL L)) (hideAll h₂ (XL L)) := hide_mono (kb_sub K (by intro b hb; rw [List.mem_singleton.mp hb]; simp))
    refine h h₂ _ D' zs (F.moved hnD K) (hlD.at fun o q => hideAll_get _ q fun hm => by obtain ⟨o', z⟩ := lv _ hm; rw [hD0'] at z; cases z) ?_ K
    have e : outs1 S T S.length = ((List.range ys.size).filter fun t => decide (S.count (kAt S (I.getD t default)) ≠ T.count (kAt S (I.getD t default)))).map fun t => o1 S T (I.getD t default) := by
      rw [hys]
      have := congrArg (List.map (o1 S T)) (idx_filter I fun t => decide (S.count (kAt S t) ≠ T.count (kAt S t)))
      rw [List.map_map] at this
      refine Eq.trans ?_ this.symm
      unfold outs1
      rw [← hI, List.filter_filter]
      congr 1
      refine List.filter_congr fun t _ => ?_
      unfold p1
      exact Bool.and_comm _ _
    rw [e]
    exact paired_map (F := TupAt (hideAll h₂ (XL L))) (Paired.imp (fun _ _ q => TupF.hide (q.kp Kg) KG lv) hPz)
end
end Mine

namespace Mine
open PySem PySem.W PyProof.Rows PySem.Calls PySem.SeqAt

theorem paired_append {α β : Type} {F : α → β → Prop} : ∀ {l₁ l₂ : List α} {m₁ m₂ : List β}, Paired F l₁ m₁ → Paired F l₂ m₂ → Paired F (l₁ ++ l₂) (m₁ ++ m₂)
  | _, _, _, _, .nil, q => q
  | _, _, _, _, .cons a r, q => .cons a (paired_append r q)

section
variable {prog : Program} {w : World} {A : Around} {E : Value → Shared → Prop} {s : Shared} {env : Env} {mg mb : Str → Option Value} {d : Ad}

set_option maxHeartbeats 4000000 in
/-- due = due + [(0, second.count(one), one) for one in _law_first(second) if one not in first] -/
theorem due2_stmt {hb hh : Heap} {L a F0 F1 D₁ : Addr} {cd : Value} {m cm : Str → Option Value} {S T : List K2} {dz : Array Value} {O : List O3} {Q : Flow → Shared → Prop} (N : NM d mg mb) (P : PG d mg mb hb) (F : FmC hb L m (lcs L) cm hh) (hH : A.handled = none) (hroom : A.depth < recursionLimit) (hu : A.units + 30 < cLine)
    (hc0 : cm "first" = some (.ref F0)) (hc1 : cm "second" = some (.ref F1)) (r0 : Row (hideAll hh (XL L)) F0 S) (r1 : Row (hideAll hh (XL L)) F1 T) (nT : T.length ≤ 100)
    (hm : m "due" = some (.ref D₁)) (hd : (hideAll hh (XL L)).PlainList D₁ dz) (hO : Paired (TupAt (hideAll hh (XL L))) O dz.toList) (hOl : O.length ≤ 100)
    (h : ∀ h' tk D zs, FmC hb L (upd m "due" (.ref D)) (lcs L) cm h' → (hideAll h' (XL L)).PlainList D zs → Paired (TupAt (hideAll h' (XL L))) (O ++ outs2 S T T.length) zs.toList → KB [L] hh h' → Q .next { s with heap := h', toks := tk }) (hs : s.heap = hh := by rfl) :
    wpAny (model prog w) A (exec (lawS 3) (lenv L a cd)) Q NO s := by
  subst hs
  have P₀ := P.kp F.keep
  have q0 := r0.kp hide_le
  have q1 := r1.kp hide_le
  have hcl0 : s.heap.IsCell (L + 1 + 1) (some (.ref F0)) := hc0 ▸ F.cl.cell "first" (L + 1 + 1) (by rfl)
  have hcl1 : s.heap.IsCell (L + 1 + 1 + 1) (some (.ref F1)) := hc1 ▸ F.cl.cell "second" (L + 1 + 1 + 1) (by rfl)
  obtain ⟨vs, hvl, hvp⟩ := r1
  have hvp' := Paired.imp (fun _ _ q => El.kp q hide_le) hvp
  refine wpAny_Assign_Name (wpAny_BinOp (F.ld hm ?_))
  refine lc_eval (cl := [(("second" : Str), (L + 1 + 1 + 1 : Addr)), (("first" : Str), (L + 1 + 1 : Addr))]) (by rfl) rfl (by decide) (by decide) rfl
    (callG P₀.first (nameG P₀.g N.first ⟨rfl, args_cons (F.ldc (c := L + 1 + 1 + 1) (by rfl) hc1 (args_nil ⟨fun _ _ e => e, ?_⟩))⟩))
  refine first_call N P₀ (fun _ _ e => e) hroom hH (by omega) (hvl.at fun o e => of_hideAll _ e) hvp' nT fun h₁ tk₁ D ys hD D0 K₁ hP => ?_
  refine wpAny_pyIter_list (by exact hD.isList) ?_
  generalize hI : (List.range T.length).filter (fst1 T) = I at hP
  have hys : ys.size = I.length := paired_size hP
  have hIl : I.length ≤ 100 := by rw [← hI]; exact Nat.le_trans (List.length_filter_le _ _) (by simpa using nT)
  obtain ⟨hsz, hel⟩ := Row.get hvp
  have Dl : D < h₁.objs.size := by obtain ⟨_, q⟩ := hD; exact Heap.lt_size q
  have up : ∀ {h : Heap}, (∀ b o, b ≠ h₁.objs.size → (h₁.push { cls := .type "list_iterator", data := .fields #[.ref D, .int 0 0] }).get? b = some o → h.get? b = some o) → Kp s.heap h := fun q b o z => q b o (Nat.ne_of_lt (Heap.lt_size (K₁ _ _ z))) (Heap.get?_push_of_some _ (K₁ _ _ z))
  have lv := law_live F
  refine ⟨h₁.objs.size, ys.size, _, _, [h₁.objs.size, D], fun t => decide (kAt T (I.getD t default) ∉ S), fun g t y => TupF s.heap (hideAll s.heap (XL L)) g (o2 T (I.getD t default)) y, rfl, Src.list (by exact hH) h₁.objs.size D (Nat.ne_of_lt Dl) ys, by omega, ⟨⟨_, Heap.get?_push_size _ rfl, rfl, rfl⟩, hD.isList.push _⟩, ?_, fun _ _ _ _ k q => q.kp k, ?_, ?_⟩
  · intro b hb
    show b < (h₁.push _).objs.size
    rw [Heap.size_push]
    rcases List.mem_cons.mp hb with rfl | hb
    · exact Nat.lt_succ_self _
    · rw [List.mem_singleton.mp hb]; exact Nat.lt_succ_of_lt Dl
  · intro i v C D' h₂ tk₂ m₂ hi hV hn₂ hm₂ K₂ hC0 hD0' hDl hitl
    have Kh := up K₂
    obtain ⟨y, e1, e2⟩ := paired_at hP i (by omega)
    obtain rfl : v = y := Option.some.inj (Eq.trans (Eq.symm hV) (by simpa using e1))
    have hIi : I.getD i default = I[i] := by simp [show i < I.length by omega]
    have hmem : ∀ x ∈ I, x < T.length := by intro x hx; rw [← hI] at hx; exact List.mem_range.mp (List.mem_filter.mp hx).1
    have hIt : I[i] < T.length := hmem _ (List.getElem_mem _)
    obtain ⟨v', e3, hv'⟩ := hel I[i] hIt
    obtain rfl : v = v' := Option.some.inj (e2.symm.trans e3)
    have hv2 : El h₂ v (kAt T I[i]) := hv'.kp fun b o z => Kh _ _ (of_hideAll _ z)
    refine wpAny_tests_one (wpAny_isTrue_Compare1 (ldE hn₂ hm₂ (Mine.ldC (c := L + 1 + 1) (by rfl) (hcl0.keeps Kh) (notIn_row (q0.kp Kh) hv2 (by omega) (wpAny_truthy_bool ⟨?_, h₂, _, rfl, fun _ _ e => e, fun _ => ?_⟩)))))
    · show _ = decide (kAt T (I.getD i default) ∉ S)
      rw [hIi]
      by_cases hq : kAt T I[i] ∈ S <;> simp [hq]
    · refine Tuple_ (args_cons (wpAny_Constant_int ?_))
      refine args_cons (count_expr (fun Q hQ => Mine.ldC (c := L + 1 + 1 + 1) (by rfl) (hcl1.keeps Kh) hQ) (q1.kp Kh) (fun Q hQ => ldE hn₂ hm₂ hQ) hv2 (by omega) fun t₆ tk₆ => ?_)
      refine args_cons (ldE hn₂ hm₂ (args_nil (wpAny_newTuple ?_)))
      obtain ⟨oa, z1⟩ := hDl
      obtain ⟨ob, z2⟩ := hitl
      have off : h₂.objs.size ∉ [C, D', h₁.objs.size] := mem_three.mpr ⟨Ne.symm (Nat.ne_of_lt hn₂.lt), Ne.symm (Nat.ne_of_lt (Heap.lt_size z1)), Ne.symm (Nat.ne_of_lt (Heap.lt_size z2))⟩
      refine ⟨_, _, hideAll (h₂.push { cls := .type "tuple", data := .seq #[.int 0 tk₂, .int (T.count (kAt T I[i]) : Nat) t₆, v] }) [C, D', h₁.objs.size], rfl, fun _ _ e => Heap.get?_push_of_some _ e, hide_le, hide_off, ?_⟩
      show TupF _ _ _ (o2 T (I.getD i default)) _
      rw [hIi]
      exact ⟨_, v, tk₂, t₆, rfl, hideAll_get _ (Heap.get?_push_size _ rfl) off, hv', ghost_none Kh (get_none (Nat.le_refl _))⟩
  · intro D' h₂ tk₂ zs g hD' hlD K₂ Kg gD git hPz
    have K : Kp s.heap h₂ := up K₂
    have hD0' : s.heap.get? D' = none := ghost_none K₁ (ghost_none (fun b o e => Heap.get?_push_of_some _ e) hD')
    have KG : Kp (hideAll s.heap (XL L)) (hideAll h₂ (XL L)) := hide_mono fun b o _ q => K b o q
    have e : outs2 S T T.length = ((List.range ys.size).filter fun t => decide (kAt T (I.getD t default) ∉ S)).map fun t => o2 T (I.getD t default) := by
      rw [hys]
      have := congrArg (List.map (o2 T)) (idx_filter I fun t => decide (kAt T t ∉ S))
      rw [List.map_map] at this
      refine Eq.trans ?_ this.symm
      unfold outs2
      rw [← hI, List.filter_filter]
      congr 1
      refine List.filter_congr fun t _ => ?_
      unfold p2
      exact Bool.and_comm _ _
    have hPz' : Paired (TupAt (hideAll h₂ (XL L))) (outs2 S T T.length) zs.toList := by
      rw [e]
      exact paired_map (F := TupAt (hideAll h₂ (XL L))) (Paired.imp (fun _ _ q => TupF.hide (q.kp Kg) KG lv) hPz)
    have hzl : zs.size ≤ 100 := by rw [paired_size hPz']; exact Nat.le_trans (outs2_le S T _) nT
    have hdl : dz.size ≤ 100 := by rw [paired_size hO]; exact hOl
    obtain ⟨n1, hd1⟩ := hd
    obtain ⟨n2, hd2⟩ := hlD
    refine PySem.P.add_list (n := n1) (n2 := n2) (items := dz) (items2 := zs) (K _ _ (of_hideAll _ hd1)) hd2 ?_ (by rw [sizeLine_eq]; omega)
    have F₂ := F.kp (h' := h₂.push { cls := .type "list", data := .seq (dz ++ zs) }) fun b o q => Heap.get?_push_of_some _ (K b o q)
    have KG₂ : Kp (hideAll h₂ (XL L)) (hideAll (h₂.push { cls := .type "list", data := .seq (dz ++ zs) }) (XL L)) := hide_mono fun b o _ q => Heap.get?_push_of_some _ q
    refine F₂.st fun h₃ F₃ s₃ => ?_
    have K₂₃ : KB [L] (h₂.push { cls := .type "list", data := .seq (dz ++ zs) }) h₃ := fun b o hb q => s₃.extBut b o (mem_one.mp hb) q
    have KG₃ : Kp (hideAll h₂ (XL L)) (hideAll h₃ (XL L)) := fun b o q => hide_mono (kb_sub K₂₃ (by intro b hb; rw [List.mem_singleton.mp hb]; simp)) _ _ (KG₂ b o q)
    have off : h₂.objs.size ∉ XL L := fun hm => by
      obtain ⟨o', z⟩ := lv _ hm
      exact absurd (Heap.lt_size (K _ _ z)) (Nat.lt_irrefl _)
    refine h h₃ _ h₂.objs.size (dz ++ zs) F₃ ⟨0, hideAll_get _ (s₃.extBut _ _ (fun q => off (by rw [q]; simp)) (Heap.get?_push_size _ rfl)) off⟩ ?_ fun b o hb q => K₂₃ b o hb (Heap.get?_push_of_some _ (K b o q))
    rw [Array.toList_append]
    exact paired_append (Paired.imp (fun _ _ q => q.kp fun b o z => KG₃ _ _ (KG b o z)) hO) (Paired.imp (fun _ _ q => q.kp KG₃) hPz')
end
end Mine

namespace Mine
open PySem PySem.W PyProof.Rows PySem.Calls PySem.SeqAt

/-- what is asked of tuple(x), x a Mismatch -/
def TupOk (prog : Program) (w : World) (A : Around) (C : Addr) (g : Heap) : Prop :=
  ∀ (s : Shared) (M : Addr) (a b : Int) (ta tb : Tok) (e : Addr) (dd : Option Addr) (Q : Value → Shared → Prop), Kp g s.heap → s.gens = #[] → s.heap.get? M = some ({ cls := .ref C, dict := dd, data := .seq #[.int a ta, .int b tb, .ref e] } : Obj) →
    (∀ h' Ta tk, h'.get? Ta = some ({ cls := .type "tuple", data := .seq #[.int a ta, .int b tb, .ref e] } : Obj) → Kp s.heap h' → s.heap.get? Ta = none → Q (.ref Ta) { s with heap := h', toks := tk }) →
    wpAny (model prog w) A (PySem.call (.type "tuple") [.ref M]) Q NO s

def od (o : O3) : PyData := .tuple [.int o.1, .int o.2.1, pd o.2.2]
theorem od_lay (o : O3) : (od o).canLay0 = true := by simp [od, PyData.canLay0, PyData.canLayAll0, pd_lay]
theorem od_depth (o : O3) : (od o).depth = 2 := by simp [od, PyData.depth, PyData.depthAll, pd_depth]
theorem od_lay_all : ∀ l : List O3, PyData.canLayAll0 (l.map od) = true
  | [] => by simp [PyData.canLayAll0]
  | o :: l => by simp [PyData.canLayAll0, od_lay, od_lay_all l]
theorem od_depth_all : ∀ l : List O3, PyData.depthAll (l.map od) ≤ 2
  | [] => by simp [PyData.depthAll]
  | o :: l => by simp [PyData.depthAll, od_depth, od_depth_all l]
theorem TupAt.reads {h : Heap} {o : O3} {v : Value} (x : TupAt h o v) : ∃ as, Reads h v (od o) as := by
  obtain ⟨M, e, t1, t2, rfl, g, a, as, rfl, r⟩ := x
  exact ⟨_, .tuple g rfl rfl (.cons (.int _ _) (.cons (.int _ _) (.cons r .nil)))⟩
theorem outs_reads {h : Heap} {D : Addr} {zs : Array Value} {O : List O3} (hl : h.PlainList D zs) (p : Paired (TupAt h) O zs.toList) : ∃ as, Reads h (.ref D) (.list (O.map od)) as := by
  obtain ⟨as, r⟩ := reads_all (f := od) (Paired.imp (fun _ _ q => TupAt.reads q) p)
  obtain ⟨n, e⟩ := hl
  exact ⟨_, .list e rfl rfl r⟩
theorem rows_reads {h : Heap} {R D0 D1 : Addr} {S T : List K2} (hl : h.PlainList R #[.ref D0, .ref D1]) (r0 : Row h D0 S) (r1 : Row h D1 T) : ∃ as, Reads h (.ref R) (.list [.list (S.map pd), .list (T.map pd)]) as := by
  obtain ⟨as, q0⟩ := r0.reads
  obtain ⟨bs, q1⟩ := r1.reads
  obtain ⟨n, e⟩ := hl
  exact ⟨_, .list e rfl rfl (.cons q0 (.cons q1 .nil))⟩

section
variable {prog : Program} {w : World} {A : Around} {E : Value → Shared → Prop} {s : Shared} {env : Env} {mg mb : Str → Option Value} {d : Ad}

theorem ne_same {a b : Value} {x : PyData} {as bs : List Addr} {Q : Value → Shared → Prop} (ra : Reads s.heap a x as) (rb : Reads s.heap b x bs) (hx : x.canLay0 = true) (hu : A.units + x.depth < cLine) (h : Q (.bool false) s) : wpAny (model prog w) A (compareOp .NotEq a b) Q E s :=
  compareNe_reads ra rb hx hx (by rw [Nat.min_self]; exact hu) (by rw [eqv_refl x hx]; exact h)

set_option maxHeartbeats 4000000 in
/-- if [tuple(one) for one in _count_diff_all_purpose(rows[0], rows[1])] != due or rows != [first, second]: return False -/
theorem check_stmt {hb hh : Heap} {L a F0 F1 R D0 D1 D₁ : Addr} {cd : Value} {m cm : Str → Option Value} {S T : List K2} {dz : Array Value} {Q : Flow → Shared → Prop} (N : NM d mg mb) (P : PG d mg mb hb) (F : FmC hb L m (lcs L) cm hh) (hH : A.handled = none) (hroom : A.depth < recursionLimit) (hu : A.units + 40 < cLine) (hg : s.gens = #[])
    (hmis : ∀ env, MisOk prog w (A.deeper env) d.mis hb) (htup : TupOk prog w A d.mis hb)
    (hc0 : cm "first" = some (.ref F0)) (hc1 : cm "second" = some (.ref F1)) (r0 : Row (hideAll hh (XL L)) F0 S) (r1 : Row (hideAll hh (XL L)) F1 T) (nS : S.length ≤ 100) (nT : T.length ≤ 100)
    (hmr : m "rows" = some (.ref R)) (hR : (hideAll hh (XL L)).PlainList R #[.ref D0, .ref D1]) (q0 : Row (hideAll hh (XL L)) D0 S) (q1 : Row (hideAll hh (XL L)) D1 T)
    (hm : m "due" = some (.ref D₁)) (hd : (hideAll hh (XL L)).PlainList D₁ dz) (hO : Paired (TupAt (hideAll hh (XL L))) (outs1 S T S.length ++ outs2 S T T.length) dz.toList)
    (h : ∀ h' tk, Kp hh h' → Q .next { s with heap := h', toks := tk }) (hs : s.heap = hh := by rfl) :
    wpAny (model prog w) A (exec (lawS 4) (lenv L a cd)) Q NO s := by
  subst hs
  have P₀ := P.kp F.keep
  have r0 := r0.kp hide_le
  have r1 := r1.kp hide_le
  have q0 := q0.kp hide_le
  have q1 := q1.kp hide_le
  replace hR : s.heap.PlainList R #[.ref D0, .ref D1] := hR.at fun o e => of_hideAll _ e
  replace hd : s.heap.PlainList D₁ dz := hd.at fun o e => of_hideAll _ e
  replace hO := Paired.imp (fun _ _ q => TupAt.kp q hide_le) hO
  obtain ⟨vs, va, vp⟩ := id q0
  obtain ⟨ws, wa, wp⟩ := id q1
  obtain ⟨v1, v2⟩ := Row.get vp
  obtain ⟨w1, w2⟩ := Row.get wp
  refine wpAny_If (isTrue_Or2 (wpAny_isTrue_Compare1 ?_))
  refine lc_eval (cl := []) (closureFor_none (by decide)) rfl (by decide) (by decide) rfl
    (callG P₀.count (nameG P₀.g N.count ⟨rfl, args_cons (Subscript_ (F.ld hmr (wpAny_Constant_int (item_list hR.isList (by decide) (by decide) (x := .ref D0) rfl ?_))))⟩))
  refine args_cons (Subscript_ (F.ld hmr (wpAny_Constant_int (item_list hR.isList (by decide) (by decide) (x := .ref D1) rfl (args_nil ⟨fun _ _ e => e, ?_⟩)))))
  refine count_call N P F.keep (by exact hroom) hH (by omega) (by exact hg) hmis va.isList v1 v2 wa.isList w1 w2 nS nT fun h₁ tk₁ D ys hD D0' K₁ hP => ?_
  refine wpAny_pyIter_list (by exact hD.isList) ?_
  generalize hO' : outs1 S T S.length ++ outs2 S T T.length = O at hP hO
  have hOl : O.length ≤ 200 := by rw [← hO', List.length_append]; have := outs1_le S T S.length; have := outs2_le S T T.length; omega
  have hys : ys.size = O.length := paired_size hP
  have Dl : D < h₁.objs.size := by obtain ⟨_, q⟩ := hD; exact Heap.lt_size q
  have upp : ∀ {h : Heap}, (∀ b o, b ≠ h₁.objs.size → (h₁.push { cls := .type "list_iterator", data := .fields #[.ref D, .int 0 0] }).get? b = some o → h.get? b = some o) → Kp h₁ h := fun q b o z => q b o (Nat.ne_of_lt (Heap.lt_size z)) (Heap.get?_push_of_some _ z)
  refine ⟨h₁.objs.size, ys.size, _, _, [h₁.objs.size, D], fun _ => true, fun g t y => TupF s.heap h₁ g (O.getD t default) y, rfl, Src.list (by exact hH) h₁.objs.size D (Nat.ne_of_lt Dl) ys, by omega, ⟨⟨_, Heap.get?_push_size _ rfl, rfl, rfl⟩, hD.isList.push _⟩, ?_, fun _ _ _ _ k q => q.kp k, ?_, ?_⟩
  · intro b hb
    show b < (h₁.push _).objs.size
    rw [Heap.size_push]
    rcases List.mem_cons.mp hb with rfl | hb
    · exact Nat.lt_succ_self _
    · rw [List.mem_singleton.mp hb]; exact Nat.lt_succ_of_lt Dl
  · intro i v C D' h₂ tk₂ m₂ hi hV hn₂ hm₂ K₂ hC0 hD0'' hDl hitl
    have K₁₂ := upp K₂
    have Kh : Kp s.heap h₂ := fun b o z => K₁₂ _ _ (K₁ _ _ z)
    have P₂ := P.kp fun b o z => Kh _ _ (F.keep _ _ z)
    obtain ⟨y, e1, e2⟩ := paired_at hP i (by omega)
    obtain rfl : v = y := Option.some.inj (Eq.trans (Eq.symm hV) (by simpa using e1))
    have hOi : O.getD i default = O[i] := by simp [show i < O.length by omega]
    obtain ⟨M, e, t1, t2, dd, rfl, hM, a', as, rfl, hel⟩ := e2
    refine wpAny_tests_nil ⟨rfl, h₂, tk₂, rfl, fun _ _ e => e, fun _ => ?_⟩
    refine callT (nameB P₂.g N.tuple.1 P₂.b N.tuple.2 ⟨rfl, ldE hn₂ hm₂ (htup _ M _ _ t1 t2 a' dd _ (fun b o z => Kh _ _ (F.keep _ _ z)) (by exact hg) (K₁₂ _ _ hM) fun h₃ Ta tk₃ hT K₃ hT0 => ?_)⟩)
    replace K₃ : Kp h₂ h₃ := K₃
    replace hT0 : h₂.get? Ta = none := hT0
    obtain ⟨oa, z1⟩ := hDl
    obtain ⟨ob, z2⟩ := hitl
    have off : Ta ∉ [C, D', h₁.objs.size] := mem_three.mpr ⟨ne_ns hT0 hn₂, ne_get hT0 z1, ne_get hT0 z2⟩
    refine ⟨_, _, hideAll h₃ [C, D', h₁.objs.size], rfl, K₃, hide_le, hide_off, ?_⟩
    show TupF _ _ _ (O.getD i default) _
    rw [hOi]
    exact ⟨Ta, _, t1, t2, rfl, hideAll_get _ hT off, ⟨a', as, rfl, hel⟩, ghost_none Kh hT0⟩
  · intro D' h₂ tk₂ zs g hD' hlD K₂ Kg gD git hPz
    have K₁₂ := upp K₂
    have Kh : Kp s.heap h₂ := fun b o z => K₁₂ _ _ (K₁ _ _ z)
    have hPz' : Paired (TupAt h₂) O zs.toList := by
      have e2 : (List.range ys.size).filter (fun _ => true) = List.range ys.size := List.filter_eq_self.mpr fun _ _ => rfl
      rw [e2, hys] at hPz
      have e3 : (List.range O.length).map (fun t => O.getD t default) = O := by
        apply List.ext_getElem
        · simp
        · intro t h1 h2
          simp [h2]
      rw [← e3]
      exact paired_map (F := TupAt h₂) (Paired.imp (fun _ _ q => by
        obtain ⟨M, e, t1, t2, a, b, c, _⟩ := q.kp Kg
        exact ⟨M, e, t1, t2, a, b, c.kp K₁₂⟩) hPz)
    obtain ⟨as, ra⟩ := outs_reads hlD hPz'
    obtain ⟨bs, rb⟩ := outs_reads (hd.at fun o z => Kh _ o z) (Paired.imp (fun _ _ q => TupAt.kp q Kh) hO)
    have F₂ := F.kp Kh
    refine F₂.ld hm (ne_same ra rb (od_lay_all O) ?_ (wpAny_truthy_bool ?_))
    · have := od_depth_all O
      show A.units + (PyData.depthAll (O.map od) + 1) < cLine
      omega
    rw [if_neg (by decide)]
    refine wpAny_isTrue_Compare1 (F₂.ld hmr (wpAny_List (args_cons (F₂.ldc (c := L + 1 + 1) (by rfl) hc0 (args_cons (F₂.ldc (c := L + 1 + 1 + 1) (by rfl) hc1 (args_nil ⟨by rw [sizeLine_eq]; show 2 ≤ _; omega, ?_⟩)))))))
    have K₃ : Kp h₂ (h₂.push { cls := .type "list", data := .seq ([Value.ref F0, Value.ref F1] : List Value).toArray }) := fun b o e => Heap.get?_push_of_some _ e
    have Kh₃ : Kp s.heap (h₂.push { cls := .type "list", data := .seq ([Value.ref F0, Value.ref F1] : List Value).toArray }) := fun b o e => K₃ _ _ (Kh _ _ e)
    obtain ⟨cs, rc⟩ := rows_reads (hR.at fun o z => Kh₃ _ o z) (q0.kp Kh₃) (q1.kp Kh₃)
    obtain ⟨es, re⟩ := rows_reads (R := h₂.objs.size) (h := h₂.push { cls := .type "list", data := .seq ([Value.ref F0, Value.ref F1] : List Value).toArray }) ⟨0, Heap.get?_push_size _ rfl⟩ (r0.kp Kh₃) (r1.kp Kh₃)
    refine ne_same rc re ?_ ?_ (wpAny_truthy_bool ?_)
    · simp [PyData.canLay0, PyData.canLayAll0, lay_all]
    · have := depth_all S
      have := depth_all T
      show A.units + (PyData.depthAll [.list (S.map pd), .list (T.map pd)] + 1) < cLine
      simp only [PyData.depthAll, PyData.depth]
      omega
    rw [if_neg (by decide)]
    refine wpAny_execs_nil ?_
    exact h _ _ Kh₃
end
end Mine

namespace Mine
open PySem PySem.W PyProof.Rows PySem.Calls PySem.SeqAt

theorem str_ext {x y : Str} (h : x.cps.toList = y.cps.toList) : x = y := by
  obtain ⟨a⟩ := x
  obtain ⟨b⟩ := y
  have : a = b := Array.toList_inj.mp h
  rw [this]
theorem tol_app (a b : Str) : (a ++ b).cps.toList = a.cps.toList ++ b.cps.toList := by rw [Str.cps_append, Array.toList_append]
theorem slice_to_list {x : Str} {k : Nat} (h : k ≤ x.cps.toList.length) : (Txt.slice x none (some (k : Int))).cps.toList = x.cps.toList.take k := by
  have := eq_of_beq (slice_closes_to (x := x) (j := (k : Int)) ⟨by omega, by omega⟩)
  rw [this]
  simp
theorem slice_from_list {x : Str} {k : Nat} (h : k ≤ x.cps.toList.length) : (Txt.slice x (some (k : Int)) none).cps.toList = x.cps.toList.drop k := by
  have hl : x.length = x.cps.toList.length := by simp [Str.length]
  rw [slice_from_eq (x := x) (i := (k : Int)) (b := x.length) (by omega) (by rw [hl]; omega) rfl]
  simp only [List.toList_toArray, Int.toNat_natCast]
  rw [List.take_of_length_le]
  rw [List.length_drop, hl]
  omega

/-- the text of n letters -/
def tx (n : Nat) : Str := Txt.mul "a" n
theorem tx_list (n : Nat) : (tx n).cps.toList = List.replicate n 97 := by
  have e : Str.ofString "a" = ⟨#[97]⟩ := by rfl
  unfold tx
  rw [e, mul_one_list]
  rfl
theorem sign_quote : (Str.ofString "'").cps.toList = [39] := by rfl

theorem repr_sign : ∀ c ∈ [97, 98, 99, 100], Builtin.Str.reprChar 39 c = [c] := by decide +kernel
theorem repr_fold : ∀ (l : List Nat) (acc : Array Nat), (∀ c ∈ l, c ∈ [97, 98, 99, 100]) → (l.foldl (fun out c => out ++ (Builtin.Str.reprChar 39 c).toArray) acc).toList = acc.toList ++ l
  | [], acc, _ => by simp
  | c :: r, acc, h => by
    rw [List.foldl_cons, repr_fold r _ fun d hd => h d (List.mem_cons_of_mem _ hd), repr_sign c (h c (List.mem_cons_self ..))]
    simp
/-- a text of the letters a, b, c, d is written between two quotes -/
theorem repr_plain {x : Str} (h : ∀ c ∈ x.cps.toList, c ∈ [97, 98, 99, 100]) : (reprText x).cps.toList = 39 :: x.cps.toList ++ [39] := by
  have hq : reprQuote x = 39 := by
    unfold reprQuote
    have : x.cps.contains 39 = false := by
      rw [← Array.contains_toList]
      cases e : x.cps.toList.contains 39 with
      | false => rfl
      | true => exact absurd (h 39 (List.contains_iff_mem.mp e)) (by decide)
    rw [this]; rfl
  unfold reprText
  rw [hq]
  show (Array.push (x.cps.foldl (fun out c => out ++ (Builtin.Str.reprChar 39 c).toArray) #[39]) 39).toList = _
  rw [Array.toList_push, ← Array.foldl_toList, repr_fold _ _ h]
  simp

def rb (n : Nat) : Str := reprText (tx n ++ "b")
def rc (n : Nat) : Str := reprText (tx n ++ "cd")
def wr (n : Nat) : Str := Str.ofString "'" ++ tx n ++ Str.ofString "'"
def ahead (n : Nat) : Str := Str.ofString "'aaaa[" ++ Str.ofString (toString ((n : Int) - 64)) ++ Str.ofString " chars]" ++ Txt.mul "a" 60

theorem tx_repr (n : Nat) : reprText (tx n) = wr n := by
  apply str_ext
  rw [repr_plain (by rw [tx_list]; intro c hc; rw [List.eq_of_mem_replicate hc]; simp)]
  unfold wr
  rw [tol_app, tol_app, sign_quote]
  rfl
theorem rb_list (n : Nat) : (rb n).cps.toList = (39 :: List.replicate n 97) ++ [98, 39] := by
  unfold rb
  have e : (tx n ++ Str.ofString "b").cps.toList = List.replicate n 97 ++ [98] := by rw [tol_app, tx_list]; rfl
  rw [repr_plain (by rw [e]; intro c hc; rcases List.mem_append.mp hc with q | q; rw [List.eq_of_mem_replicate q]; simp; rw [List.mem_singleton.mp q]; simp), e]
  simp
theorem rc_list (n : Nat) : (rc n).cps.toList = (39 :: List.replicate n 97) ++ [99, 100, 39] := by
  unfold rc
  have e : (tx n ++ Str.ofString "cd").cps.toList = List.replicate n 97 ++ [99, 100] := by rw [tol_app, tx_list]; rfl
  rw [repr_plain (by
    rw [e]; intro c hc; rcases List.mem_append.mp hc with q | q
    · rw [List.eq_of_mem_replicate q]; simp
    · simp only [List.mem_cons, List.not_mem_nil, or_false] at q
      rcases q with rfl | rfl <;> simp), e]
  simp
theorem rb_eq (n : Nat) : rb n = Str.ofString "'" ++ tx n ++ Str.ofString "b'" := by
  apply str_ext
  rw [rb_list, tol_app, tol_app, sign_quote, tx_list]
  rfl
theorem rc_eq (n : Nat) : rc n = Str.ofString "'" ++ tx n ++ Str.ofString "cd'" := by
  apply str_ext
  rw [rc_list, tol_app, tol_app, sign_quote, tx_list]
  rfl
theorem len_of {x : Str} : x.length = x.cps.toList.length := by simp [Str.length]
theorem wr_len (n : Nat) : (wr n).length = n + 2 := by
  rw [len_of]
  unfold wr
  rw [tol_app, tol_app, sign_quote, tx_list]
  simp
theorem rb_len (n : Nat) : (rb n).length = n + 3 := by rw [len_of, rb_list]; simp
theorem rc_len (n : Nat) : (rc n).length = n + 4 := by rw [len_of, rc_list]; simp

theorem lex_part {P : List Nat} {a b : Nat} {s t : List Nat} (h : a < b) : P ++ a :: s < P ++ b :: t ∧ ¬ (P ++ b :: t < P ++ a :: s) := by
  induction P with
  | nil =>
    refine ⟨List.Lex.rel h, fun q => ?_⟩
    cases q with
    | cons q => exact absurd h (Nat.lt_irrefl _)
    | rel q => exact absurd (Nat.lt_trans h q) (Nat.lt_irrefl _)
  | cons x P ih =>
    refine ⟨List.Lex.cons ih.1, fun q => ?_⟩
    cases q with
    | cons q => exact ih.2 q
    | rel q => exact absurd q (Nat.lt_irrefl _)

theorem part_bc {n : Nat} (hn : n < 150) : Part (rb n) (rc n) (n + 1) := by
  have g : ∀ (x : Str) (i : Nat), x.cps[i]? = x.cps.toList[i]? := fun x i => by simp
  have sz : ∀ x : Str, x.cps.size = x.cps.toList.length := fun x => by simp
  have lP : (39 :: List.replicate n 97).length = n + 1 := by simp
  refine ⟨?_, fun i hi => ?_, ?_, ?_, ?_, ?_, ?_, ?_, ?_⟩
  · rw [← Array.all_toList, rb_list, List.all_eq_true]
    intro c hc
    rcases List.mem_append.mp hc with q | q
    · rcases List.mem_cons.mp q with rfl | q
      · rfl
      · rw [List.eq_of_mem_replicate q]; rfl
    · simp only [List.mem_cons, List.not_mem_nil, or_false] at q
      rcases q with rfl | rfl <;> rfl
  · rw [g, g, rb_list, rc_list, List.getElem?_append_left (by omega), List.getElem?_append_left (by omega)]
  · rw [g, g, rb_list, rc_list, List.getElem?_append_right (by omega), List.getElem?_append_right (by omega), lP]
    simp
  · rw [sz, rb_list, List.length_append, lP]; simp
  · rw [sz, rc_list, List.length_append, lP]; simp
  · rw [sz, rb_list, List.length_append, lP]; simp; omega
  · rw [sz, rc_list, List.length_append, lP]; simp; omega
  · rw [rb_list, rc_list]; exact (lex_part (by decide)).1
  · rw [rb_list, rc_list]; exact (lex_part (by decide)).2

theorem pre_list (n : Nat) : (Txt.slice (rb n) none (some ((n + 1 : Nat) : Int))).cps.toList = 39 :: List.replicate n 97 := by
  rw [slice_to_list (by rw [rb_list]; simp), rb_list, List.take_append_of_le_length (by simp), List.take_of_length_le (by simp)]
theorem pre_len (n : Nat) : (Txt.slice (rb n) none (some ((n + 1 : Nat) : Int))).length = n + 1 := by rw [len_of, pre_list]; simp
theorem cut_list {n : Nat} (h : 77 ≤ n) : (cut (Txt.slice (rb n) none (some ((n + 1 : Nat) : Int))) 60).cps.toList = (ahead n).cps.toList := by
  unfold cut ahead
  rw [pre_len]
  have e1 : (((n + 1 : Nat) : Int) - 5 - 60) = (n : Int) - 64 := by omega
  have e2 : (((n + 1 : Nat) : Int) - 60) = ((n - 59 : Nat) : Int) := by omega
  rw [e1, e2]
  simp only [tol_app]
  have e5 : (some (5 : Int)) = some ((5 : Nat) : Int) := rfl
  rw [e5, slice_to_list (by rw [pre_list]; simp; omega), slice_from_list (by rw [pre_list]; simp; omega), pre_list]
  have t5 : List.take 5 (39 :: List.replicate n 97) = [39, 97, 97, 97, 97] := by
    rw [List.take_succ_cons, List.take_replicate]
    have : min 4 n = 4 := by omega
    rw [this]; rfl
  have d60 : List.drop (n - 59) (39 :: List.replicate n 97) = List.replicate 60 97 := by
    obtain ⟨j, hj⟩ : ∃ j, n - 59 = j + 1 := ⟨n - 60, by omega⟩
    rw [hj, List.drop_succ_cons, List.drop_replicate]
    congr 1; omega
  have m60 : (Txt.mul "a" 60).cps.toList = List.replicate 60 97 := tx_list 60
  rw [t5, d60, m60]
  rfl
theorem told_b {n : Nat} (h : 77 ≤ n) : cut (Txt.slice (rb n) none (some ((n + 1 : Nat) : Int))) 60 ++ Txt.slice (rb n) (some ((n + 1 : Nat) : Int)) none = ahead n ++ Str.ofString "b'" := by
  apply str_ext
  rw [tol_app, tol_app, cut_list h, slice_from_list (by rw [rb_list]; simp), rb_list, List.drop_append_of_le_length (by simp), List.drop_of_length_le (by simp)]
  rfl
theorem told_c {n : Nat} (h : 77 ≤ n) : cut (Txt.slice (rb n) none (some ((n + 1 : Nat) : Int))) 60 ++ Txt.slice (rc n) (some ((n + 1 : Nat) : Int)) none = ahead n ++ Str.ofString "cd'" := by
  apply str_ext
  rw [tol_app, tol_app, cut_list h, slice_from_list (by rw [rc_list]; simp), rc_list, List.drop_append_of_le_length (by simp), List.drop_of_length_le (by simp)]
  rfl
theorem ahead_len {n : Nat} (h : 77 ≤ n) (h' : n < 150) : (ahead n).length ≤ 200 := by
  unfold ahead
  simp only [Str.length_append]
  have h3 : (Str.ofString (toString ((n : Int) - 64))).length ≤ 10 := toString_length_le (by omega) (by decide) (by omega)
  have h4 : (Str.ofString "'aaaa[").length = 6 := by decide
  have h5 : (Str.ofString " chars]").length = 7 := by decide
  have h6 : (Txt.mul "a" 60).length = 60 := by rw [len_of]; rw [show (Txt.mul "a" 60).cps.toList = List.replicate 60 97 from tx_list 60]; simp
  omega
end Mine

namespace Mine
open PySem PySem.W PyProof.Rows PySem.Calls PySem.SeqAt

theorem ints_items {ns : List Int} {vs : List Value} (p : Paired IsN ns vs) : ∃ xs : Array (Int × Tok), vs.toArray = intItems xs := by
  induction p with
  | nil => exact ⟨#[], by simp [intItems]⟩
  | @cons n v _ _ a r ih =>
    obtain ⟨t, rfl⟩ := a
    obtain ⟨xs, e⟩ := ih
    refine ⟨#[(n, t)] ++ xs, ?_⟩
    simp only [intItems, Array.map_append] at e ⊢
    rw [← e]
    simp

section
variable {prog : Program} {w : World} {A : Around} {E : Value → Shared → Prop} {s : Shared} {mg mb : Str → Option Value} {d : Ad}

theorem sum_ints {hh : Heap} {l : Addr} {ns : List Int} {vs : List Value} {Q : Value → Shared → Prop} (hH : A.handled = none) (hl : hh.IsList l vs.toArray) (p : Paired IsN ns vs)
    (h : ∀ h' tk z t, Kp hh h' → Q (.int z t) { s with heap := h', toks := tk }) (hs : s.heap = hh := by rfl) : wpAny (model prog w) A (call (.builtin "sum") [.ref l]) Q E s := by
  subst hs
  obtain ⟨xs, e⟩ := ints_items p
  rw [e] at hl
  exact sum_intListG hH hl fun h' tk t' K => h h' tk _ t' K

theorem mul_ok {n : Nat} (h : n < 150) : MulOk (Str.ofString "a") (n : Int) := by
  have : ∀ n : Nat, n < 150 → MulOk (Str.ofString "a") (n : Int) := by
    intro n hn
    have hl : (Str.ofString "a").length = 1 := by rfl
    refine ⟨by simp; omega, fun h1 _ q => ?_, fun _ _ => ?_⟩
    · rw [hl] at q
      have : (1 : Int) ≤ (2 ^ 63 - 1) / (n : Int) := by
        rw [Int.le_ediv_iff_mul_le (by omega)]
        omega
      omega
    · rw [hl]
      unfold PySem.Builtin.Str.tooLong
      rw [sizeLine_eq]
      simp
      omega
  exact this n h

/-- size = sum(script[:1]) % 150; text = 'a' * size; written = "'" + text + "'" -/
theorem size_stmts {hb hh : Heap} {L a l : Addr} {cd : Value} {m cm : Str → Option Value} {ns : List Int} {vs : Array Value} {rest : List Stmt} {Q : Flow → Shared → Prop} (N : NM d mg mb) (P : PG d mg mb hb) (F : FmC hb L m (lcs L) cm hh) (hH : A.handled = none)
    (hcm : cm "script" = some (.ref l)) (hl : hh.IsList l vs) (hv : Paired IsN ns vs.toList) (hn : ns.length ≤ 100)
    (h : ∀ h' tk m' n t1 t2 t3, n < 150 → FmC hb L m' (lcs L) cm h' → m' "size" = some (.int (n : Nat) t1) → m' "text" = some (.str (tx n) t2) → m' "written" = some (.str (wr n) t3) → wpAny (model prog w) A (execs rest (lenv L a cd)) Q NO { s with heap := h', toks := tk }) (hs : s.heap = hh := by rfl) :
    wpAny (model prog w) A (execs (lawS 5 :: lawS 6 :: lawS 7 :: rest) (lenv L a cd)) Q NO s := by
  subst hs
  have P₀ := P.kp F.keep
  have hsz : vs.size = ns.length := paired_size hv
  refine wpAny_execs_cons (wpAny_Assign_Name (wpAny_BinOp (callB (nameB P₀.g N.sum.1 P₀.b N.sum.2 ⟨rfl, slice_row (F.ldc (c := L + 1) (by rfl) hcm (wpAny_Constant_int ⟨l, vs, 1, _, rfl, rfl, hl, by omega, fun h₁ l' hl' K₁ l0 => ?_⟩))⟩))))
  refine sum_ints (ns := ns.take 1) (by exact hH) (by exact hl'.isList) (paired_take 1 hv) fun h₂ tk₂ z t K₂ => ?_
  dsimp only
  refine wpAny_Constant_int (mod_int (by decide) ?_)
  have F₂ := (F.kp K₁).kp K₂
  have z0 : 0 ≤ z.fmod 150 := Int.fmod_nonneg_of_pos z (by decide)
  have z1 : z.fmod 150 < 150 := Int.fmod_lt_of_pos z (by decide)
  obtain ⟨n, hn⟩ := Int.eq_ofNat_of_zero_le z0
  rw [hn]
  have hn150 : n < 150 := by omega
  refine F₂.st fun h₃ F₃ _ => ?_
  dsimp only
  refine wpAny_execs_cons (wpAny_Assign_Name (wpAny_BinOp (Constant_str (F₃.ld (by rfl) (SB.mul (mul_ok hn150) fun t₄ k₄ => ?_)))))
  refine F₃.st fun h₅ F₅ _ => ?_
  dsimp only
  have ltx : (tx n).length = n := by rw [len_of, tx_list]; simp
  refine wpAny_execs_cons (wpAny_Assign_Name (wpAny_BinOp (wpAny_BinOp (Constant_str (F₅.ld (by rfl) (add_str (fun t₆ k₆ => Constant_str (add_str (fun t₇ k₇ => ?_) ?_)) ?_))))))
  · refine F₅.st fun h₆ F₆ _ => ?_
    exact h h₆ _ _ n _ _ _ hn150 F₆ (by rfl) (by rfl) (by rfl)
  · have h1 : (Str.ofString "'").length = 1 := by rfl
    rw [Str.length_append, h1, sizeLine_eq]
    show 1 + (tx n).length + 1 ≤ _
    omega
  · have h1 : (Str.ofString "'").length = 1 := by rfl
    rw [h1, sizeLine_eq]
    show 1 + (tx n).length ≤ _
    omega
end
end Mine

namespace Mine
open PySem PySem.W PyProof.Rows PySem.Calls PySem.SeqAt

section
variable {prog : Program} {w : World} {A : Around} {E : Value → Shared → Prop} {s : Shared} {mg mb : Str → Option Value} {d : Ad}

theorem str_ne_self (x : Str) : (x != x) = false := by simp

/-- if safe_repr(text) != written or safe_repr(text, True) != (..): return False -/
theorem safe_stmt {hb hh : Heap} {L a : Addr} {cd : Value} {m cm : Str → Option Value} {n : Nat} {t2 t3 : Tok} {Q : Flow → Shared → Prop} (N : NM d mg mb) (P : PG d mg mb hb) (D : Dfl hb d.sd) (F : FmC hb L m (lcs L) cm hh) (hroom : A.depth < recursionLimit) (hn : n < 150)
    (m1 : m "text" = some (.str (tx n) t2)) (m2 : m "written" = some (.str (wr n) t3))
    (h : ∀ h' tk, Kp hh h' → Q .next { s with heap := h', toks := tk }) (hs : s.heap = hh := by rfl) :
    wpAny (model prog w) A (exec (lawS 8) (lenv L a cd)) Q NO s := by
  subst hs
  have P₀ := P.kp F.keep
  have hr : (reprText (tx n)).length ≤ 1000 := by rw [tx_repr, wr_len]; omega
  refine wpAny_If (isTrue_Or2 (wpAny_isTrue_Compare1 (callG P₀.safe (nameG P₀.g N.safe ⟨rfl, args_cons (F.ld m1 (args_nil ⟨fun _ _ e => e, ?_⟩))⟩))))
  refine safe_call1 N P D F.keep hroom hr fun h₁ t₁ k₁ K₁ => ?_
  have F₁ := F.kp K₁
  have P₁ := P.kp F₁.keep
  rw [tx_repr]
  refine F₁.ld m2 (ne_str (wpAny_truthy_bool ?_))
  rw [str_ne_self, if_neg (by decide)]
  refine wpAny_isTrue_Compare1 (callG P₁.safe (nameG P₁.g N.safe ⟨rfl, args_cons (F₁.ld m1 (args_cons (Constant_bool (args_nil ⟨fun _ _ e => e, ?_⟩))))⟩))
  refine safe_call2 N P D F₁.keep hroom hr fun h₂ t₂ k₂ K₂ => ?_
  have F₂ := F₁.kp K₂
  have P₂ := P.kp F₂.keep
  rw [tx_repr, if_pos rfl]
  refine wpAny_IfExp (wpAny_isTrue_Compare1 (callB (nameB P₂.g N.len.1 P₂.b N.len.2 ⟨rfl, F₂.ld m2 (len_str (by rw [wr_len]; omega) (wpAny_Constant_int (lt_int (wpAny_truthy_bool ?_))))⟩)))
  unfold shortRepr
  by_cases hc : (wr n).length < 80
  · rw [if_pos (by simpa using (by omega : ((wr n).length : Int) < 80)), if_pos hc]
    refine F₂.ld m2 (ne_str (wpAny_truthy_bool ?_))
    rw [str_ne_self, if_neg (by decide)]
    exact wpAny_execs_nil (h h₂ _ fun b o e => K₂ _ _ (K₁ _ _ e))
  · rw [if_neg (by simpa using (by omega : ¬ ((wr n).length : Int) < 80)), if_neg hc]
    refine wpAny_BinOp (slice_to (F₂.ld m2 (wpAny_Constant_int ⟨_, _, _, _, rfl, rfl, by rw [wr_len, sizeLine_eq]; omega, fun h₃ t₃ k₃ K₃ => ?_⟩)))
    refine Constant_str (add_str (fun t₄ k₄ => ne_str (wpAny_truthy_bool ?_)) ?_)
    · rw [str_ne_self, if_neg (by decide)]
      exact wpAny_execs_nil (h h₃ _ fun b o e => K₃ _ _ (K₂ _ _ (K₁ _ _ e)))
    · have h1 := Txt.slice_le (wr n) none (some 80)
      have h2 : (Str.ofString " [truncated]...").length = 15 := by decide
      rw [wr_len] at h1
      rw [sizeLine_eq]
      omega
end
end Mine

namespace Mine
open PySem PySem.W PyProof.Rows PySem.Calls PySem.SeqAt

theorem IsGn.isFn {h : Heap} {a : Addr} {n : Nat} {q : Str} {dV : Value} {c P : Addr} (f : IsGn h a n q dV c P) : IsFn h a n q dV :=
  let ⟨oc, od, osl, name, kV, doc, pm, an, ct, e⟩ := f.fn; ⟨oc, od, osl, name, kV, doc, pm, an, _, ct, e, f.crec⟩

section
variable {prog : Program} {w : World} {A : Around} {E : Value → Shared → Prop} {s : Shared} {mg mb : Str → Option Value} {d : Ad}

theorem eq_same {a b : Value} {x : PyData} {as bs : List Addr} {Q : Value → Shared → Prop} (ra : Reads s.heap a x as) (rb : Reads s.heap b x bs) (hx : x.canLay0 = true) (hu : A.units + x.depth < cLine) (h : Q (.bool true) s) : wpAny (model prog w) A (compareOp .Eq a b) Q E s :=
  compareEq_reads ra rb hx hx (by rw [Nat.min_self]; exact hu) (by rw [eqv_refl x hx]; exact h)
theorem tup_reads {h : Heap} {T : Addr} {x y : Str} {t u : Tok} (hT : h.IsTuple T #[.str x t, .str y u]) : Reads h (.ref T) (.tuple [.str x, .str y]) [] := by
  obtain ⟨o, e, hc, n, hd⟩ := hT
  exact .tuple e hc hd (.cons (.str _ _) (.cons (.str _ _) .nil))
theorem tup_eq {T T' : Addr} {x y : Str} {t u t' u' : Tok} {Q : Value → Shared → Prop} (h1 : s.heap.IsTuple T #[.str x t, .str y u]) (h2 : s.heap.IsTuple T' #[.str x t', .str y u']) (hx : PyData.strOk x = true) (hy : PyData.strOk y = true) (hu : A.units + 5 < cLine) (h : Q (.bool true) s) : wpAny (model prog w) A (compareOp .Eq (.ref T) (.ref T')) Q E s :=
  eq_same (tup_reads h1) (tup_reads h2) (by simp [PyData.canLay0, PyData.canLayAll0, hx, hy]) (by simp [PyData.depth, PyData.depthAll]; omega) h
theorem tx_len (n : Nat) : (tx n).length = n := by rw [len_of, tx_list]; simp

theorem ok_list {x : Str} (h : ∀ c ∈ x.cps.toList, c < 0x110000) : PyData.strOk x = true := by
  unfold PyData.strOk
  rw [← Array.all_toList, List.all_eq_true]
  intro c hc
  exact decide_eq_true (h c hc)
theorem rb_ok (n : Nat) : PyData.strOk (rb n) = true := ok_list (by
  rw [rb_list]
  intro c hc
  rcases List.mem_append.mp hc with q | q
  · rcases List.mem_cons.mp q with rfl | q
    · decide
    · rw [List.eq_of_mem_replicate q]; decide
  · simp only [List.mem_cons, List.not_mem_nil, or_false] at q
    rcases q with rfl | rfl <;> decide)
theorem rc_ok (n : Nat) : PyData.strOk (rc n) = true := ok_list (by
  rw [rc_list]
  intro c hc
  rcases List.mem_append.mp hc with q | q
  · rcases List.mem_cons.mp q with rfl | q
    · decide
    · rw [List.eq_of_mem_replicate q]; decide
  · simp only [List.mem_cons, List.not_mem_nil, or_false] at q
    rcases q with rfl | rfl | rfl <;> decide)
set_option maxHeartbeats 8000000 in
theorem end_short {hb hh : Heap} {L a c P bm : Addr} {ob : Obj} {cd : Value} {m cm : Str → Option Value} {n : Nat} {t1 t2 : Tok} {Q : Value → Shared → Prop} (N : NM d mg mb) (G : PG d mg mb hb) (D : Dfl hb d.sd) (C : CG d mg c P bm ob hb) (F : FmC hb L m (lcs L) cm hh) (hH : A.handled = none) (hroom : A.depth + 30 < recursionLimit) (hu : A.units + 20 < cLine) (hn : n ≤ 76)
    (m0 : m "size" = some (.int (n : Nat) t1)) (m1 : m "text" = some (.str (tx n) t2))
    (h : ∀ h' tk, Kp hb h' → Q (.bool true) { s with heap := h', toks := tk }) (hs : s.heap = hh := by rfl) :
    wpAny (model prog w) A (execs [lawS 9, lawS 10, lawS 11, lawS 12] (lenv L a cd)) (fun f s' => Q (match f with | .ret v => v | _ => .none) s') NO s := by
  subst hs
  have P₀ := G.kp F.keep
  have C₀ := C.kp F.keep
  have lb : (Str.ofString "b").length = 1 := by rfl
  have lc : (Str.ofString "cd").length = 2 := by rfl
  refine wpAny_execs_cons (wpAny_Assign_Name (callG C₀.csr.isFn (nameG P₀.g N.csr ⟨rfl, args_cons (wpAny_BinOp (F.ld m1 (Constant_str (add_str (fun t k => ?_) (by rw [tx_len, lb, sizeLine_eq]; omega)))))⟩)))
  refine args_cons (wpAny_BinOp (F.ld m1 (Constant_str (add_str (fun t' k' => args_nil ⟨fun _ _ e => e, ?_⟩) (by rw [tx_len, lc, sizeLine_eq]; omega)))))
  refine csr_short N G D C F.keep (by omega) hH (by show (rb n).length < (rc n).length; rw [rb_len, rc_len]; omega) (by show (rc n).length ≤ 80; rw [rc_len]; omega) fun h₁ T u u' k₁ hT K₁ => ?_
  dsimp only
  refine (F.kp K₁).st fun h₂ F₂ s₂ => ?_
  dsimp only
  have hTL : T ≠ L := by
    obtain ⟨o, e, hc, _⟩ := hT
    obtain ⟨oL, _, _, eL, dL, _⟩ := F.ns
    intro q
    rw [q, K₁ _ _ eL] at e
    cases e
    obtain ⟨_, hd⟩ := ‹∃ n, _›
    rw [dL] at hd
    cases hd
  have hT₂ : h₂.IsTuple T #[.str (reprText (tx n ++ Str.ofString "b")) u, .str (reprText (tx n ++ Str.ofString "cd")) u'] := tup_at hT fun o e => s₂.extBut _ _ hTL e
  have P₂ := G.kp F₂.keep
  refine wpAny_execs_cons (wpAny_If (wpAny_isTrue_Compare1 (F₂.ld (by exact m0) (wpAny_Constant_int (le_int (wpAny_truthy_bool ?_))))))
  rw [if_pos (by simpa using (by omega : (n : Int) ≤ 76))]
  refine wpAny_execs_cons (wpAny_Return_some (wpAny_Compare1 (F₂.ld (by rfl) ?_)))
  have l1 : (Str.ofString "'").length = 1 := by rfl
  have l2 : (Str.ofString "b'").length = 2 := by rfl
  have l3 : (Str.ofString "cd'").length = 3 := by rfl
  refine Tuple_ (args_cons (wpAny_BinOp (wpAny_BinOp (Constant_str (F₂.ld (by exact m1) (add_str (fun t₃ k₃ => Constant_str (add_str (fun t₄ k₄ => ?_) (by rw [Str.length_append, l1, tx_len, l2, sizeLine_eq]; omega))) (by rw [l1, tx_len, sizeLine_eq]; omega)))))))
  refine args_cons (wpAny_BinOp (wpAny_BinOp (Constant_str (F₂.ld (by exact m1) (add_str (fun t₅ k₅ => Constant_str (add_str (fun t₆ k₆ => ?_) (by rw [Str.length_append, l1, tx_len, l3, sizeLine_eq]; omega))) (by rw [l1, tx_len, sizeLine_eq]; omega))))))
  refine args_nil (wpAny_newTuple ?_)
  rw [← rb_eq, ← rc_eq]
  refine tup_eq (x := rb n) (y := rc n) (by exact hT₂.push _) ⟨_, Heap.get?_push_size _ rfl, rfl, _, rfl⟩ (rb_ok n) (rc_ok n) (by omega) ?_
  exact h _ _ fun b o e => Heap.get?_push_of_some _ (F₂.keep b o e)
end
end Mine

namespace Mine
open PySem PySem.W PyProof.Rows PySem.Calls PySem.SeqAt

theorem ns_ne_table {h : Heap} {a c P : Addr} {m : Str → Option Value} {ps : Array Value} (hn : h.Ns a m) (t : h.TableAt c P ps) : a ≠ P := fun q => by
  obtain ⟨o, es, ep, ho, hd, _⟩ := hn
  rw [q, t.2] at ho
  cases ho
  cases hd
theorem tup_ne_ns {h : Heap} {T L : Addr} {m : Str → Option Value} {vs : Array Value} (hT : h.IsTuple T vs) (hn : h.Ns L m) : T ≠ L := fun q => by
  obtain ⟨o, e, _, n, hd⟩ := hT
  obtain ⟨o', es, ep, e', hd', _⟩ := hn
  rw [q, e'] at e
  cases e
  rw [hd'] at hd
  cases hd

theorem ok_app {a b : Str} (ha : PyData.strOk a = true) (hb : PyData.strOk b = true) : PyData.strOk (a ++ b) = true := by
  unfold PyData.strOk at *
  rw [Str.cps_append, ← Array.all_toList, Array.toList_append, List.all_append, Array.all_toList, Array.all_toList, ha, hb]
  rfl
theorem ok_str (s : String) : PyData.strOk (Str.ofString s) = true := ok_list (by
  intro c hc
  have : ∃ ch : Char, c = ch.toNat := by
    rw [Str.ofString_eq_toList] at hc
    simp only [List.mem_map] at hc
    obtain ⟨ch, _, e⟩ := hc
    exact ⟨ch, e.symm⟩
  obtain ⟨ch, rfl⟩ := this
  rcases ch.valid with q | q
  · exact Nat.lt_trans q (by decide)
  · exact q.2)
theorem ahead_ok {n : Nat} {y : Str} (_ : 77 ≤ n) (_ : n < 150) (hy : PyData.strOk y = true) : PyData.strOk (ahead n ++ y) = true := by
  refine ok_app ?_ hy
  unfold ahead
  refine ok_app (ok_app (ok_app (ok_str _) (ok_str _)) (ok_str _)) ?_
  · refine ok_list ?_
    rw [show (Txt.mul "a" 60).cps.toList = List.replicate 60 97 from tx_list 60]
    intro c hc
    rw [List.eq_of_mem_replicate hc]; decide

section
variable {prog : Program} {w : World} {A : Around} {E : Value → Shared → Prop} {s : Shared} {mg mb : Str → Option Value} {d : Ad}

set_option maxHeartbeats 8000000 in
theorem end_long {hb hh : Heap} {L a c P bm : Addr} {ob : Obj} {cd : Value} {m cm : Str → Option Value} {n : Nat} {t1 t2 : Tok} {Q : Value → Shared → Prop} (N : NM d mg mb) (G : PG d mg mb hb) (D : Dfl hb d.sd) (C : CG d mg c P bm ob hb) (F : FmC hb L m (lcs L) cm hh) (hH : A.handled = none) (hg : AllBare s.gens) (hroom : A.depth + 30 < recursionLimit) (hu : A.units + 20 < cLine) (hn : 77 ≤ n) (hn' : n < 150)
    (m0 : m "size" = some (.int (n : Nat) t1)) (m1 : m "text" = some (.str (tx n) t2))
    (h : ∀ s', OldK hb s'.heap → s'.os = s.os → AllBare s'.gens → Q (.bool true) s') (hs : s.heap = hh := by rfl) :
    wpAny (model prog w) A (execs [lawS 9, lawS 10, lawS 11, lawS 12] (lenv L a cd)) (fun f s' => Q (match f with | .ret v => v | _ => .none) s') NO s := by
  subst hs
  have P₀ := G.kp F.keep
  have C₀ := C.kp F.keep
  have lb : (Str.ofString "b").length = 1 := by rfl
  have lc : (Str.ofString "cd").length = 2 := by rfl
  refine wpAny_execs_cons (wpAny_Assign_Name (callG C₀.csr.isFn (nameG P₀.g N.csr ⟨rfl, args_cons (wpAny_BinOp (F.ld m1 (Constant_str (add_str (fun t k => ?_) (by rw [tx_len, lb, sizeLine_eq]; omega)))))⟩)))
  refine args_cons (wpAny_BinOp (F.ld m1 (Constant_str (add_str (fun t' k' => args_nil ⟨fun _ _ e => e, ?_⟩) (by rw [tx_len, lc, sizeLine_eq]; omega)))))
  refine csr_long (k := n + 1) N G D C F.keep (by omega) hH hg (by show (rb n).length < (rc n).length; rw [rb_len, rc_len]; omega) (by show 80 < (rc n).length; rw [rc_len]; omega) (by show (rc n).length ≤ 1000; rw [rc_len]; omega) (part_bc hn') (by show n + 1 + 3 = (rc n).length; rw [rc_len]) (pre_len n) fun s' T u u' hT hO K hos hgens => ?_
  have e1 := told_b hn
  have e2 := told_c hn
  replace hT : s'.heap.IsTuple T #[.str (cut (Txt.slice (rb n) none (some ((n + 1 : Nat) : Int))) 60 ++ Txt.slice (rb n) (some ((n + 1 : Nat) : Int)) none) u, .str (cut (Txt.slice (rb n) none (some ((n + 1 : Nat) : Int))) 60 ++ Txt.slice (rc n) (some ((n + 1 : Nat) : Int)) none) u'] := hT
  rw [e1, e2] at hT
  clear e1 e2
  have tab : s.heap.TableAt c P #[] := C₀.csr.tab
  have nL : s'.heap.Ns L m := F.ns.at' fun o e => K _ o (mem_one.mpr (ns_ne_table F.ns tab)) e
  have gm : s'.heap.Ns mainGlobals mg := P₀.g.at' fun o e => K _ o (mem_one.mpr (ns_ne_table P₀.g tab)) e
  have gb : s'.heap.Ns builtinsNs mb := P₀.b.at' fun o e => K _ o (mem_one.mpr (ns_ne_table P₀.b tab)) e
  have L0 : hb.get? L = none := F.fm.off
  have neG : mainGlobals ≠ L := fun q => by
    obtain ⟨o, _, _, e, _⟩ := G.g
    rw [q, L0] at e; cases e
  have neB : builtinsNs ≠ L := fun q => by
    obtain ⟨o, _, _, e, _⟩ := G.b
    rw [q, L0] at e; cases e
  clear K F P₀ C₀
  have hTL : T ≠ L := tup_ne_ns hT nL
  refine wpAny_storeName_local (by rfl) nL (fun h₂ n₂ s₂ => ?_) (hp_of rfl)
  replace s₂ : Heap.SameBut L s'.heap h₂ := s₂
  have hT₂ := tup_at hT fun o e => s₂.extBut _ _ hTL e
  have gm₂ : h₂.Ns mainGlobals mg := gm.sameBut s₂ neG
  have gb₂ : h₂.Ns builtinsNs mb := gb.sameBut s₂ neB
  have O₂ : OldK hb h₂ := oldK_but (wr := [L]) hO (by intro b hb; rw [List.mem_singleton.mp hb]; exact L0) fun b o hb e => s₂.extBut b o (mem_one.mp hb) e
  dsimp only
  refine wpAny_execs_cons (wpAny_If (wpAny_isTrue_Compare1 (ldE (env := lenv L a cd) n₂ (by exact m0) (wpAny_Constant_int (le_int (wpAny_truthy_bool ?_))))))
  rw [if_neg (by simpa using (by omega : ¬ (n : Int) ≤ 76))]
  refine wpAny_execs_nil ?_
  -- ahead
  have l1 : (Str.ofString "'aaaa[").length = 6 := by rfl
  have l2 : (Str.ofString " chars]").length = 7 := by rfl
  have l3 : (Str.ofString (toString ((n : Int) - 64))).length ≤ 10 := toString_length_le (by omega) (by decide) (by omega)
  have l4 : (Txt.mul "a" 60).length = 60 := by rw [len_of]; rw [show (Txt.mul "a" 60).cps.toList = List.replicate 60 97 from tx_list 60]; simp
  refine wpAny_execs_cons (wpAny_Assign_Name (wpAny_BinOp (wpAny_BinOp (wpAny_BinOp (Constant_str (callT (nameB gm₂ N.str.1 gb₂ N.str.2 ⟨rfl, wpAny_BinOp (ldE (env := lenv L a cd) n₂ (by exact m0) (wpAny_Constant_int (sub_int ?_)))⟩)))))))
  have hlog : ((n : Int) - 64).natAbs.log2 < 1920 := by
    have : ((n : Int) - 64).natAbs < 2 ^ 8 := by omega
    have h2 : ((n : Int) - 64).natAbs ≠ 0 := by omega
    have := (Nat.log2_lt h2).mpr this
    omega
  refine PySem.P.str_of_int hlog (add_str (fun t₃ k₃ => Constant_str (add_str (fun t₄ k₄ => ?_) (by rw [Str.length_append, l1, l2, sizeLine_eq]; omega))) (by rw [l1, sizeLine_eq]; omega))
  refine wpAny_BinOp (Constant_str (wpAny_Constant_int (SB.mul (mul_ok (n := 60) (by decide)) fun t₅ k₅ => add_str (fun t₆ k₆ => ?_) (by
    have : (Txt.mul (Str.ofString "a") 60).length = 60 := l4
    rw [Str.length_append, Str.length_append, l1, l2, this, sizeLine_eq]; omega))))
  refine wpAny_storeName_local (by rfl) (by exact n₂) (fun h₃ n₃ s₃ => ?_) (hp_of rfl)
  replace s₃ : Heap.SameBut L h₂ h₃ := s₃
  have hT₃ := tup_at hT₂ fun o e => s₃.extBut _ _ hTL e
  have O₃ : OldK hb h₃ := oldK_but (wr := [L]) O₂ (by intro b hb; rw [List.mem_singleton.mp hb]; exact L0) fun b o hb e => s₃.extBut b o (mem_one.mp hb) e
  dsimp only
  have la := ahead_len hn hn'
  have lb' : (Str.ofString "b'").length = 2 := by rfl
  have lc' : (Str.ofString "cd'").length = 3 := by rfl
  show wpAny _ _ (execs [lawS 12] _) _ _ _
  refine wpAny_execs_cons (wpAny_Return_some (wpAny_Compare1 (ldE (env := lenv L a cd) (v := .ref T) n₃ (by rfl) ?_)))
  refine Tuple_ (args_cons (wpAny_BinOp (ldE (env := lenv L a cd) (v := .str (ahead n) t₆) n₃ (by rfl) (Constant_str (add_str (fun t₇ k₇ => ?_) (by rw [lb', sizeLine_eq]; omega))))))
  refine args_cons (wpAny_BinOp (ldE (env := lenv L a cd) (v := .str (ahead n) t₆) n₃ (by rfl) (Constant_str (add_str (fun t₈ k₈ => ?_) (by rw [lc', sizeLine_eq]; omega)))))
  refine args_nil (wpAny_newTuple ?_)
  refine tup_eq (x := ahead n ++ Str.ofString "b'") (y := ahead n ++ Str.ofString "cd'") (by exact hT₃.push _) ⟨_, Heap.get?_push_size _ rfl, rfl, _, rfl⟩ (ahead_ok hn hn' (ok_str _)) (ahead_ok hn hn' (ok_str _)) (by omega) ?_
  exact h _ (O₃.step_keeps fun b o e => Heap.get?_push_of_some _ e) hos hgens
end
end Mine

namespace Mine
open PySem PySem.W PyProof.Rows PySem.Calls PySem.SeqAt

theorem rowOf_len (ns : List Int) (j : Int) : (rowOf ns j).length ≤ ns.length := by
  unfold rowOf pick
  rw [List.length_map, List.length_map]
  exact Nat.le_trans (List.length_filter_le _ _) (by simp)

section
variable {prog : Program} {w : World} {A : Around} {E : Value → Shared → Prop} {s : Shared} {mg mb : Str → Option Value} {d : Ad}

set_option maxHeartbeats 4000000 in
theorem law_call {hb : Heap} {fa l c P bm : Addr} {ob : Obj} {ns : List Int} {vs : Array Value} {Q : Value → Shared → Prop} (N : NM d mg mb) (G : PG d mg mb hb) (D : Dfl hb d.sd) (C : CG d mg c P bm ob hb) (hlaw : IsFn hb fa 23 "law" .none)
    (hmis : ∀ e1 e2, MisOk prog w ((A.deeper e1).deeper e2) d.mis hb) (htup : ∀ e1, TupOk prog w (A.deeper e1) d.mis hb) (hH : A.handled = none) (hroom : A.depth + 50 < recursionLimit) (hu : A.units + 100 < cLine) (hg : s.gens = #[])
    (hl : hb.IsList l vs) (hv : Paired IsN ns vs.toList) (hn : ns.length ≤ 100) (hs : s.heap = hb)
    (h : ∀ s', OldK hb s'.heap → s'.os = s.os → AllBare s'.gens → Q (.bool true) s') : wpAny (model prog w) A (call (.ref fa) [.ref l]) Q E s := by
  subst hs
  obtain ⟨oc, od, osl, name, kV, doc, pm, an, cdv, ct, e, crec⟩ := hlaw
  refine call_fnC (B := fun _ => True) (binds := [("script", .ref l)]) (by omega) e G.lim crec (fun M A E Q hq => wpAny_of_eq (a := [(("script" : Str), Value.ref l)]) (by rfl) (hq _ _ (fun _ _ e => e) True.intro)) (fun _ _ _ _ => True.intro) (fun h₁ L tk _ F => ?_) (fun L x hx => ?_)
  rotate_left
  · obtain rfl := List.mem_singleton.mp hx
    exact .inr ⟨by rfl, by rfl⟩
  have hbody : fBody (stN 23) = [lawS 0, lawS 1, lawS 2, lawS 3, lawS 4, lawS 5, lawS 6, lawS 7, lawS 8, lawS 9, lawS 10, lawS 11, lawS 12] := by rfl
  rw [hbody]
  have hA : (A.deeper (envOfC "law" (fScope (stN 23)) L fa cdv)).handled = none := hH
  have hAd : (A.deeper (envOfC "law" (fScope (stN 23)) L fa cdv)).depth + 40 < recursionLimit := by show A.depth + 1 + 40 < _; omega
  have hAu : (A.deeper (envOfC "law" (fScope (stN 23)) L fa cdv)).units + 80 < cLine := by show A.units + 3 + 80 < _; omega
  have n0 : (rowOf ns 0).length ≤ 100 := Nat.le_trans (rowOf_len ns 0) hn
  have n1 : (rowOf ns 1).length ≤ 100 := Nat.le_trans (rowOf_len ns 1) hn
  -- rows
  refine wpAny_execs_cons (rows_stmt (cd := cdv) N G F hA (by rfl) (hl.at fun o z => F.keep _ o z) hv hn fun h₂ tk₂ R D0 D1 F₂ hR r0 r1 K₂ => ?_)
  -- first, second
  refine wpAny_execs_cons (copies_stmt (cd := cdv) N G F₂ hA (by rfl) hR r0 r1 n0 n1 fun h₃ tk₃ F0 F1 F₃ f0 f1 K₃ => ?_)
  have g₃ : Kp (hideAll h₂ (XL L)) (hideAll h₃ (XL L)) := hide_mono K₃
  have sub : ∀ a ∈ [L], a ∈ XL L := by intro b hb; rw [List.mem_singleton.mp hb]; simp
  -- due
  refine wpAny_execs_cons (due1_stmt (cd := cdv) N G F₃ hA (by omega) (by omega) (by rfl) (by rfl) f0 f1 n0 fun h₄ tk₄ E1 z1 F₄ hE1 hz1 K₄ => ?_)
  have g₄ : Kp (hideAll h₃ (XL L)) (hideAll h₄ (XL L)) := hide_mono (kb_sub K₄ sub)
  refine wpAny_execs_cons (due2_stmt (cd := cdv) (O := outs1 (rowOf ns 0) (rowOf ns 1) (rowOf ns 0).length) N G F₄ hA (by omega) (by omega) (by rfl) (by rfl) (f0.kp g₄) (f1.kp g₄) n1 (by rfl) hE1 hz1 (Nat.le_trans (outs1_le _ _ _) n0) fun h₅ tk₅ E2 z2 F₅ hE2 hz2 K₅ => ?_)
  have g₅ : Kp (hideAll h₄ (XL L)) (hideAll h₅ (XL L)) := hide_mono (kb_sub K₅ sub)
  have g₂₅ : Kp (hideAll h₂ (XL L)) (hideAll h₅ (XL L)) := fun b o z => g₅ _ _ (g₄ _ _ (g₃ _ _ z))
  have g₃₅ : Kp (hideAll h₃ (XL L)) (hideAll h₅ (XL L)) := fun b o z => g₅ _ _ (g₄ _ _ z)
  -- the counts
  refine wpAny_execs_cons (check_stmt (cd := cdv) N G F₅ hA (by omega) (by omega) (by exact hg) (hmis _) (htup _) (by rfl) (by rfl) (f0.kp g₃₅) (f1.kp g₃₅) n0 n1 (by rfl) (hR.at fun o z => g₂₅ _ o z) (r0.kp g₂₅) (r1.kp g₂₅) (by rfl) hE2 hz2 fun h₆ tk₆ K₆ => ?_)
  have F₆ := F₅.kp K₆
  -- the texts
  refine size_stmts (cd := cdv) N G F₆ hA (by rfl) (hl.at fun o z => F₆.keep _ o z) hv hn fun h₇ tk₇ m₇ n t1 t2 t3 hn150 F₇ m0 m1 m2 => ?_
  refine wpAny_execs_cons (safe_stmt (cd := cdv) N G D F₇ (by omega) hn150 m1 m2 fun h₈ tk₈ K₈ => ?_)
  have F₈ := F₇.kp K₈
  by_cases hc : n ≤ 76
  · exact end_short (cd := cdv) N G D C F₈ hA (by omega) (by omega) hc m0 m1 fun h' tk K => h _ (OldK.of_keep K) rfl (AllBare.of_eq hg)
  · exact end_long (cd := cdv) N G D C F₈ hA (AllBare.of_eq hg) (by omega) (by omega) (by omega) hn150 m0 m1 fun s' O hos hb => h s' O hos hb
end
end Mine

namespace Mine
open PySem PySem.W PyProof.Rows PySem.Calls
theorem boots : bootBuiltins (Str.ofString "len") = some (.builtin "len") ∧ bootBuiltins (Str.ofString "type") = some (.type "type") ∧ bootBuiltins (Str.ofString "list") = some (.type "list") ∧ bootBuiltins (Str.ofString "tuple") = some (.type "tuple") ∧ bootBuiltins (Str.ofString "str") = some (.type "str") ∧ bootBuiltins (Str.ofString "min") = some (.builtin "min") ∧ bootBuiltins (Str.ofString "max") = some (.builtin "max") ∧ bootBuiltins (Str.ofString "map") = some (.type "map") ∧
    bootBuiltins (Str.ofString "enumerate") = some (.type "enumerate") ∧ bootBuiltins (Str.ofString "range") = some (.type "range") ∧ bootBuiltins (Str.ofString "repr") = some (.builtin "repr") ∧ bootBuiltins (Str.ofString "object") = some (.type "object") ∧ bootBuiltins (Str.ofString "sum") = some (.builtin "sum") := by
  refine ⟨?_, ?_, ?_, ?_, ?_, ?_, ?_, ?_, ?_, ?_, ?_, ?_, ?_⟩ <;> kernel_rfl
theorem mem_end {s : Shared} {h : Heap} {news : List (Addr × Obj)} {a : Addr} {o : Obj} {tk : Nat} {Q : Value → Shared → Prop}
    (hQ : ∀ h' Ta tk, h'.get? Ta = some o → (∀ b o, s.heap.get? b = some o → h'.get? b = some o) → s.heap.get? Ta = none → Q (.ref Ta) { s with heap := h', toks := tk }) (hg : s.gens = #[]) (D : PySem.W.X.Mem s.heap h [] news) (hm : (a, o) ∈ news) :
    Q (.ref a) ⟨h, #[], s.drawn, tk, s.os⟩ := by
  have := hQ h a tk (D.nw _ hm).1 (fun b o e => D.keep b o e (by simp [PySem.W.X.away])) (D.nw _ hm).2
  rw [← hg]
  exact this
theorem mem_endD {s : Shared} {h : Heap} {news : List (Addr × Obj)} {a : Addr} {C : Value} {dd : Option Addr} {dt : Data} {tk : Nat} {Q : Value → Shared → Prop}
    (hQ : ∀ h' Ta tk dd, h'.get? Ta = some ({ cls := C, dict := dd, data := dt } : Obj) → (∀ b o, s.heap.get? b = some o → h'.get? b = some o) → s.heap.get? Ta = none → Q (.ref Ta) { s with heap := h', toks := tk }) (hg : s.gens = #[]) (D : PySem.W.X.Mem s.heap h [] news) (hm : (a, ({ cls := C, dict := dd, data := dt } : Obj)) ∈ news) :
    Q (.ref a) ⟨h, #[], s.drawn, tk, s.os⟩ := by
  have := hQ h a tk dd (D.nw _ hm).1 (fun b o e => D.keep b o e (by simp [PySem.W.X.away])) (D.nw _ hm).2
  rw [← hg]
  exact this
theorem paired_ints {vs : List Value} {ns : List Int} (h : IntsAre vs ns) : Paired IsN ns vs := by
  induction h with
  | nil => exact .nil
  | cons n t _ ih => exact .cons ⟨t, rfl⟩ ih
theorem byK {K : Frag} {h : Heap} (_ : K.In h) (P : Frag → Prop) (x : P K) : P K := x
theorem isFn_of {h : Heap} {a : Addr} {n : Nat} {q : Str} {dV : Value} {oc : Value} {od : Option Addr} {osl : Array (Option Value)} {name : Str} {kV doc pm ct : Value} {an : Option Addr} {c : Addr} {o : Obj} {vs : Array Value} {t : Tok}
    (e : h.get? a = some ⟨oc, od, .func (fnOf name q (fArgs (stN n)) (fBody (stN n)) (fScope (stN n)) dV kV doc pm an (.ref c) ct), osl⟩) (g : h.get? c = some o) (hd : o.data = .fields vs) (hq : vs[1]? = some (.str q t)) : IsFn h a n q dV :=
  ⟨oc, od, osl, name, kV, doc, pm, an, .ref c, ct, e, c, o, vs, t, rfl, g, hd, hq⟩
theorem isGn_of {h : Heap} {a : Addr} {n : Nat} {q : Str} {dV : Value} {oc : Value} {od : Option Addr} {osl : Array (Option Value)} {name : Str} {kV doc pm ct : Value} {an : Option Addr} {c P : Addr} {od' : Option Addr} {vs : Array Value} {sl' : Array (Option Value)} {t tf tg tt : Tok} {file : Str} {flags text : Int} {inF : Bool}
    (e : h.get? a = some ⟨oc, od, .func (fnOf name q (fArgs (stN n)) (fBody (stN n)) (fScope (stN n)) dV kV doc pm an (.ref c) ct), osl⟩) (g : h.get? c = some ⟨.type "code", od', .fields vs, sl'⟩) (gp : h.get? P = some { cls := .none, data := .fields #[] })
    (h1 : vs[1]? = some (.str q t)) (h11 : vs[11]? = some (.ref P)) (h18 : vs.getD 18 .none = .str file tf) (h7 : vs.getD 7 .none = .int flags tg) (h9 : vs.getD 9 .none = .bool inF) (h10 : vs.getD 10 .none = .int text tt) (ne : c ≠ P) : IsGn h a n q dV c P :=
  ⟨⟨oc, od, osl, name, kV, doc, pm, an, ct, e⟩, ⟨c, _, vs, t, rfl, g, rfl, h1⟩, ⟨_, vs, file, tf, flags, tg, inF, text, tt, _, g, rfl, by simp [Array.getD_eq_getD_getElem?, h11], h18, h7, h9, h10, gp, rfl, True.intro, ne⟩, ⟨⟨_, vs, g, rfl, rfl, h11⟩, gp⟩⟩
end Mine

namespace Mine
open PySem PySem.W PyProof.Rows PySem.Calls

/-- the head of a text without imports: the whole top run once, its heap a tree, and looked at when it has run -/
theorem left_of {p q : Program} {loose : List Str} {Xt : Shared → Bool} {α : Type} {Yf : Shared → α} {Ya : World → α} {N n : Nat} {H : Params → Heap} {gs₀ : Array GenState} {d₀ : Drawn} {k₀ m₀ : Nat} {ann : Option Value} {S : World → OsState → SharedT}
    {b : List Stmt} {env : Env} {c₀ : Code} {p₀ q₀ : Pos}
    (open_ : ∀ w : World, (fencedOpening treeTable p w N).map (fun s => (s.heap, s.gens, s.drawn, s.toks)) = some (H w.params, gs₀, d₀, k₀))
    (size : ∀ w : World, ((H w.params).isNs mainGlobals && gs₀.size == 0, (H w.params).objs.size, (H w.params).nsMap mainGlobals "__annotations__") = (true, m₀, ann))
    (pre : ∀ (w : World) (os : OsState), topGo treeTable p w m₀ ann 12 ⟨H w.params, gs₀, d₀, k₀, os⟩ (topStub p) = some ((S w os).abs, ⟨denote treeTable (.body b env), c₀, p₀, [topFrame q₀]⟩))
    (block : ∀ (w : World) (os : OsState), segRun treeTable p w m₀ ann 1 1 (S w os).abs (blockOf b env c₀ p₀ [topFrame q₀]) = some (.next, (S w os).abs, c₀, p₀))
    (run : ∀ (w : World) (os : OsState), (segRunT treeTable p w m₀ ann 1 n (S w os) (piecesOf b env c₀ p₀ [topFrame q₀])).map (fun r => (staticsOk (importedModules p.main.body) (H w.params) r.2.1.abs.heap && namesBound p r.2.1.abs.heap && gensDone r.2.1.abs && laidKept (H w.params) r.2.1.abs.heap,
      openSeen q loose (importedModules p.main.body) Xt true r.2.1.abs, Yf r.2.1.abs)) = some (true, openGood q loose, Ya w))
    (le : Nat.ble (12 + (1 + (n + 2))) N = true) : LeftO p q loose Xt Yf Ya N := by
  intro w
  obtain ⟨⟨h, gs, d, k, os⟩, e, e'⟩ := Option.map_eq_some_iff.mp (open_ w)
  obtain ⟨rfl, rfl, rfl, rfl⟩ : h = H w.params ∧ gs = gs₀ ∧ d = d₀ ∧ k = k₀ := by simpa using e'
  obtain ⟨z1, z2, z3⟩ : _ ∧ _ ∧ _ := by simpa only [Prod.mk.injEq] using size w
  obtain ⟨⟨f, r, c, q'⟩, hr, hl⟩ := Option.map_eq_some_iff.mp (run w os)
  obtain ⟨l1, l2, l3⟩ : _ ∧ _ ∧ _ := by simpa only [Prod.mk.injEq] using hl
  obtain ⟨a, _, hN⟩ := seg_top (res := id) (K' := doneF) (H' := leaveH env) (gd := id) (lv := id) (B := [topFrame q₀]) rfl n (S w os).abs (piecesOf b env c₀ p₀ [topFrame q₀]) (restOf b env c₀ p₀ [topFrame q₀]) f r.abs c q'
    ⟨rfl, rfl, .inl ⟨rfl, rfl, _, rfl, rfl⟩⟩ (segRun_of hr)
  have run := go_top (pre w os) (piece_block (block w os) (hN 2 r.abs (by cases a <;> rfl)))
  have run' := topRun_mono (N - (12 + (1 + (n + 2)))) _ _ _ _ run
  rw [show 12 + (1 + (n + 2)) + (N - (12 + (1 + (n + 2)))) = N by have := Nat.le_of_ble_eq_true le; omega] at run'
  have t : topFrom treeTable p w N ⟨H w.params, gs, d, k, os⟩ = some r.abs := by
    unfold topFrom
    dsimp only
    rw [z1, z2, z3, run']
    show (match staticsOk (importedModules p.main.body) (H w.params) r.abs.heap && namesBound p r.abs.heap && gensDone r.abs && laidKept (H w.params) r.abs.heap with | true => _ | false => _) = _
    rw [l1]
  unfold openEnds
  rw [e]
  show (topFrom treeTable p w N _).map _ = _
  rw [t]
  exact congrArg some (Prod.ext l2 l3)
end Mine

namespace Mine
open PySem PySem.W PyProof.Rows PySem.Calls

/-- the law's text alone -/
def view : Program := { PySem.Challenge.pw_xe0055_01 with main := { PySem.Challenge.pw_xe0055_01.main with body := [stN 23] } }
/-- the text's other names -/
def loose : List Str := ["_wall", "_tuplegetter", "_MAX_LENGTH", "_PLACEHOLDER_LEN", "_MIN_BEGIN_LEN", "_MIN_END_LEN", "_MIN_COMMON_LEN", "_MIN_DIFF_LEN", "_shorten", "_kind", "_fspath", "_prefix", "commonprefix", "_common_shorten_repr", "safe_repr", "Mismatch", "_Mismatch", "_count_diff_all_purpose", "_law_first"]
def cBody : Stmt → List Stmt
  | .ClassDef _ _ _ b _ _ _ _ _ _ _ => b
  | _ => []
def newS : Stmt := (cBody (stN 18)).getD 4 (.Pass ⟨0, 0, 0, 0⟩)
/-- the first text of a function's body -/
def docOf : Stmt → Str
  | .FunctionDef _ _ (.Expr (.Constant (.str x) _ _) _ :: _) _ _ _ _ _ _ _ => x
  | _ => ""
abbrev kent (P : Params) (k : Str) (t : Tok) (v : Value) : DictEntry := ⟨PyData.keyHash P k, .str k t, v⟩
/-- what stands in the heap when the top has run -/
noncomputable def K : Params → Frag := fun P => [
    (nat_lit 0, { cls := Value.type SZ.s14018661285674007319x4, data := Data.dict (List.toArray [kent P (Str.mk (Array.mk [nat_lit 95, nat_lit 95, nat_lit 110, nat_lit 97, nat_lit 109, nat_lit 101, nat_lit 95, nat_lit 95])) 1 (Value.str (Str.mk (Array.mk [nat_lit 98, nat_lit 117, nat_lit 105, nat_lit 108, nat_lit 116, nat_lit 105, nat_lit 110, nat_lit 115])) 160), kent P (Str.mk (Array.mk [nat_lit 95, nat_lit 95, nat_lit 100, nat_lit 111, nat_lit 99, nat_lit 95, nat_lit 95])) 2 (Value.builtin "builtins.__doc__:str#opaque"), kent P (Str.mk (Array.mk [nat_lit 95, nat_lit 95, nat_lit 112, nat_lit 97, nat_lit 99, nat_lit 107, nat_lit 97, nat_lit 103, nat_lit 101, nat_lit 95, nat_lit 95])) 3 (Value.builtin "builtins.__package__:str#opaque"), kent P (Str.mk (Array.mk [nat_lit 95, nat_lit 95, nat_lit 108, nat_lit 111, nat_lit 97, nat_lit 100, nat_lit 101, nat_lit 114, nat_lit 95, nat_lit 95])) 4 (Value.builtin "builtins.__loader__:shared#opaque"), kent P (Str.mk (Array.mk [nat_lit 95, nat_lit 95, nat_lit 115, nat_lit 112, nat_lit 101, nat_lit 99, nat_lit 95, nat_lit 95])) 5 (Value.builtin SZ.s11665532747177232413x24), kent P (Str.mk (Array.mk [nat_lit 95, nat_lit 95, nat_lit 98, nat_lit 117, nat_lit 105, nat_lit 108, nat_lit 100, nat_lit 95, nat_lit 99, nat_lit 108, nat_lit 97, nat_lit 115, nat_lit 115, nat_lit 95, nat_lit 95])) 6 (Value.builtin SZ.s15183661809925369436x15), kent P (Str.mk (Array.mk [nat_lit 95, nat_lit 95, nat_lit 105, nat_lit 109, nat_lit 112, nat_lit 111, nat_lit 114, nat_lit 116, nat_lit 95, nat_lit 95])) 7 (Value.builtin SZ.s13915890719876406383x10), kent P (Str.mk (Array.mk [nat_lit 97, nat_lit 98, nat_lit 115])) 8 (Value.builtin SZ.s13459172003223722735x3), kent P (Str.mk (Array.mk [nat_lit 97, nat_lit 108, nat_lit 108])) 9 (Value.builtin SZ.s10557405761357834076x3), kent P (Str.mk (Array.mk [nat_lit 97, nat_lit 110, nat_lit 121])) 10 (Value.builtin SZ.s4233737765568776869x3), kent P (Str.mk (Array.mk [nat_lit 97, nat_lit 115, nat_lit 99, nat_lit 105, nat_lit 105])) 11 (Value.builtin SZ.s2508922471967985374x5), kent P (Str.mk (Array.mk [nat_lit 98, nat_lit 105, nat_lit 110])) 12 (Value.builtin SZ.s15574269061696679450x3), kent P (Str.mk (Array.mk [nat_lit 98, nat_lit 114, nat_lit 101, nat_lit 97, nat_lit 107, nat_lit 112, nat_lit 111, nat_lit 105, nat_lit 110, nat_lit 116])) 13 (Value.builtin SZ.s6016482663378992977x10), kent P (Str.mk (Array.mk [nat_lit 99, nat_lit 97, nat_lit 108, nat_lit 108, nat_lit 97, nat_lit 98, nat_lit 108, nat_lit 101])) 14 (Value.builtin SZ.s5596568736180474577x8), kent P (Str.mk (Array.mk [nat_lit 99, nat_lit 104, nat_lit 114])) 15 (Value.builtin SZ.s2839554839881490554x3), kent P (Str.mk (Array.mk [nat_lit 99, nat_lit 111, nat_lit 109, nat_lit 112, nat_lit 105, nat_lit 108, nat_lit 101])) 16 (Value.builtin SZ.s725004073602090463x7), kent P (Str.mk (Array.mk [nat_lit 100, nat_lit 101, nat_lit 108, nat_lit 97, nat_lit 116, nat_lit 116, nat_lit 114])) 17 (Value.builtin SZ.s9436932552931045734x7), kent P (Str.mk (Array.mk [nat_lit 100, nat_lit 105, nat_lit 114])) 18 (Value.builtin SZ.s2754603736356183583x3), kent P (Str.mk (Array.mk [nat_lit 100, nat_lit 105, nat_lit 118, nat_lit 109, nat_lit 111, nat_lit 100])) 19 (Value.builtin SZ.s15185746759980889043x6), kent P (Str.mk (Array.mk [nat_lit 101, nat_lit 118, nat_lit 97, nat_lit 108])) 20 (Value.builtin SZ.s8192189862530294059x4), kent P (Str.mk (Array.mk [nat_lit 101, nat_lit 120, nat_lit 101, nat_lit 99])) 21 (Value.builtin SZ.s7038307821325472102x4), kent P (Str.mk (Array.mk [nat_lit 102, nat_lit 111, nat_lit 114, nat_lit 109, nat_lit 97, nat_lit 116])) 22 (Value.builtin SZ.s5662562618415449548x6), kent P (Str.mk (Array.mk [nat_lit 103, nat_lit 101, nat_lit 116, nat_lit 97, nat_lit 116, nat_lit 116, nat_lit 114])) 23 (Value.builtin SZ.s15281542589158584767x7), kent P (Str.mk (Array.mk [nat_lit 103, nat_lit 108, nat_lit 111, nat_lit 98, nat_lit 97, nat_lit 108, nat_lit 115])) 24 (Value.builtin SZ.s17651547275483570877x7), kent P (Str.mk (Array.mk [nat_lit 104, nat_lit 97, nat_lit 115, nat_lit 97, nat_lit 116, nat_lit 116, nat_lit 114])) 25 (Value.builtin SZ.s4036449017235975746x7), kent P (Str.mk (Array.mk [nat_lit 104, nat_lit 97, nat_lit 115, nat_lit 104])) 26 (Value.builtin SZ.s8879979712987360175x4), kent P (Str.mk (Array.mk [nat_lit 104, nat_lit 101, nat_lit 120])) 27 (Value.builtin SZ.s1801250619170735830x3), kent P (Str.mk (Array.mk [nat_lit 105, nat_lit 100])) 28 (Value.builtin SZ.s17659931425627118568x2), kent P (Str.mk (Array.mk [nat_lit 105, nat_lit 110, nat_lit 112, nat_lit 117, nat_lit 116])) 29 (Value.builtin SZ.s6063217899685152688x5), kent P (Str.mk (Array.mk [nat_lit 105, nat_lit 115, nat_lit 105, nat_lit 110, nat_lit 115, nat_lit 116, nat_lit 97, nat_lit 110, nat_lit 99, nat_lit 101])) 30 (Value.builtin SZ.s8008927332132565319x10), kent P (Str.mk (Array.mk [nat_lit 105, nat_lit 115, nat_lit 115, nat_lit 117, nat_lit 98, nat_lit 99, nat_lit 108, nat_lit 97, nat_lit 115, nat_lit 115])) 31 (Value.builtin SZ.s3544116645089599534x10), kent P (Str.mk (Array.mk [nat_lit 105, nat_lit 116, nat_lit 101, nat_lit 114])) 32 (Value.builtin SZ.s13761710972054866084x4), kent P (Str.mk (Array.mk [nat_lit 97, nat_lit 105, nat_lit 116, nat_lit 101, nat_lit 114])) 33 (Value.builtin SZ.s12896375587409280029x5), kent P (Str.mk (Array.mk [nat_lit 108, nat_lit 101, nat_lit 110])) 34 (Value.builtin SZ.s13014049009108672802x3), kent P (Str.mk (Array.mk [nat_lit 108, nat_lit 111, nat_lit 99, nat_lit 97, nat_lit 108, nat_lit 115])) 35 (Value.builtin SZ.s13935586738268321596x6), kent P (Str.mk (Array.mk [nat_lit 109, nat_lit 97, nat_lit 120])) 36 (Value.builtin SZ.s8200498257699607233x3), kent P (Str.mk (Array.mk [nat_lit 109, nat_lit 105, nat_lit 110])) 37 (Value.builtin SZ.s14114244577727609259x3), kent P (Str.mk (Array.mk [nat_lit 110, nat_lit 101, nat_lit 120, nat_lit 116])) 38 (Value.builtin SZ.s1499430450269397089x4), kent P (Str.mk (Array.mk [nat_lit 97, nat_lit 110, nat_lit 101, nat_lit 120, nat_lit 116])) 39 (Value.builtin SZ.s8755793994789770505x5), kent P (Str.mk (Array.mk [nat_lit 111, nat_lit 99, nat_lit 116])) 40 (Value.builtin SZ.s15725212667919936108x3), kent P (Str.mk (Array.mk [nat_lit 111, nat_lit 114, nat_lit 100])) 41 (Value.builtin SZ.s15791221867095933363x3), kent P (Str.mk (Array.mk [nat_lit 112, nat_lit 111, nat_lit 119])) 42 (Value.builtin SZ.s81309575031448614x3), kent P (Str.mk (Array.mk [nat_lit 112, nat_lit 114, nat_lit 105, nat_lit 110, nat_lit 116])) 43 (Value.builtin SZ.s8069831620301644142x5), kent P (Str.mk (Array.mk [nat_lit 114, nat_lit 101, nat_lit 112, nat_lit 114])) 44 (Value.builtin SZ.s10061844253413749634x4), kent P (Str.mk (Array.mk [nat_lit 114, nat_lit 111, nat_lit 117, nat_lit 110, nat_lit 100])) 45 (Value.builtin SZ.s9496514870978017513x5), kent P (Str.mk (Array.mk [nat_lit 115, nat_lit 101, nat_lit 116, nat_lit 97, nat_lit 116, nat_lit 116, nat_lit 114])) 46 (Value.builtin SZ.s8899691144933366716x7), kent P (Str.mk (Array.mk [nat_lit 115, nat_lit 111, nat_lit 114, nat_lit 116, nat_lit 101, nat_lit 100])) 47 (Value.builtin SZ.s15201008993051130160x6), kent P (Str.mk (Array.mk [nat_lit 115, nat_lit 117, nat_lit 109])) 48 (Value.builtin SZ.s741896355592496720x3), kent P (Str.mk (Array.mk [nat_lit 118, nat_lit 97, nat_lit 114, nat_lit 115])) 49 (Value.builtin SZ.s17925004256654032244x4), kent P (Str.mk (Array.mk [nat_lit 78, nat_lit 111, nat_lit 110, nat_lit 101])) 50 (Value.none), kent P (Str.mk (Array.mk [nat_lit 69, nat_lit 108, nat_lit 108, nat_lit 105, nat_lit 112, nat_lit 115, nat_lit 105, nat_lit 115])) 51 (Value.ellipsis), kent P (Str.mk (Array.mk [nat_lit 78, nat_lit 111, nat_lit 116, nat_lit 73, nat_lit 109, nat_lit 112, nat_lit 108, nat_lit 101, nat_lit 109, nat_lit 101, nat_lit 110, nat_lit 116, nat_lit 101, nat_lit 100])) 52 (Value.notImplemented), kent P (Str.mk (Array.mk [nat_lit 70, nat_lit 97, nat_lit 108, nat_lit 115, nat_lit 101])) 53 (Value.bool false), kent P (Str.mk (Array.mk [nat_lit 84, nat_lit 114, nat_lit 117, nat_lit 101])) 54 (Value.bool true), kent P (Str.mk (Array.mk [nat_lit 98, nat_lit 111, nat_lit 111, nat_lit 108])) 55 (Value.type SZ.s11695548795398191787x4), kent P (Str.mk (Array.mk [nat_lit 109, nat_lit 101, nat_lit 109, nat_lit 111, nat_lit 114, nat_lit 121, nat_lit 118, nat_lit 105, nat_lit 101, nat_lit 119])) 56 (Value.type SZ.s4156966113859768872x10), kent P (Str.mk (Array.mk [nat_lit 98, nat_lit 121, nat_lit 116, nat_lit 101, nat_lit 97, nat_lit 114, nat_lit 114, nat_lit 97, nat_lit 121])) 57 (Value.type SZ.s9501651726347032510x9), kent P (Str.mk (Array.mk [nat_lit 98, nat_lit 121, nat_lit 116, nat_lit 101, nat_lit 115])) 58 (Value.type SZ.s15722918466584999320x5), kent P (Str.mk (Array.mk [nat_lit 99, nat_lit 108, nat_lit 97, nat_lit 115, nat_lit 115, nat_lit 109, nat_lit 101, nat_lit 116, nat_lit 104, nat_lit 111, nat_lit 100])) 59 (Value.type SZ.s591115383303110208x11), kent P (Str.mk (Array.mk [nat_lit 99, nat_lit 111, nat_lit 109, nat_lit 112, nat_lit 108, nat_lit 101, nat_lit 120])) 60 (Value.type SZ.s15721156781594690315x7), kent P (Str.mk (Array.mk [nat_lit 100, nat_lit 105, nat_lit 99, nat_lit 116])) 61 (Value.type SZ.s14018661285674007319x4), kent P (Str.mk (Array.mk [nat_lit 101, nat_lit 110, nat_lit 117, nat_lit 109, nat_lit 101, nat_lit 114, nat_lit 97, nat_lit 116, nat_lit 101])) 62 (Value.type SZ.s14340494229221121180x9), kent P (Str.mk (Array.mk [nat_lit 102, nat_lit 105, nat_lit 108, nat_lit 116, nat_lit 101, nat_lit 114])) 63 (Value.type SZ.s13429844117177748173x6), kent P (Str.mk (Array.mk [nat_lit 102, nat_lit 108, nat_lit 111, nat_lit 97, nat_lit 116])) 64 (Value.type SZ.s16463266125957815391x5), kent P (Str.mk (Array.mk [nat_lit 102, nat_lit 114, nat_lit 111, nat_lit 122, nat_lit 101, nat_lit 110, nat_lit 115, nat_lit 101, nat_lit 116])) 65 (Value.type SZ.s4922535414793169389x9), kent P (Str.mk (Array.mk [nat_lit 112, nat_lit 114, nat_lit 111, nat_lit 112, nat_lit 101, nat_lit 114, nat_lit 116, nat_lit 121])) 66 (Value.type SZ.s8101838861749082086x8), kent P (Str.mk (Array.mk [nat_lit 105, nat_lit 110, nat_lit 116])) 67 (Value.type SZ.s7066276694103001551x3), kent P (Str.mk (Array.mk [nat_lit 108, nat_lit 105, nat_lit 115, nat_lit 116])) 68 (Value.type SZ.s9222952809800978799x4), kent P (Str.mk (Array.mk [nat_lit 109, nat_lit 97, nat_lit 112])) 69 (Value.type SZ.s462964344163437139x3), kent P (Str.mk (Array.mk [nat_lit 111, nat_lit 98, nat_lit 106, nat_lit 101, nat_lit 99, nat_lit 116])) 70 (Value.type SZ.s2742458400755230247x6), kent P (Str.mk (Array.mk [nat_lit 114, nat_lit 97, nat_lit 110, nat_lit 103, nat_lit 101])) 71 (Value.type SZ.s1438033511350832697x5), kent P (Str.mk (Array.mk [nat_lit 114, nat_lit 101, nat_lit 118, nat_lit 101, nat_lit 114, nat_lit 115, nat_lit 101, nat_lit 100])) 72 (Value.type SZ.s14365286008749172514x8), kent P (Str.mk (Array.mk [nat_lit 115, nat_lit 101, nat_lit 116])) 73 (Value.type SZ.s3642769012341782148x3), kent P (Str.mk (Array.mk [nat_lit 115, nat_lit 108, nat_lit 105, nat_lit 99, nat_lit 101])) 74 (Value.type SZ.s4674234679698826739x5), kent P (Str.mk (Array.mk [nat_lit 115, nat_lit 116, nat_lit 97, nat_lit 116, nat_lit 105, nat_lit 99, nat_lit 109, nat_lit 101, nat_lit 116, nat_lit 104, nat_lit 111, nat_lit 100])) 75 (Value.type SZ.s16656946322747308186x12), kent P (Str.mk (Array.mk [nat_lit 115, nat_lit 116, nat_lit 114])) 76 (Value.type SZ.s10796804682411823810x3), kent P (Str.mk (Array.mk [nat_lit 115, nat_lit 117, nat_lit 112, nat_lit 101, nat_lit 114])) 77 (Value.type SZ.s4290257624100764138x5), kent P (Str.mk (Array.mk [nat_lit 116, nat_lit 117, nat_lit 112, nat_lit 108, nat_lit 101])) 78 (Value.type SZ.s2766695959194262286x5), kent P (Str.mk (Array.mk [nat_lit 116, nat_lit 121, nat_lit 112, nat_lit 101])) 79 (Value.type SZ.s17162191345867700912x4), kent P (Str.mk (Array.mk [nat_lit 122, nat_lit 105, nat_lit 112])) 80 (Value.type SZ.s14339709457334898076x3), kent P (Str.mk (Array.mk [nat_lit 95, nat_lit 95, nat_lit 100, nat_lit 101, nat_lit 98, nat_lit 117, nat_lit 103, nat_lit 95, nat_lit 95])) 81 (Value.bool true), kent P (Str.mk (Array.mk [nat_lit 66, nat_lit 97, nat_lit 115, nat_lit 101, nat_lit 69, nat_lit 120, nat_lit 99, nat_lit 101, nat_lit 112, nat_lit 116, nat_lit 105, nat_lit 111, nat_lit 110])) 82 (Value.type SZ.s4278001404047624695x13), kent P (Str.mk (Array.mk [nat_lit 66, nat_lit 97, nat_lit 115, nat_lit 101, nat_lit 69, nat_lit 120, nat_lit 99, nat_lit 101, nat_lit 112, nat_lit 116, nat_lit 105, nat_lit 111, nat_lit 110, nat_lit 71, nat_lit 114, nat_lit 111, nat_lit 117, nat_lit 112])) 83 (Value.type SZ.s6585700554429387442x18), kent P (Str.mk (Array.mk [nat_lit 69, nat_lit 120, nat_lit 99, nat_lit 101, nat_lit 112, nat_lit 116, nat_lit 105, nat_lit 111, nat_lit 110])) 84 (Value.type SZ.s5946037652744460706x9), kent P (Str.mk (Array.mk [nat_lit 71, nat_lit 101, nat_lit 110, nat_lit 101, nat_lit 114, nat_lit 97, nat_lit 116, nat_lit 111, nat_lit 114, nat_lit 69, nat_lit 120, nat_lit 105, nat_lit 116])) 85 (Value.type SZ.s7410770068591931388x13), kent P (Str.mk (Array.mk [nat_lit 75, nat_lit 101, nat_lit 121, nat_lit 98, nat_lit 111, nat_lit 97, nat_lit 114, nat_lit 100, nat_lit 73, nat_lit 110, nat_lit 116, nat_lit 101, nat_lit 114, nat_lit 114, nat_lit 117, nat_lit 112, nat_lit 116])) 86 (Value.type SZ.s11817881795495490833x17), kent P (Str.mk (Array.mk [nat_lit 83, nat_lit 121, nat_lit 115, nat_lit 116, nat_lit 101, nat_lit 109, nat_lit 69, nat_lit 120, nat_lit 105, nat_lit 116])) 87 (Value.type SZ.s15679963881808890155x10), kent P (Str.mk (Array.mk [nat_lit 65, nat_lit 114, nat_lit 105, nat_lit 116, nat_lit 104, nat_lit 109, nat_lit 101, nat_lit 116, nat_lit 105, nat_lit 99, nat_lit 69, nat_lit 114, nat_lit 114, nat_lit 111, nat_lit 114])) 88 (Value.type SZ.s3871700062485845797x15), kent P (Str.mk (Array.mk [nat_lit 65, nat_lit 115, nat_lit 115, nat_lit 101, nat_lit 114, nat_lit 116, nat_lit 105, nat_lit 111, nat_lit 110, nat_lit 69, nat_lit 114, nat_lit 114, nat_lit 111, nat_lit 114])) 89 (Value.type SZ.s7689518266570723881x14), kent P (Str.mk (Array.mk [nat_lit 65, nat_lit 116, nat_lit 116, nat_lit 114, nat_lit 105, nat_lit 98, nat_lit 117, nat_lit 116, nat_lit 101, nat_lit 69, nat_lit 114, nat_lit 114, nat_lit 111, nat_lit 114])) 90 (Value.type SZ.s9001593270443806431x14), kent P (Str.mk (Array.mk [nat_lit 66, nat_lit 117, nat_lit 102, nat_lit 102, nat_lit 101, nat_lit 114, nat_lit 69, nat_lit 114, nat_lit 114, nat_lit 111, nat_lit 114])) 91 (Value.type SZ.s6882542574934516792x11), kent P (Str.mk (Array.mk [nat_lit 69, nat_lit 79, nat_lit 70, nat_lit 69, nat_lit 114, nat_lit 114, nat_lit 111, nat_lit 114])) 92 (Value.type SZ.s14403400214490484960x8), kent P (Str.mk (Array.mk [nat_lit 73, nat_lit 109, nat_lit 112, nat_lit 111, nat_lit 114, nat_lit 116, nat_lit 69, nat_lit 114, nat_lit 114, nat_lit 111, nat_lit 114])) 93 (Value.type SZ.s14457978657717015782x11), kent P (Str.mk (Array.mk [nat_lit 76, nat_lit 111, nat_lit 111, nat_lit 107, nat_lit 117, nat_lit 112, nat_lit 69, nat_lit 114, nat_lit 114, nat_lit 111, nat_lit 114])) 94 (Value.type SZ.s1753610191782819921x11), kent P (Str.mk (Array.mk [nat_lit 77, nat_lit 101, nat_lit 109, nat_lit 111, nat_lit 114, nat_lit 121, nat_lit 69, nat_lit 114, nat_lit 114, nat_lit 111, nat_lit 114])) 95 (Value.type SZ.s14119380538032626715x11), kent P (Str.mk (Array.mk [nat_lit 78, nat_lit 97, nat_lit 109, nat_lit 101, nat_lit 69, nat_lit 114, nat_lit 114, nat_lit 111, nat_lit 114])) 96 (Value.type SZ.s11437920000406562045x9), kent P (Str.mk (Array.mk [nat_lit 79, nat_lit 83, nat_lit 69, nat_lit 114, nat_lit 114, nat_lit 111, nat_lit 114])) 97 (Value.type SZ.s10852414792293593619x7), kent P (Str.mk (Array.mk [nat_lit 82, nat_lit 101, nat_lit 102, nat_lit 101, nat_lit 114, nat_lit 101, nat_lit 110, nat_lit 99, nat_lit 101, nat_lit 69, nat_lit 114, nat_lit 114, nat_lit 111, nat_lit 114])) 98 (Value.type SZ.s14816307405966870543x14), kent P (Str.mk (Array.mk [nat_lit 82, nat_lit 117, nat_lit 110, nat_lit 116, nat_lit 105, nat_lit 109, nat_lit 101, nat_lit 69, nat_lit 114, nat_lit 114, nat_lit 111, nat_lit 114])) 99 (Value.type SZ.s8682627914449686677x12), kent P (Str.mk (Array.mk [nat_lit 83, nat_lit 116, nat_lit 111, nat_lit 112, nat_lit 65, nat_lit 115, nat_lit 121, nat_lit 110, nat_lit 99, nat_lit 73, nat_lit 116, nat_lit 101, nat_lit 114, nat_lit 97, nat_lit 116, nat_lit 105, nat_lit 111, nat_lit 110])) 100 (Value.type SZ.s4428170145600203450x18), kent P (Str.mk (Array.mk [nat_lit 83, nat_lit 116, nat_lit 111, nat_lit 112, nat_lit 73, nat_lit 116, nat_lit 101, nat_lit 114, nat_lit 97, nat_lit 116, nat_lit 105, nat_lit 111, nat_lit 110])) 101 (Value.type SZ.s5991306692159431302x13), kent P (Str.mk (Array.mk [nat_lit 83, nat_lit 121, nat_lit 110, nat_lit 116, nat_lit 97, nat_lit 120, nat_lit 69, nat_lit 114, nat_lit 114, nat_lit 111, nat_lit 114])) 102 (Value.type SZ.s16067994140765818257x11), kent P (Str.mk (Array.mk [nat_lit 83, nat_lit 121, nat_lit 115, nat_lit 116, nat_lit 101, nat_lit 109, nat_lit 69, nat_lit 114, nat_lit 114, nat_lit 111, nat_lit 114])) 103 (Value.type SZ.s2327743974964600596x11), kent P (Str.mk (Array.mk [nat_lit 84, nat_lit 121, nat_lit 112, nat_lit 101, nat_lit 69, nat_lit 114, nat_lit 114, nat_lit 111, nat_lit 114])) 104 (Value.type SZ.s2804747833354056582x9), kent P (Str.mk (Array.mk [nat_lit 86, nat_lit 97, nat_lit 108, nat_lit 117, nat_lit 101, nat_lit 69, nat_lit 114, nat_lit 114, nat_lit 111, nat_lit 114])) 105 (Value.type SZ.s6070975301684473832x10), kent P (Str.mk (Array.mk [nat_lit 87, nat_lit 97, nat_lit 114, nat_lit 110, nat_lit 105, nat_lit 110, nat_lit 103])) 106 (Value.type SZ.s14270485950484850486x7), kent P (Str.mk (Array.mk [nat_lit 70, nat_lit 108, nat_lit 111, nat_lit 97, nat_lit 116, nat_lit 105, nat_lit 110, nat_lit 103, nat_lit 80, nat_lit 111, nat_lit 105, nat_lit 110, nat_lit 116, nat_lit 69, nat_lit 114, nat_lit 114, nat_lit 111, nat_lit 114])) 107 (Value.type SZ.s12041534306414923332x18), kent P (Str.mk (Array.mk [nat_lit 79, nat_lit 118, nat_lit 101, nat_lit 114, nat_lit 102, nat_lit 108, nat_lit 111, nat_lit 119, nat_lit 69, nat_lit 114, nat_lit 114, nat_lit 111, nat_lit 114])) 108 (Value.type SZ.s2531307568338490285x13), kent P (Str.mk (Array.mk [nat_lit 90, nat_lit 101, nat_lit 114, nat_lit 111, nat_lit 68, nat_lit 105, nat_lit 118, nat_lit 105, nat_lit 115, nat_lit 105, nat_lit 111, nat_lit 110, nat_lit 69, nat_lit 114, nat_lit 114, nat_lit 111, nat_lit 114])) 109 (Value.type SZ.s631175304937289666x17), kent P (Str.mk (Array.mk [nat_lit 66, nat_lit 121, nat_lit 116, nat_lit 101, nat_lit 115, nat_lit 87, nat_lit 97, nat_lit 114, nat_lit 110, nat_lit 105, nat_lit 110, nat_lit 103])) 110 (Value.type SZ.s5144983644357021410x12), kent P (Str.mk (Array.mk [nat_lit 68, nat_lit 101, nat_lit 112, nat_lit 114, nat_lit 101, nat_lit 99, nat_lit 97, nat_lit 116, nat_lit 105, nat_lit 111, nat_lit 110, nat_lit 87, nat_lit 97, nat_lit 114, nat_lit 110, nat_lit 105, nat_lit 110, nat_lit 103])) 111 (Value.type SZ.s18039099521571816885x18), kent P (Str.mk (Array.mk [nat_lit 69, nat_lit 110, nat_lit 99, nat_lit 111, nat_lit 100, nat_lit 105, nat_lit 110, nat_lit 103, nat_lit 87, nat_lit 97, nat_lit 114, nat_lit 110, nat_lit 105, nat_lit 110, nat_lit 103])) 112 (Value.type SZ.s6011586214260557989x15), kent P (Str.mk (Array.mk [nat_lit 70, nat_lit 117, nat_lit 116, nat_lit 117, nat_lit 114, nat_lit 101, nat_lit 87, nat_lit 97, nat_lit 114, nat_lit 110, nat_lit 105, nat_lit 110, nat_lit 103])) 113 (Value.type SZ.s5430567037509283100x13), kent P (Str.mk (Array.mk [nat_lit 73, nat_lit 109, nat_lit 112, nat_lit 111, nat_lit 114, nat_lit 116, nat_lit 87, nat_lit 97, nat_lit 114, nat_lit 110, nat_lit 105, nat_lit 110, nat_lit 103])) 114 (Value.type SZ.s8117915138073963741x13), kent P (Str.mk (Array.mk [nat_lit 80, nat_lit 101, nat_lit 110, nat_lit 100, nat_lit 105, nat_lit 110, nat_lit 103, nat_lit 68, nat_lit 101, nat_lit 112, nat_lit 114, nat_lit 101, nat_lit 99, nat_lit 97, nat_lit 116, nat_lit 105, nat_lit 111, nat_lit 110, nat_lit 87, nat_lit 97, nat_lit 114, nat_lit 110, nat_lit 105, nat_lit 110, nat_lit 103])) 115 (Value.type SZ.s3423317712779056401x25), kent P (Str.mk (Array.mk [nat_lit 82, nat_lit 101, nat_lit 115, nat_lit 111, nat_lit 117, nat_lit 114, nat_lit 99, nat_lit 101, nat_lit 87, nat_lit 97, nat_lit 114, nat_lit 110, nat_lit 105, nat_lit 110, nat_lit 103])) 116 (Value.type SZ.s2007317383269046180x15), kent P (Str.mk (Array.mk [nat_lit 82, nat_lit 117, nat_lit 110, nat_lit 116, nat_lit 105, nat_lit 109, nat_lit 101, nat_lit 87, nat_lit 97, nat_lit 114, nat_lit 110, nat_lit 105, nat_lit 110, nat_lit 103])) 117 (Value.type SZ.s17481586968713580700x14), kent P (Str.mk (Array.mk [nat_lit 83, nat_lit 121, nat_lit 110, nat_lit 116, nat_lit 97, nat_lit 120, nat_lit 87, nat_lit 97, nat_lit 114, nat_lit 110, nat_lit 105, nat_lit 110, nat_lit 103])) 118 (Value.type SZ.s2450899226349176912x13), kent P (Str.mk (Array.mk [nat_lit 85, nat_lit 110, nat_lit 105, nat_lit 99, nat_lit 111, nat_lit 100, nat_lit 101, nat_lit 87, nat_lit 97, nat_lit 114, nat_lit 110, nat_lit 105, nat_lit 110, nat_lit 103])) 119 (Value.type SZ.s16626165730633575011x14), kent P (Str.mk (Array.mk [nat_lit 85, nat_lit 115, nat_lit 101, nat_lit 114, nat_lit 87, nat_lit 97, nat_lit 114, nat_lit 110, nat_lit 105, nat_lit 110, nat_lit 103])) 120 (Value.type SZ.s14288496050688921416x11), kent P (Str.mk (Array.mk [nat_lit 66, nat_lit 108, nat_lit 111, nat_lit 99, nat_lit 107, nat_lit 105, nat_lit 110, nat_lit 103, nat_lit 73, nat_lit 79, nat_lit 69, nat_lit 114, nat_lit 114, nat_lit 111, nat_lit 114])) 121 (Value.type SZ.s5735081916595925998x15), kent P (Str.mk (Array.mk [nat_lit 67, nat_lit 104, nat_lit 105, nat_lit 108, nat_lit 100, nat_lit 80, nat_lit 114, nat_lit 111, nat_lit 99, nat_lit 101, nat_lit 115, nat_lit 115, nat_lit 69, nat_lit 114, nat_lit 114, nat_lit 111, nat_lit 114])) 122 (Value.type SZ.s3865607918536308442x17), kent P (Str.mk (Array.mk [nat_lit 67, nat_lit 111, nat_lit 110, nat_lit 110, nat_lit 101, nat_lit 99, nat_lit 116, nat_lit 105, nat_lit 111, nat_lit 110, nat_lit 69, nat_lit 114, nat_lit 114, nat_lit 111, nat_lit 114])) 123 (Value.type SZ.s13337502604062700212x15), kent P (Str.mk (Array.mk [nat_lit 70, nat_lit 105, nat_lit 108, nat_lit 101, nat_lit 69, nat_lit 120, nat_lit 105, nat_lit 115, nat_lit 116, nat_lit 115, nat_lit 69, nat_lit 114, nat_lit 114, nat_lit 111, nat_lit 114])) 124 (Value.type SZ.s13114017843053701147x15), kent P (Str.mk (Array.mk [nat_lit 70, nat_lit 105, nat_lit 108, nat_lit 101, nat_lit 78, nat_lit 111, nat_lit 116, nat_lit 70, nat_lit 111, nat_lit 117, nat_lit 110, nat_lit 100, nat_lit 69, nat_lit 114, nat_lit 114, nat_lit 111, nat_lit 114])) 125 (Value.type SZ.s17467278006356818441x17), kent P (Str.mk (Array.mk [nat_lit 73, nat_lit 110, nat_lit 116, nat_lit 101, nat_lit 114, nat_lit 114, nat_lit 117, nat_lit 112, nat_lit 116, nat_lit 101, nat_lit 100, nat_lit 69, nat_lit 114, nat_lit 114, nat_lit 111, nat_lit 114])) 126 (Value.type SZ.s17722149559621369488x16), kent P (Str.mk (Array.mk [nat_lit 73, nat_lit 115, nat_lit 65, nat_lit 68, nat_lit 105, nat_lit 114, nat_lit 101, nat_lit 99, nat_lit 116, nat_lit 111, nat_lit 114, nat_lit 121, nat_lit 69, nat_lit 114, nat_lit 114, nat_lit 111, nat_lit 114])) 127 (Value.type SZ.s7855274175708717672x17), kent P (Str.mk (Array.mk [nat_lit 78, nat_lit 111, nat_lit 116, nat_lit 65, nat_lit 68, nat_lit 105, nat_lit 114, nat_lit 101, nat_lit 99, nat_lit 116, nat_lit 111, nat_lit 114, nat_lit 121, nat_lit 69, nat_lit 114, nat_lit 114, nat_lit 111, nat_lit 114])) 128 (Value.type SZ.s13351283678309829046x18), kent P (Str.mk (Array.mk [nat_lit 80, nat_lit 101, nat_lit 114, nat_lit 109, nat_lit 105, nat_lit 115, nat_lit 115, nat_lit 105, nat_lit 111, nat_lit 110, nat_lit 69, nat_lit 114, nat_lit 114, nat_lit 111, nat_lit 114])) 129 (Value.type SZ.s6668348653404991179x15), kent P (Str.mk (Array.mk [nat_lit 80, nat_lit 114, nat_lit 111, nat_lit 99, nat_lit 101, nat_lit 115, nat_lit 115, nat_lit 76, nat_lit 111, nat_lit 111, nat_lit 107, nat_lit 117, nat_lit 112, nat_lit 69, nat_lit 114, nat_lit 114, nat_lit 111, nat_lit 114])) 130 (Value.type SZ.s12913350958174193794x18), kent P (Str.mk (Array.mk [nat_lit 84, nat_lit 105, nat_lit 109, nat_lit 101, nat_lit 111, nat_lit 117, nat_lit 116, nat_lit 69, nat_lit 114, nat_lit 114, nat_lit 111, nat_lit 114])) 131 (Value.type SZ.s16115879512475548326x12), kent P (Str.mk (Array.mk [nat_lit 73, nat_lit 110, nat_lit 100, nat_lit 101, nat_lit 110, nat_lit 116, nat_lit 97, nat_lit 116, nat_lit 105, nat_lit 111, nat_lit 110, nat_lit 69, nat_lit 114, nat_lit 114, nat_lit 111, nat_lit 114])) 132 (Value.type SZ.s15920661018069861047x16), kent P (Str.mk (Array.mk [nat_lit 95, nat_lit 73, nat_lit 110, nat_lit 99, nat_lit 111, nat_lit 109, nat_lit 112, nat_lit 108, nat_lit 101, nat_lit 116, nat_lit 101, nat_lit 73, nat_lit 110, nat_lit 112, nat_lit 117, nat_lit 116, nat_lit 69, nat_lit 114, nat_lit 114, nat_lit 111, nat_lit 114])) 133 (Value.type SZ.s10779130036587390575x21), kent P (Str.mk (Array.mk [nat_lit 73, nat_lit 110, nat_lit 100, nat_lit 101, nat_lit 120, nat_lit 69, nat_lit 114, nat_lit 114, nat_lit 111, nat_lit 114])) 134 (Value.type SZ.s7801419657504700863x10), kent P (Str.mk (Array.mk [nat_lit 75, nat_lit 101, nat_lit 121, nat_lit 69, nat_lit 114, nat_lit 114, nat_lit 111, nat_lit 114])) 135 (Value.type SZ.s1688129525768580628x8), kent P (Str.mk (Array.mk [nat_lit 77, nat_lit 111, nat_lit 100, nat_lit 117, nat_lit 108, nat_lit 101, nat_lit 78, nat_lit 111, nat_lit 116, nat_lit 70, nat_lit 111, nat_lit 117, nat_lit 110, nat_lit 100, nat_lit 69, nat_lit 114, nat_lit 114, nat_lit 111, nat_lit 114])) 136 (Value.type SZ.s1031832959479892071x19), kent P (Str.mk (Array.mk [nat_lit 78, nat_lit 111, nat_lit 116, nat_lit 73, nat_lit 109, nat_lit 112, nat_lit 108, nat_lit 101, nat_lit 109, nat_lit 101, nat_lit 110, nat_lit 116, nat_lit 101, nat_lit 100, nat_lit 69, nat_lit 114, nat_lit 114, nat_lit 111, nat_lit 114])) 137 (Value.type SZ.s8991790508128307865x19), kent P (Str.mk (Array.mk [nat_lit 80, nat_lit 121, nat_lit 116, nat_lit 104, nat_lit 111, nat_lit 110, nat_lit 70, nat_lit 105, nat_lit 110, nat_lit 97, nat_lit 108, nat_lit 105, nat_lit 122, nat_lit 97, nat_lit 116, nat_lit 105, nat_lit 111, nat_lit 110, nat_lit 69, nat_lit 114, nat_lit 114, nat_lit 111, nat_lit 114])) 138 (Value.type SZ.s14539662485746970245x23), kent P (Str.mk (Array.mk [nat_lit 82, nat_lit 101, nat_lit 99, nat_lit 117, nat_lit 114, nat_lit 115, nat_lit 105, nat_lit 111, nat_lit 110, nat_lit 69, nat_lit 114, nat_lit 114, nat_lit 111, nat_lit 114])) 139 (Value.type SZ.s11643622729373238714x14), kent P (Str.mk (Array.mk [nat_lit 85, nat_lit 110, nat_lit 98, nat_lit 111, nat_lit 117, nat_lit 110, nat_lit 100, nat_lit 76, nat_lit 111, nat_lit 99, nat_lit 97, nat_lit 108, nat_lit 69, nat_lit 114, nat_lit 114, nat_lit 111, nat_lit 114])) 140 (Value.type SZ.s3386828779285465597x17), kent P (Str.mk (Array.mk [nat_lit 85, nat_lit 110, nat_lit 105, nat_lit 99, nat_lit 111, nat_lit 100, nat_lit 101, nat_lit 69, nat_lit 114, nat_lit 114, nat_lit 111, nat_lit 114])) 141 (Value.type SZ.s13042696260734638735x12), kent P (Str.mk (Array.mk [nat_lit 66, nat_lit 114, nat_lit 111, nat_lit 107, nat_lit 101, nat_lit 110, nat_lit 80, nat_lit 105, nat_lit 112, nat_lit 101, nat_lit 69, nat_lit 114, nat_lit 114, nat_lit 111, nat_lit 114])) 142 (Value.type SZ.s18239426817015966623x15), kent P (Str.mk (Array.mk [nat_lit 67, nat_lit 111, nat_lit 110, nat_lit 110, nat_lit 101, nat_lit 99, nat_lit 116, nat_lit 105, nat_lit 111, nat_lit 110, nat_lit 65, nat_lit 98, nat_lit 111, nat_lit 114, nat_lit 116, nat_lit 101, nat_lit 100, nat_lit 69, nat_lit 114, nat_lit 114, nat_lit 111, nat_lit 114])) 143 (Value.type SZ.s1270395311379034370x22), kent P (Str.mk (Array.mk [nat_lit 67, nat_lit 111, nat_lit 110, nat_lit 110, nat_lit 101, nat_lit 99, nat_lit 116, nat_lit 105, nat_lit 111, nat_lit 110, nat_lit 82, nat_lit 101, nat_lit 102, nat_lit 117, nat_lit 115, nat_lit 101, nat_lit 100, nat_lit 69, nat_lit 114, nat_lit 114, nat_lit 111, nat_lit 114])) 144 (Value.type SZ.s10696252587037064777x22), kent P (Str.mk (Array.mk [nat_lit 67, nat_lit 111, nat_lit 110, nat_lit 110, nat_lit 101, nat_lit 99, nat_lit 116, nat_lit 105, nat_lit 111, nat_lit 110, nat_lit 82, nat_lit 101, nat_lit 115, nat_lit 101, nat_lit 116, nat_lit 69, nat_lit 114, nat_lit 114, nat_lit 111, nat_lit 114])) 145 (Value.type SZ.s7852717498200857586x20), kent P (Str.mk (Array.mk [nat_lit 84, nat_lit 97, nat_lit 98, nat_lit 69, nat_lit 114, nat_lit 114, nat_lit 111, nat_lit 114])) 146 (Value.type SZ.s6377248116197321094x8), kent P (Str.mk (Array.mk [nat_lit 85, nat_lit 110, nat_lit 105, nat_lit 99, nat_lit 111, nat_lit 100, nat_lit 101, nat_lit 68, nat_lit 101, nat_lit 99, nat_lit 111, nat_lit 100, nat_lit 101, nat_lit 69, nat_lit 114, nat_lit 114, nat_lit 111, nat_lit 114])) 147 (Value.type SZ.s3834378056692298002x18), kent P (Str.mk (Array.mk [nat_lit 85, nat_lit 110, nat_lit 105, nat_lit 99, nat_lit 111, nat_lit 100, nat_lit 101, nat_lit 69, nat_lit 110, nat_lit 99, nat_lit 111, nat_lit 100, nat_lit 101, nat_lit 69, nat_lit 114, nat_lit 114, nat_lit 111, nat_lit 114])) 148 (Value.type SZ.s17586630440231065808x18), kent P (Str.mk (Array.mk [nat_lit 85, nat_lit 110, nat_lit 105, nat_lit 99, nat_lit 111, nat_lit 100, nat_lit 101, nat_lit 84, nat_lit 114, nat_lit 97, nat_lit 110, nat_lit 115, nat_lit 108, nat_lit 97, nat_lit 116, nat_lit 101, nat_lit 69, nat_lit 114, nat_lit 114, nat_lit 111, nat_lit 114])) 149 (Value.type SZ.s15234114252648025395x21), kent P (Str.mk (Array.mk [nat_lit 69, nat_lit 120, nat_lit 99, nat_lit 101, nat_lit 112, nat_lit 116, nat_lit 105, nat_lit 111, nat_lit 110, nat_lit 71, nat_lit 114, nat_lit 111, nat_lit 117, nat_lit 112])) 150 (Value.type SZ.s8496462677383758984x14), kent P (Str.mk (Array.mk [nat_lit 69, nat_lit 110, nat_lit 118, nat_lit 105, nat_lit 114, nat_lit 111, nat_lit 110, nat_lit 109, nat_lit 101, nat_lit 110, nat_lit 116, nat_lit 69, nat_lit 114, nat_lit 114, nat_lit 111, nat_lit 114])) 151 (Value.type SZ.s10852414792293593619x7), kent P (Str.mk (Array.mk [nat_lit 73, nat_lit 79, nat_lit 69, nat_lit 114, nat_lit 114, nat_lit 111, nat_lit 114])) 152 (Value.type SZ.s10852414792293593619x7), kent P (Str.mk (Array.mk [nat_lit 111, nat_lit 112, nat_lit 101, nat_lit 110])) 153 (Value.builtin SZ.s16789243406116112673x4), kent P (Str.mk (Array.mk [nat_lit 113, nat_lit 117, nat_lit 105, nat_lit 116])) 154 (Value.builtin SZ.s14400166428656793546x20), kent P (Str.mk (Array.mk [nat_lit 101, nat_lit 120, nat_lit 105, nat_lit 116])) 155 (Value.builtin SZ.s5857708277339239366x20), kent P (Str.mk (Array.mk [nat_lit 99, nat_lit 111, nat_lit 112, nat_lit 121, nat_lit 114, nat_lit 105, nat_lit 103, nat_lit 104, nat_lit 116])) 156 (Value.builtin "builtins.copyright#opaque"), kent P (Str.mk (Array.mk [nat_lit 99, nat_lit 114, nat_lit 101, nat_lit 100, nat_lit 105, nat_lit 116, nat_lit 115])) 157 (Value.builtin "builtins.credits#opaque"), kent P (Str.mk (Array.mk [nat_lit 108, nat_lit 105, nat_lit 99, nat_lit 101, nat_lit 110, nat_lit 115, nat_lit 101])) 158 (Value.builtin "builtins.license#opaque"), kent P (Str.mk (Array.mk [nat_lit 104, nat_lit 101, nat_lit 108, nat_lit 112])) 159 (Value.builtin SZ.s7804999707787243718x20)]) 159 }),
    (nat_lit 2, { cls := Value.none, data := Data.dict #[] }),
    (nat_lit 3, { cls := Value.type SZ.s14018661285674007319x4, data := Data.dict (List.toArray [kent P (Str.mk (Array.mk [nat_lit 95, nat_lit 95, nat_lit 110, nat_lit 97, nat_lit 109, nat_lit 101, nat_lit 95, nat_lit 95])) 165 (Value.str (Str.mk (Array.mk [nat_lit 108, nat_lit 97, nat_lit 119, nat_lit 95, nat_lit 120, nat_lit 101, nat_lit 48, nat_lit 48, nat_lit 53, nat_lit 53, nat_lit 95, nat_lit 48, nat_lit 49])) 489), kent P (Str.mk (Array.mk [nat_lit 95, nat_lit 95, nat_lit 100, nat_lit 111, nat_lit 99, nat_lit 95, nat_lit 95])) 166 (Value.none), kent P (Str.mk (Array.mk [nat_lit 95, nat_lit 95, nat_lit 112, nat_lit 97, nat_lit 99, nat_lit 107, nat_lit 97, nat_lit 103, nat_lit 101, nat_lit 95, nat_lit 95])) 167 (Value.none), kent P (Str.mk (Array.mk [nat_lit 95, nat_lit 95, nat_lit 108, nat_lit 111, nat_lit 97, nat_lit 100, nat_lit 101, nat_lit 114, nat_lit 95, nat_lit 95])) 168 (Value.builtin SZ.s7097527257260152453x26), kent P (Str.mk (Array.mk [nat_lit 95, nat_lit 95, nat_lit 115, nat_lit 112, nat_lit 101, nat_lit 99, nat_lit 95, nat_lit 95])) 169 (Value.none), kent P (Str.mk (Array.mk [nat_lit 95, nat_lit 95, nat_lit 97, nat_lit 110, nat_lit 110, nat_lit 111, nat_lit 116, nat_lit 97, nat_lit 116, nat_lit 105, nat_lit 111, nat_lit 110, nat_lit 115, nat_lit 95, nat_lit 95])) 170 (Value.ref 6), kent P (Str.mk (Array.mk [nat_lit 95, nat_lit 95, nat_lit 98, nat_lit 117, nat_lit 105, nat_lit 108, nat_lit 116, nat_lit 105, nat_lit 110, nat_lit 115, nat_lit 95, nat_lit 95])) 171 (Value.ref 4), kent P (Str.mk (Array.mk [nat_lit 95, nat_lit 95, nat_lit 102, nat_lit 105, nat_lit 108, nat_lit 101, nat_lit 95, nat_lit 95])) 173 (Value.str (Str.mk (Array.mk [nat_lit 47, nat_lit 99, nat_lit 108, nat_lit 97, nat_lit 105, nat_lit 109, nat_lit 47, nat_lit 99, nat_lit 117, nat_lit 116, nat_lit 46, nat_lit 112, nat_lit 121])) 172), kent P (Str.mk (Array.mk [nat_lit 95, nat_lit 95, nat_lit 99, nat_lit 97, nat_lit 99, nat_lit 104, nat_lit 101, nat_lit 100, nat_lit 95, nat_lit 95])) 174 (Value.none), kent P (Str.mk (Array.mk [nat_lit 95, nat_lit 119, nat_lit 97, nat_lit 108, nat_lit 108])) 193 (Value.ref 21), kent P (Str.mk (Array.mk [nat_lit 95, nat_lit 116, nat_lit 117, nat_lit 112, nat_lit 108, nat_lit 101, nat_lit 103, nat_lit 101, nat_lit 116, nat_lit 116, nat_lit 101, nat_lit 114])) 252 (Value.ref 60), kent P (Str.mk (Array.mk [nat_lit 95, nat_lit 77, nat_lit 65, nat_lit 88, nat_lit 95, nat_lit 76, nat_lit 69, nat_lit 78, nat_lit 71, nat_lit 84, nat_lit 72])) 254 (Value.int 80 253), kent P (Str.mk (Array.mk [nat_lit 95, nat_lit 80, nat_lit 76, nat_lit 65, nat_lit 67, nat_lit 69, nat_lit 72, nat_lit 79, nat_lit 76, nat_lit 68, nat_lit 69, nat_lit 82, nat_lit 95, nat_lit 76, nat_lit 69, nat_lit 78])) 256 (Value.int 12 255), kent P (Str.mk (Array.mk [nat_lit 95, nat_lit 77, nat_lit 73, nat_lit 78, nat_lit 95, nat_lit 66, nat_lit 69, nat_lit 71, nat_lit 73, nat_lit 78, nat_lit 95, nat_lit 76, nat_lit 69, nat_lit 78])) 258 (Value.int 5 257), kent P (Str.mk (Array.mk [nat_lit 95, nat_lit 77, nat_lit 73, nat_lit 78, nat_lit 95, nat_lit 69, nat_lit 78, nat_lit 68, nat_lit 95, nat_lit 76, nat_lit 69, nat_lit 78])) 260 (Value.int 5 259), kent P (Str.mk (Array.mk [nat_lit 95, nat_lit 77, nat_lit 73, nat_lit 78, nat_lit 95, nat_lit 67, nat_lit 79, nat_lit 77, nat_lit 77, nat_lit 79, nat_lit 78, nat_lit 95, nat_lit 76, nat_lit 69, nat_lit 78])) 262 (Value.int 5 261), kent P (Str.mk (Array.mk [nat_lit 95, nat_lit 77, nat_lit 73, nat_lit 78, nat_lit 95, nat_lit 68, nat_lit 73, nat_lit 70, nat_lit 70, nat_lit 95, nat_lit 76, nat_lit 69, nat_lit 78])) 268 (Value.int 41 267), kent P (Str.mk (Array.mk [nat_lit 95, nat_lit 115, nat_lit 104, nat_lit 111, nat_lit 114, nat_lit 116, nat_lit 101, nat_lit 110])) 278 (Value.ref 71), kent P (Str.mk (Array.mk [nat_lit 95, nat_lit 107, nat_lit 105, nat_lit 110, nat_lit 100])) 289 (Value.ref 78), kent P (Str.mk (Array.mk [nat_lit 95, nat_lit 102, nat_lit 115, nat_lit 112, nat_lit 97, nat_lit 116, nat_lit 104])) 298 (Value.ref 85), kent P (Str.mk (Array.mk [nat_lit 95, nat_lit 112, nat_lit 114, nat_lit 101, nat_lit 102, nat_lit 105, nat_lit 120])) 309 (Value.ref 92), kent P (Str.mk (Array.mk [nat_lit 99, nat_lit 111, nat_lit 109, nat_lit 109, nat_lit 111, nat_lit 110, nat_lit 112, nat_lit 114, nat_lit 101, nat_lit 102, nat_lit 105, nat_lit 120])) 315 (Value.ref 97), kent P (Str.mk (Array.mk [nat_lit 95, nat_lit 99, nat_lit 111, nat_lit 109, nat_lit 109, nat_lit 111, nat_lit 110, nat_lit 95, nat_lit 115, nat_lit 104, nat_lit 111, nat_lit 114, nat_lit 116, nat_lit 101, nat_lit 110, nat_lit 95, nat_lit 114, nat_lit 101, nat_lit 112, nat_lit 114])) 328 (Value.ref 104), kent P (Str.mk (Array.mk [nat_lit 115, nat_lit 97, nat_lit 102, nat_lit 101, nat_lit 95, nat_lit 114, nat_lit 101, nat_lit 112, nat_lit 114])) 337 (Value.ref 112), kent P (Str.mk (Array.mk [nat_lit 77, nat_lit 105, nat_lit 115, nat_lit 109, nat_lit 97, nat_lit 116, nat_lit 99, nat_lit 104])) 465 (Value.ref 183), kent P (Str.mk (Array.mk [nat_lit 95, nat_lit 77, nat_lit 105, nat_lit 115, nat_lit 109, nat_lit 97, nat_lit 116, nat_lit 99, nat_lit 104])) 466 (Value.ref 183), kent P (Str.mk (Array.mk [nat_lit 95, nat_lit 99, nat_lit 111, nat_lit 117, nat_lit 110, nat_lit 116, nat_lit 95, nat_lit 100, nat_lit 105, nat_lit 102, nat_lit 102, nat_lit 95, nat_lit 97, nat_lit 108, nat_lit 108, nat_lit 95, nat_lit 112, nat_lit 117, nat_lit 114, nat_lit 112, nat_lit 111, nat_lit 115, nat_lit 101])) 488 (Value.ref 193), kent P (Str.mk (Array.mk [nat_lit 95, nat_lit 108, nat_lit 97, nat_lit 119, nat_lit 95, nat_lit 102, nat_lit 105, nat_lit 114, nat_lit 115, nat_lit 116])) 496 (Value.ref 198), kent P (Str.mk (Array.mk [nat_lit 108, nat_lit 97, nat_lit 119])) 502 (Value.ref 203)]) 29 }),
    (nat_lit 70, { cls := Value.type "code", data := Data.fields #[Value.str "_shorten" 269, Value.str "_shorten" 270, Value.str "/claim/cut.py" 271, Value.int 29 0, Value.int 3 0, Value.int 0 0, Value.int 0 0, Value.int 3 0, Value.ref 65, Value.bool true, Value.int 181 0, Value.ref 66, Value.none, Value.ref 67, Value.ref 68, Value.ref 69, Value.int 276 0, Value.int 29 0, Value.str "/claim/cut.py" 277] }),
    (nat_lit 71, { cls := Value.type "function", data := Data.func { name := "_shorten", qualname := "_shorten", params := fArgs (stN 9), body := .stmts (fBody (stN 9)), scope := fScope (stN 9), globals := 3, closure := [], defaults := Value.none, kwdefaults := Value.none, pyModule := Value.str "cpy313.unittest.util" 194, code := Value.ref 70 } }),
    (nat_lit 77, { cls := Value.type "code", data := Data.fields #[Value.str "_kind" 281, Value.str "_kind" 282, Value.str "/claim/cut.py" 283, Value.int 35 0, Value.int 2 0, Value.int 0 0, Value.int 0 0, Value.int 3 0, Value.ref 72, Value.bool true, Value.int 181 0, Value.ref 73, Value.none, Value.ref 74, Value.ref 75, Value.ref 76, Value.int 287 0, Value.int 35 0, Value.str "/claim/cut.py" 288] }),
    (nat_lit 78, { cls := Value.type "function", data := Data.func { name := "_kind", qualname := "_kind", params := fArgs (stN 11), body := .stmts (fBody (stN 11)), scope := fScope (stN 11), globals := 3, closure := [], defaults := Value.none, kwdefaults := Value.none, pyModule := Value.str "os.path" 279, code := Value.ref 77 } }),
    (nat_lit 84, { cls := Value.type "code", data := Data.fields #[Value.str "_fspath" 290, Value.str "_fspath" 291, Value.str "/claim/cut.py" 292, Value.int 56 0, Value.int 2 0, Value.int 0 0, Value.int 0 0, Value.int 3 0, Value.ref 79, Value.bool true, Value.int 181 0, Value.ref 80, Value.none, Value.ref 81, Value.ref 82, Value.ref 83, Value.int 296 0, Value.int 56 0, Value.str "/claim/cut.py" 297] }),
    (nat_lit 85, { cls := Value.type "function", data := Data.func { name := "_fspath", qualname := "_fspath", params := fArgs (stN 12), body := .stmts (fBody (stN 12)), scope := fScope (stN 12), globals := 3, closure := [], defaults := Value.none, kwdefaults := Value.none, pyModule := Value.str "os.path" 279, code := Value.ref 84 } }),
    (nat_lit 91, { cls := Value.type "code", data := Data.fields #[Value.str "_prefix" 299, Value.str "_prefix" 300, Value.str "/claim/cut.py" 301, Value.int 61 0, Value.int 1 0, Value.int 0 0, Value.int 0 0, Value.int 3 0, Value.ref 86, Value.bool true, Value.int 181 0, Value.ref 87, Value.none, Value.ref 88, Value.ref 89, Value.ref 90, Value.int 307 0, Value.int 61 0, Value.str "/claim/cut.py" 308] }),
    (nat_lit 92, { cls := Value.type "function", data := Data.func { name := "_prefix", qualname := "_prefix", params := fArgs (stN 13), body := .stmts (fBody (stN 13)), scope := fScope (stN 13), globals := 3, closure := [], defaults := Value.none, kwdefaults := Value.none, pyModule := Value.str "os.path" 279, code := Value.ref 91 } }),
    (nat_lit 96, { cls := Value.type "code", data := Data.fields #[Value.str "commonprefix" 310, Value.str "commonprefix" 311, Value.str "/claim/cut.py" 312, Value.int 68 0, Value.int 1 0, Value.int 0 0, Value.int 0 0, Value.int 3 0, Value.ref 93, Value.bool true, Value.int 181 0, Value.ref 94, Value.none, Value.none, Value.none, Value.ref 95, Value.int 313 0, Value.int 68 0, Value.str "/claim/cut.py" 314] }),
    (nat_lit 97, { cls := Value.type "function", data := Data.func { name := "commonprefix", qualname := "commonprefix", params := fArgs (stN 14), body := .stmts (fBody (stN 14)), scope := fScope (stN 14), globals := 3, closure := [], defaults := Value.none, kwdefaults := Value.none, pyModule := Value.str "os.path" 279, code := Value.ref 96 } }),
    (nat_lit 99, { cls := Value.none, data := Data.fields #[] }),
    (nat_lit 103, { cls := Value.type "code", data := Data.fields #[Value.str "_common_shorten_repr" 318, Value.str "_common_shorten_repr" 319, Value.str "/claim/cut.py" 320, Value.int 86 0, Value.int 0 0, Value.int 0 0, Value.int 0 0, Value.int 7 0, Value.ref 98, Value.bool true, Value.int 181 0, Value.ref 99, Value.none, Value.ref 100, Value.ref 101, Value.ref 102, Value.int 326 0, Value.int 86 0, Value.str "/claim/cut.py" 327] }),
    (nat_lit 104, { cls := Value.type "function", data := Data.func { name := "_common_shorten_repr", qualname := "_common_shorten_repr", params := fArgs (stN 16), body := .stmts (fBody (stN 16)), scope := fScope (stN 16), globals := 3, closure := [], defaults := Value.none, kwdefaults := Value.none, pyModule := Value.str "cpy313.unittest.util" 316, code := Value.ref 103 } }),
    (nat_lit 105, { cls := Value.type "tuple", data := Data.seq #[Value.bool false] }),
    (nat_lit 111, { cls := Value.type "code", data := Data.fields #[Value.str "safe_repr" 329, Value.str "safe_repr" 330, Value.str "/claim/cut.py" 331, Value.int 100 0, Value.int 2 0, Value.int 0 0, Value.int 0 0, Value.int 3 0, Value.ref 106, Value.bool true, Value.int 181 0, Value.ref 107, Value.none, Value.ref 108, Value.ref 109, Value.ref 110, Value.int 335 0, Value.int 100 0, Value.str "/claim/cut.py" 336] }),
    (nat_lit 112, { cls := Value.type "function", data := Data.func { name := "safe_repr", qualname := "safe_repr", params := fArgs (stN 17), body := .stmts (fBody (stN 17)), scope := fScope (stN 17), globals := 3, closure := [], defaults := Value.ref 105, kwdefaults := Value.none, pyModule := Value.str "cpy313.unittest.util" 316, code := Value.ref 111 } }),
    (nat_lit 129, { cls := Value.type "code", data := Data.fields #[Value.str "__new__" 359, Value.str "Mismatch.__new__" 360, Value.str "/claim/cut.py" 361, Value.int 114 0, Value.int 4 0, Value.int 0 0, Value.int 0 0, Value.int 3 0, Value.ref 124, Value.bool true, Value.int 181 0, Value.ref 125, Value.none, Value.ref 126, Value.ref 127, Value.ref 128, Value.int 366 0, Value.int 114 0, Value.str "/claim/cut.py" 367] }),
    (nat_lit 130, { cls := Value.type "function", data := Data.func { name := "__new__", qualname := "Mismatch.__new__", params := fArgs newS, body := .stmts (fBody newS), scope := fScope newS, globals := 3, closure := [], defaults := Value.none, kwdefaults := Value.none, doc := Value.str (docOf newS) 368, pyModule := Value.str "cpy313.unittest.util" 316, code := Value.ref 129 } }),
    (nat_lit 182, { cls := Value.type SZ.s14018661285674007319x4, data := Data.dict (List.toArray [kent P (Str.mk (Array.mk [nat_lit 95, nat_lit 95, nat_lit 109, nat_lit 111, nat_lit 100, nat_lit 117, nat_lit 108, nat_lit 101, nat_lit 95, nat_lit 95])) 345 (Value.str (Str.mk (Array.mk [nat_lit 99, nat_lit 112, nat_lit 121, nat_lit 51, nat_lit 49, nat_lit 51, nat_lit 46, nat_lit 117, nat_lit 110, nat_lit 105, nat_lit 116, nat_lit 116, nat_lit 101, nat_lit 115, nat_lit 116, nat_lit 46, nat_lit 117, nat_lit 116, nat_lit 105, nat_lit 108])) 316), kent P (Str.mk (Array.mk [nat_lit 95, nat_lit 95, nat_lit 102, nat_lit 105, nat_lit 114, nat_lit 115, nat_lit 116, nat_lit 108, nat_lit 105, nat_lit 110, nat_lit 101, nat_lit 110, nat_lit 111, nat_lit 95, nat_lit 95])) 349 (Value.int 108 348), kent P (Str.mk (Array.mk [nat_lit 95, nat_lit 95, nat_lit 100, nat_lit 111, nat_lit 99, nat_lit 95, nat_lit 95])) 351 (Value.str (Str.mk (Array.mk [nat_lit 77, nat_lit 105, nat_lit 115, nat_lit 109, nat_lit 97, nat_lit 116, nat_lit 99, nat_lit 104, nat_lit 40, nat_lit 97, nat_lit 99, nat_lit 116, nat_lit 117, nat_lit 97, nat_lit 108, nat_lit 44, nat_lit 32, nat_lit 101, nat_lit 120, nat_lit 112, nat_lit 101, nat_lit 99, nat_lit 116, nat_lit 101, nat_lit 100, nat_lit 44, nat_lit 32, nat_lit 118, nat_lit 97, nat_lit 108, nat_lit 117, nat_lit 101, nat_lit 41])) 350), kent P (Str.mk (Array.mk [nat_lit 95, nat_lit 95, nat_lit 115, nat_lit 108, nat_lit 111, nat_lit 116, nat_lit 115, nat_lit 95, nat_lit 95])) 353 (Value.ref 121), kent P (Str.mk (Array.mk [nat_lit 95, nat_lit 102, nat_lit 105, nat_lit 101, nat_lit 108, nat_lit 100, nat_lit 115])) 357 (Value.ref 122), kent P (Str.mk (Array.mk [nat_lit 95, nat_lit 102, nat_lit 105, nat_lit 101, nat_lit 108, nat_lit 100, nat_lit 95, nat_lit 100, nat_lit 101, nat_lit 102, nat_lit 97, nat_lit 117, nat_lit 108, nat_lit 116, nat_lit 115])) 358 (Value.ref 123), kent P (Str.mk (Array.mk [nat_lit 95, nat_lit 95, nat_lit 110, nat_lit 101, nat_lit 119, nat_lit 95, nat_lit 95])) 369 (Value.ref 184), kent P (Str.mk (Array.mk [nat_lit 95, nat_lit 109, nat_lit 97, nat_lit 107, nat_lit 101])) 391 (Value.ref 139), kent P (Str.mk (Array.mk [nat_lit 95, nat_lit 114, nat_lit 101, nat_lit 112, nat_lit 108, nat_lit 97, nat_lit 99, nat_lit 101])) 402 (Value.ref 148), kent P (Str.mk (Array.mk [nat_lit 95, nat_lit 95, nat_lit 114, nat_lit 101, nat_lit 112, nat_lit 108, nat_lit 97, nat_lit 99, nat_lit 101, nat_lit 95, nat_lit 95])) 403 (Value.ref 148), kent P (Str.mk (Array.mk [nat_lit 95, nat_lit 95, nat_lit 114, nat_lit 101, nat_lit 112, nat_lit 114, nat_lit 95, nat_lit 95])) 411 (Value.ref 155), kent P (Str.mk (Array.mk [nat_lit 95, nat_lit 97, nat_lit 115, nat_lit 100, nat_lit 105, nat_lit 99, nat_lit 116])) 418 (Value.ref 162), kent P (Str.mk (Array.mk [nat_lit 95, nat_lit 95, nat_lit 103, nat_lit 101, nat_lit 116, nat_lit 110, nat_lit 101, nat_lit 119, nat_lit 97, nat_lit 114, nat_lit 103, nat_lit 115, nat_lit 95, nat_lit 95])) 426 (Value.ref 169), kent P (Str.mk (Array.mk [nat_lit 95, nat_lit 95, nat_lit 109, nat_lit 97, nat_lit 116, nat_lit 99, nat_lit 104, nat_lit 95, nat_lit 97, nat_lit 114, nat_lit 103, nat_lit 115, nat_lit 95, nat_lit 95])) 430 (Value.ref 170), kent P (Str.mk (Array.mk [nat_lit 97, nat_lit 99, nat_lit 116, nat_lit 117, nat_lit 97, nat_lit 108])) 440 (Value.ref 172), kent P (Str.mk (Array.mk [nat_lit 101, nat_lit 120, nat_lit 112, nat_lit 101, nat_lit 99, nat_lit 116, nat_lit 101, nat_lit 100])) 450 (Value.ref 175), kent P (Str.mk (Array.mk [nat_lit 118, nat_lit 97, nat_lit 108, nat_lit 117, nat_lit 101])) 460 (Value.ref 178), kent P (Str.mk (Array.mk [nat_lit 95, nat_lit 95, nat_lit 115, nat_lit 116, nat_lit 97, nat_lit 116, nat_lit 105, nat_lit 99, nat_lit 95, nat_lit 97, nat_lit 116, nat_lit 116, nat_lit 114, nat_lit 105, nat_lit 98, nat_lit 117, nat_lit 116, nat_lit 101, nat_lit 115, nat_lit 95, nat_lit 95])) 461 (Value.ref 180)]) 2 }),
    (nat_lit 183, { cls := Value.type "type", data := Data.cls { name := "Mismatch", bases := [Value.type "tuple"], mro := [Value.ref 183, Value.type "tuple", Value.type "object"], ns := 182, qualname := "Mismatch", hasDict := false }, slots := #[some (Value.ref 113), none, some (Value.str "Mismatch" 338), some (Value.str "Mismatch" 346), some Value.none, some (Value.bool false)] }),
    (nat_lit 184, { cls := Value.type "staticmethod", data := Data.fields #[Value.ref 130] }),
    (nat_lit 192, { cls := Value.type "code", data := Data.fields #[Value.str "_count_diff_all_purpose" 467, Value.str "_count_diff_all_purpose" 468, Value.str "/claim/cut.py" 469, Value.int 152 0, Value.int 2 0, Value.int 0 0, Value.int 0 0, Value.int 3 0, Value.ref 187, Value.bool true, Value.int 181 0, Value.ref 188, Value.none, Value.ref 189, Value.ref 190, Value.ref 191, Value.int 485 0, Value.int 152 0, Value.str "/claim/cut.py" 486] }),
    (nat_lit 193, { cls := Value.type "function", data := Data.func { name := "_count_diff_all_purpose", qualname := "_count_diff_all_purpose", params := fArgs (stN 20), body := .stmts (fBody (stN 20)), scope := fScope (stN 20), globals := 3, closure := [], defaults := Value.none, kwdefaults := Value.none, doc := Value.str "Returns list of (cnt_act, cnt_exp, elem) triples where the counts differ" 487, pyModule := Value.str "cpy313.unittest.util" 316, code := Value.ref 192 } }),
    (nat_lit 197, { cls := Value.type "code", data := Data.fields #[Value.str "_law_first" 491, Value.str "_law_first" 492, Value.str "/claim/cut.py" 493, Value.int 185 0, Value.int 1 0, Value.int 0 0, Value.int 0 0, Value.int 3 0, Value.ref 194, Value.bool true, Value.int 181 0, Value.ref 195, Value.none, Value.none, Value.none, Value.ref 196, Value.int 494 0, Value.int 185 0, Value.str "/claim/cut.py" 495] }),
    (nat_lit 198, { cls := Value.type "function", data := Data.func { name := "_law_first", qualname := "_law_first", params := fArgs (stN 22), body := .stmts (fBody (stN 22)), scope := fScope (stN 22), globals := 3, closure := [], defaults := Value.none, kwdefaults := Value.none, pyModule := Value.str "law_xe0055_01" 489, code := Value.ref 197 } }),
    (nat_lit 202, { cls := Value.type "code", data := Data.fields #[Value.str "law" 497, Value.str "law" 498, Value.str "/claim/cut.py" 499, Value.int 187 0, Value.int 1 0, Value.int 0 0, Value.int 0 0, Value.int 3 0, Value.ref 199, Value.bool true, Value.int 181 0, Value.ref 200, Value.none, Value.none, Value.none, Value.ref 201, Value.int 500 0, Value.int 187 0, Value.str "/claim/cut.py" 501] }),
    (nat_lit 203, { cls := Value.type "function", data := Data.func { name := "law", qualname := "law", params := fArgs (stN 23), body := .stmts (fBody (stN 23)), scope := fScope (stN 23), globals := 3, closure := [], defaults := Value.none, kwdefaults := Value.none, pyModule := Value.str "law_xe0055_01" 489, code := Value.ref 202 } })]
def kAs : List Addr := [0, 2, 3, 70, 71, 77, 78, 84, 85, 91, 92, 96, 97, 99, 103, 104, 105, 111, 112, 129, 130, 182, 183, 184, 192, 193, 197, 198, 202, 203]
theorem kAs_eq : ∀ P, kAs = (K P).map (·.1) := fun _ => rfl


abbrev prg : Program := PySem.Challenge.rw_xe0055_01.row.toRowW.prog
abbrev env0 : Env := { scope := prg.main.scope, locals := mainNs, globals := mainNs, cells := [], code := .ref 13, frame := some 14 }
abbrev body0 : List Stmt := behindTheImports prg
abbrev code0 : Code := .body body0 env0
abbrev frame0 : List Frame := [topFrame ⟨0, 0, 0, 0⟩]
abbrev pos0 : Pos := ⟨0, 0, 0, 0⟩
def o11 : Obj := { cls := Value.type "tuple", data := Data.seq #[] }
def o12 : Obj := { cls := Value.none, data := Data.fields #[] }
def o13 : Obj := { cls := Value.type "code", data := Data.fields #[Value.str "<module>" 182, Value.str "<module>" 183, Value.str "/claim/cut.py" 184, Value.int 1 0, Value.int 0 0, Value.int 0 0, Value.int 0 0, Value.int 0 0, Value.ref 11, Value.bool false, Value.int 181 0, Value.ref 12, Value.none, Value.none, Value.none, Value.none, Value.int 185 0, Value.int 1 0, Value.str "/claim/cut.py" 186] }
def o14 : Obj := { cls := Value.type "frame", slots := #[some (Value.ref 13), some (Value.ref 3), some (Value.ref 3), none, some (Value.str "__main__" 164), none, some (Value.ref 0)] }
/-- the heap when the text's first statement begins, as a tree -/
noncomputable def tree0 (P : Params) : BT :=
  .node (boot_o_0 P) (.node (boot_o_1 P) (.node (boot_o_3 P) (.node (boot_o_7 P) .nil .nil) (.node o11 .nil .nil)) (.node (boot_o_5 P) (.node (boot_o_9 P) .nil .nil) (.node o13 .nil .nil)))
    (.node (boot_o_2 P) (.node (boot_o_4 P) (.node (boot_o_8 P) .nil .nil) (.node o12 .nil .nil)) (.node (boot_o_6 P) (.node (boot_o_10 P) .nil .nil) (.node o14 .nil .nil)))
noncomputable abbrev st0 (w : World) (os : OsState) : SharedT := { tree := tree0 w.params, n := 15, life := {}, gens := #[], drawn := {}, toks := 187, os := os }
noncomputable abbrev boot0 (w : World) (os : OsState) : Shared := ⟨boot_heap w.params, #[], boot_drawn, boot_toks, os⟩
theorem t_open (w : World) : (fencedOpening treeTable prg w 4000).map (fun s => (s.heap, s.gens, s.drawn, s.toks)) = some (boot_heap w.params, #[], boot_drawn, boot_toks) := by kernel_rfl
theorem t_size (w : World) : ((boot_heap w.params).isNs mainGlobals && (#[] : Array GenState).size == 0, (boot_heap w.params).objs.size, (boot_heap w.params).nsMap mainGlobals "__annotations__") = (true, 11, some (.ref 6)) := by kernel_rfl
theorem t_pre (w : World) (os : OsState) : topGo treeTable prg w 11 (some (.ref 6)) 12 (boot0 w os) (topStub prg) = some ((st0 w os).abs, ⟨denote treeTable code0, code0, pos0, frame0⟩) := by kernel_rfl
theorem t_block (w : World) (os : OsState) : segRun treeTable prg w 11 (some (.ref 6)) 1 1 (st0 w os).abs (blockOf body0 env0 code0 pos0 frame0) = some (.next, (st0 w os).abs, code0, pos0) := by kernel_rfl
set_option maxHeartbeats 0 in
theorem t_run (w : World) (os : OsState) : (segRunT treeTable prg w 11 (some (.ref 6)) 1 1900 (st0 w os) (piecesOf body0 env0 code0 pos0 frame0)).map (fun r => (staticsOk (importedModules prg.main.body) (boot_heap w.params) r.2.1.abs.heap && namesBound prg r.2.1.abs.heap && gensDone r.2.1.abs && laidKept (boot_heap w.params) r.2.1.abs.heap,
      openSeen view loose (importedModules prg.main.body) (fun s => xlAt view [] s && recOk (RowW.records PySem.Challenge.rw_xe0055_01.row.toRowW) s) true r.2.1.abs, (fun s : Shared => kAs.map s.heap.get?) r.2.1.abs)) =
    some (true, openGood view loose, (fun w : World => (K w.params).map fun p => some p.2) w) := by
  rw [PySem.W.Fast.te10110043849684766642, PySem.W.Fast.te14364793385576792824]
  kernel_rfl
theorem left : LeftO prg view loose (fun s => xlAt view [] s && recOk (RowW.records PySem.Challenge.rw_xe0055_01.row.toRowW) s) (fun s => kAs.map s.heap.get?) (fun w => (K w.params).map fun p => some p.2) 4000 := by
  k_fill
  exact left_of t_open t_size t_pre t_block t_run rfl
end Mine

namespace Mine
open PySem PySem.W PyProof.Rows PySem.Calls PySem.W.X PySem.W.ZRun
local macro_rules | `(tactic| x_close) => `(tactic| first | exact Mine.mem_endD (by assumption) (by assumption) (by assumption) (by repeat (first | exact List.Mem.head _ | apply List.Mem.tail)) | exact Mine.mem_end (by assumption) (by assumption) (by assumption) (by repeat (first | exact List.Mem.head _ | apply List.Mem.tail)))
theorem fill : K = K ∨ PySem.Challenge.rw_xe0055_01 = PySem.Challenge.rw_xe0055_01 := by k_fill; exact .inl rfl
set_option maxHeartbeats 40000000 in
theorem mis_of {prog : Program} {w : World} (e1 e2 : Env) (s : Shared) (a b : Int) (ta tb : Tok) (e : Addr) (Q : Value → Shared → Prop) (hK : (K w.params).In s.heap) (hg2 : s.gens = #[])
    (hQ : ∀ h' Ta tk dd, h'.get? Ta = some ({ cls := .ref 183, dict := dd, data := .seq #[.int a ta, .int b tb, .ref e] } : Obj) → (∀ b o, s.heap.get? b = some o → h'.get? b = some o) → s.heap.get? Ta = none → Q (.ref Ta) { s with heap := h', toks := tk }) :
    wpAny (model prog w) ((callerA.deeper e1).deeper e2) (call (.ref 183) [.int a ta, .int b tb, .ref e]) Q (fun _ _ => False) s := by
  x_run
set_option maxHeartbeats 40000000 in
theorem tup_of {prog : Program} {w : World} (e1 : Env) (s : Shared) (M : Addr) (a b : Int) (ta tb : Tok) (e : Addr) (dd : Option Addr) (Q : Value → Shared → Prop) (hK : (K w.params).In s.heap) (hg2 : s.gens = #[])
    (hM : s.heap.get? M = some ({ cls := .ref 183, dict := dd, data := .seq #[.int a ta, .int b tb, .ref e] } : Obj))
    (hQ : ∀ h' Ta tk, h'.get? Ta = some ({ cls := .type "tuple", data := .seq #[.int a ta, .int b tb, .ref e] } : Obj) → (∀ b o, s.heap.get? b = some o → h'.get? b = some o) → s.heap.get? Ta = none → Q (.ref Ta) { s with heap := h', toks := tk }) :
    wpAny (model prog w) (callerA.deeper e1) (call (.type "tuple") [.ref M]) Q (fun _ _ => False) s := by
  x_run
end Mine


open PySem PySem.W PyProof.Rows PySem.Calls PySem.W.X PySem.W.ZRun
set_option maxHeartbeats 40000000 in
theorem PySem.Challenge.cw_xe0055_01_holds : PySem.Challenge.rw_xe0055_01.Holds := by
  w_on; o_law
  refine holds_openX (q := Mine.view) (loose := Mine.loose) (Xt := fun s => xlAt Mine.view [] s && recOk (RowW.records PySem.Challenge.rw_xe0055_01.row.toRowW) s) (XP := XL Mine.view []) (Yf := fun s => Mine.kAs.map s.heap.get?) (Ya := fun w => (Mine.K w.params).map fun p => some p.2) (N := 4000) Mine.left (fun s e => xl_of s (Bool.and_eq_true_iff.mp e).1) XL.keeps (by rfl) (by rfl) (by rfl) (fun s e => recFacts_of (Bool.and_eq_true_iff.mp e).2) (by rfl) (by assumption) (by decide +kernel) ⟨rfl, rfl, rfl, rfl, rfl, by decide +kernel⟩ ?hw ?hc
  (case hw => w_witness2)
  k_fill
  intro w s₀ s₁ mg mb G y fa o pm cd doc dV kV ho hd hcd hD hmg hg args vals as L hpre hlay hrd hwl hlo
  have KX := InK.keeps w _ _ (InK.of Mine.kAs_eq w s₀ y) L.keeps
  replace KX : (Mine.K w.params).In s₁.heap := KX
  refine Ground.open G ?_
  intro T B D TE TW
  wrow_args hpre hlay hrd hwl hlo
  x_fa T KX hmg
  rename_i l vs _ hl _ _ _ hI _ hlen _
  have f9 : Mine.IsFn s₁.heap 71 9 "_shorten" .none := Mine.isFn_of (KX 71 _ rfl) (KX _ _ rfl) rfl rfl
  have f11 : Mine.IsFn s₁.heap 78 11 "_kind" .none := Mine.isFn_of (KX 78 _ rfl) (KX _ _ rfl) rfl rfl
  have f12 : Mine.IsFn s₁.heap 85 12 "_fspath" .none := Mine.isFn_of (KX 85 _ rfl) (KX _ _ rfl) rfl rfl
  have f13 : Mine.IsFn s₁.heap 92 13 "_prefix" .none := Mine.isFn_of (KX 92 _ rfl) (KX _ _ rfl) rfl rfl
  have f14 : Mine.IsFn s₁.heap 97 14 "commonprefix" .none := Mine.isFn_of (KX 97 _ rfl) (KX _ _ rfl) rfl rfl
  have f20 : Mine.IsFn s₁.heap 193 20 "_count_diff_all_purpose" .none := Mine.isFn_of (KX 193 _ rfl) (KX _ _ rfl) rfl rfl
  have f22 : Mine.IsFn s₁.heap 198 22 "_law_first" .none := Mine.isFn_of (KX 198 _ rfl) (KX _ _ rfl) rfl rfl
  have f23 : Mine.IsFn s₁.heap 203 23 "law" .none := Mine.isFn_of (KX 203 _ rfl) (KX _ _ rfl) rfl rfl
  obtain ⟨sd, f17, hsd⟩ : ∃ sd, Mine.IsFn s₁.heap 112 17 "safe_repr" sd ∧ Mine.Dfl s₁.heap sd := ⟨_, Mine.isFn_of (KX 112 _ rfl) (KX _ _ rfl) rfl rfl, ⟨_, _, _, _, rfl, KX _ _ rfl⟩⟩
  obtain ⟨c, P, f16⟩ : ∃ c P, Mine.IsGn s₁.heap 104 16 "_common_shorten_repr" .none c P := ⟨_, _, Mine.isGn_of (KX 104 _ rfl) (KX _ _ rfl) (KX _ _ rfl) rfl rfl rfl rfl rfl rfl (by decide)⟩
  obtain ⟨bm, ob, b1, b2, b3, b4, b5, b6⟩ := T.bmain
  obtain ⟨z1, z2, z3, z4, z5, z6, z7, z8, z9, z10, z11, z12, z13⟩ := Mine.boots
  have hN : Mine.NM ⟨71, 78, 85, 92, 97, 104, 112, 183, 193, 198, 253, 255, 257, 261, sd⟩ mg mb := {
    len := ⟨ns_none_of KX T.g rfl, (T.builtins _ (by decide)).trans z1⟩
    type := ⟨ns_none_of KX T.g rfl, (T.builtins _ (by decide)).trans z2⟩
    list := ⟨ns_none_of KX T.g rfl, (T.builtins _ (by decide)).trans z3⟩
    tuple := ⟨ns_none_of KX T.g rfl, (T.builtins _ (by decide)).trans z4⟩
    str := ⟨ns_none_of KX T.g rfl, (T.builtins _ (by decide)).trans z5⟩
    min := ⟨ns_none_of KX T.g rfl, (T.builtins _ (by decide)).trans z6⟩
    max := ⟨ns_none_of KX T.g rfl, (T.builtins _ (by decide)).trans z7⟩
    map := ⟨ns_none_of KX T.g rfl, (T.builtins _ (by decide)).trans z8⟩
    enumerate := ⟨ns_none_of KX T.g rfl, (T.builtins _ (by decide)).trans z9⟩
    range := ⟨ns_none_of KX T.g rfl, (T.builtins _ (by decide)).trans z10⟩
    repr := ⟨ns_none_of KX T.g rfl, (T.builtins _ (by decide)).trans z11⟩
    object := ⟨ns_none_of KX T.g rfl, (T.builtins _ (by decide)).trans z12⟩
    sum := ⟨ns_none_of KX T.g rfl, (T.builtins _ (by decide)).trans z13⟩
    c80 := mg_of KX T.g rfl
    c12 := mg_of KX T.g rfl
    c5 := mg_of KX T.g rfl
    c5c := mg_of KX T.g rfl
    shorten := mg_of KX T.g rfl
    kind := mg_of KX T.g rfl
    fspath := mg_of KX T.g rfl
    pref := mg_of KX T.g rfl
    common := mg_of KX T.g rfl
    csr := mg_of KX T.g rfl
    safe := mg_of KX T.g rfl
    mis := mg_of KX T.g rfl
    count := mg_of KX T.g rfl
    first := mg_of KX T.g rfl }
  have hP : Mine.PG ⟨71, 78, 85, 92, 97, 104, 112, 183, 193, 198, 253, 255, 257, 261, sd⟩ mg mb s₁.heap := ⟨T.g, T.b, T.nolimit, f9, f11, f12, f13, f14, f17, f20, f22⟩
  refine Mine.law_call hN hP hsd ⟨f16, ⟨T.g, b1, b2, b3, b4, b5, b6⟩⟩ f23 ?_ ?_ rfl (by decide) (by decide) hg hl (Mine.paired_ints hI) (by omega) rfl ?_
  · exact fun e1 e2 => ⟨fun h k => keeps_K (f := .ref 183) rfl h fun a o e => k _ _ (KX a o e), fun s a b ta tb e Q k hg2 hQ => Mine.mis_of (w := w) e1 e2 s a b ta tb e Q (fun a o e => k _ _ (KX a o e)) hg2 hQ⟩
  · exact fun e1 s M a b ta tb e dd Q k hg2 hM hQ => Mine.tup_of (w := w) e1 s M a b ta tb e dd Q (fun a o e => k _ _ (KX a o e)) hg2 hM hQ
  · intro s' hO hos hb
    exact ⟨.inl ⟨_, _, [], rfl, fun _ => rfl, ReadsW.bool true, by first | rfl | wrow_post, fun _ => ⟨List.nodup_nil, fun _ hm => (nomatch hm)⟩⟩, hO, hos, hb⟩
