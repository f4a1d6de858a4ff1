import PyProof.Rows.All
import Wide.All
import OpenK.AllK
import Wide.FinOn
import PySem.Challenge.RW_nb0057_01
open PySem PySem.W PyProof.Rows PySem.Calls
set_option Elab.async false
set_option maxRecDepth 100000
namespace Mine
section
set_option maxHeartbeats 8000000
open_top hd for PySem.Challenge.rw_nb0057_01
end

/-- what stands of the top -/
structure Host (w : World) (mg mb : Str → Option Value) (h : Heap) : Prop where
  K : (Mine.hd.heap_39 w.params).In h
  g : h.Ns mainGlobals mg
  b : h.Ns builtinsNs mb
  bs : ∀ x : Str, x ≠ "__name__" → mb x = bootBuiltins x
  nolimit : h.NoLimit
  nodigits : ∃ mc, h.Ns cStatics mc ∧ mc "sys.int_max_str_digits" = none

abbrev Kept (h h' : Heap) : Prop := ∀ b o, h.get? b = some o → h'.get? b = some o

theorem Host.keeps {w mg mb h h'} (H : Host w mg mb h) (k : Kept h h') : Host w mg mb h' :=
  ⟨H.K.keeps k, H.g.keeps k, H.b.keeps k, H.bs, H.nolimit.keeps k, let ⟨mc, a, b⟩ := H.nodigits; ⟨mc, a.keeps k, b⟩⟩

/-- all but the heap and the tokens is the same -/
def Like (s s' : Shared) : Prop := s'.os = s.os ∧ s'.gens = s.gens ∧ s'.drawn = s.drawn
theorem Like.refl (s : Shared) : Like s s := ⟨rfl, rfl, rfl⟩
theorem Like.trans {a b c : Shared} (x : Like a b) (y : Like b c) : Like a c := ⟨y.1.trans x.1, y.2.1.trans x.2.1, y.2.2.trans x.2.2⟩
theorem keeps_of {s s' : Shared} (l : Like s s') (k : Kept s.heap s'.heap) : Keeps s s' := by
  obtain ⟨h, g, d, t, o⟩ := s
  obtain ⟨h', g', d', t', o'⟩ := s'
  obtain ⟨rfl, rfl, rfl⟩ := l
  exact ⟨h', t', rfl, k⟩
theorem of_keeps {s s' : Shared} (k : Keeps s s') : Like s s' ∧ Kept s.heap s'.heap := by
  obtain ⟨h', tk, rfl, k⟩ := k
  exact ⟨⟨rfl, rfl, rfl⟩, k⟩
theorem keptBut {h h' : Heap} {h₀ : Heap} {L : Addr} (k : Kept h₀ h) (S : Heap.SameBut L h h') (hL : h₀.objs.size ≤ L) : Kept h₀ h' :=
  fun b o e => S.extBut b o (Nat.ne_of_lt (Nat.lt_of_lt_of_le (Heap.lt_size e) hL)) (k b o e)
theorem kept_push (h : Heap) (o : Obj) : Kept h (h.push o) := fun _ _ e => Heap.get?_push_of_some o e

/-- the tree runs to an end that Q says, and raises nothing -/
structure Wp {α : Type} (prog : Program) (w : World) (A : Around) (t : Sem α) (Q : α → Shared → Prop) (s : Shared) : Prop where
  out : ∀ E, wpAny (model prog w) A t Q E s

section
variable {α β : Type} {prog : Program} {w : World} {mg mb : Str → Option Value} {A : Around} {s : Shared} {env : Env}

theorem Wp.mono {t : Sem α} {Q Q' : α → Shared → Prop} (h : Wp prog w A t Q s) (q : ∀ a s, Q a s → Q' a s) : Wp prog w A t Q' s :=
  ⟨fun E => wpAny_mono (h.out E) q fun _ _ e => e⟩
theorem wPure {a : α} {Q : α → Shared → Prop} (h : Q a s) : Wp prog w A (pure a) Q s := ⟨fun _ => wpAny_pure h⟩
theorem wBind {m : Sem α} {f : α → Sem β} {Q : β → Shared → Prop} (h : Wp prog w A m (fun a s' => Wp prog w A (f a) Q s') s) : Wp prog w A (m >>= f) Q s :=
  ⟨fun E => wpAny_bind (wpAny_mono (h.out E) (fun _ _ x => x.out E) fun _ _ e => e)⟩

-- statements
theorem wNil {Q : Flow → Shared → Prop} (h : Q .next s) : Wp prog w A (execs [] env) Q s := ⟨fun _ => wpAny_execs_nil h⟩
theorem wCons {st rest} {Q : Flow → Shared → Prop} (h : Wp prog w A (exec st env) (fun f s' => match f with | .next => Wp prog w A (execs rest env) Q s' | f => Q f s') s) :
    Wp prog w A (execs (st :: rest) env) Q s :=
  ⟨fun E => wpAny_execs_cons (wpAny_mono (h.out E) (fun f _ x => by cases f <;> first | exact x.out E | exact x) fun _ _ e => e)⟩
theorem wReturn {e pos} {Q : Flow → Shared → Prop} (h : Wp prog w A (eval e env) (fun v => Q (.ret v)) s) : Wp prog w A (exec (.Return (some e) pos) env) Q s :=
  ⟨fun E => wpAny_Return_some (h.out E)⟩
theorem wContinue {pos : Pos} {Q : Flow → Shared → Prop} (h : Q .cont s) : Wp prog w A (exec (.Continue pos) env) Q s := ⟨fun _ => wpAny_Continue h⟩
theorem wExpr {e pos} {Q : Flow → Shared → Prop} (h : Wp prog w A (eval e env) (fun v s' => match v with | .ref _ => False | _ => Q .next s') s)
    (hi : interactive env = false := by rfl) (hs : swapsWith e none pos.line env = pure false := by rfl) : Wp prog w A (exec (.Expr e pos) env) Q s :=
  ⟨fun E => wpAny_Expr (h.out E) hi hs⟩
theorem wAssign {x pos' value pos} {Q : Flow → Shared → Prop} (h : Wp prog w A (eval value env) (fun v s₁ => Wp prog w A (storeName env x v) (fun _ => Q .next) s₁) s)
    (hs : swapsWith value (some (.Name x pos')) pos.line env = pure false := by rfl) : Wp prog w A (exec (.Assign [.Name x pos'] value pos) env) Q s :=
  ⟨fun E => wpAny_Assign_Name (wpAny_mono (h.out E) (fun _ _ x => x.out E) fun _ _ e => e) hs⟩
theorem wIf {test body orelse pos} {Q : Flow → Shared → Prop}
    (h : Wp prog w A (isTrue test env (eval test env)) (fun b s₂ => if b then Wp prog w A (execs body env) Q s₂ else Wp prog w A (execs orelse env) Q s₂) s) :
    Wp prog w A (exec (.If test body orelse pos) env) Q s :=
  ⟨fun E => wpAny_If (wpAny_mono (h.out E) (fun b _ x => by cases b <;> exact x.out E) fun _ _ e => e)⟩
theorem wAssignN {x pos v} {Q : Unit → Shared → Prop} (h : Wp prog w A (storeName env x v) Q s) : Wp prog w A (assign (.Name x pos) env v) Q s := ⟨fun E => wpAny_assign_Name (h.out E)⟩

-- tests
theorem wIsCmp {l op r pos whole} {Q : Bool → Shared → Prop}
    (h : Wp prog w A (eval l env) (fun a s₁ => Wp prog w A (eval r env) (fun b s₂ => Wp prog w A (compareOp op a b) (fun c s₃ => Wp prog w A (truthy c) Q s₃) s₂) s₁) s)
    (hm : behindInMarks op r = false := by with_unfolding_all rfl) : Wp prog w A (isTrue (.Compare l [op] [r] pos) env whole) Q s :=
  ⟨fun E => wpAny_isTrue_Compare1 (wpAny_mono (h.out E) (fun _ _ x => wpAny_mono (x.out E) (fun _ _ y => wpAny_mono (y.out E) (fun _ _ z => z.out E) fun _ _ e => e) fun _ _ e => e) fun _ _ e => e) hm⟩
theorem wCmp {l op r pos} {Q : Value → Shared → Prop}
    (h : Wp prog w A (eval l env) (fun a s₁ => Wp prog w A (eval r env) (fun b s₂ => Wp prog w A (compareOp op a b) Q s₂) s₁) s)
    (hm : behindInMarks op r = false := by with_unfolding_all rfl) : Wp prog w A (eval (.Compare l [op] [r] pos) env) Q s :=
  ⟨fun E => wpAny_Compare1 (wpAny_mono (h.out E) (fun _ _ x => wpAny_mono (x.out E) (fun _ _ y => y.out E) fun _ _ e => e) fun _ _ e => e) hm⟩
theorem wTruthB {b : Bool} {Q : Bool → Shared → Prop} (h : Q b s) : Wp prog w A (truthy (.bool b)) Q s := ⟨fun _ => wpAny_truthy_bool h⟩
theorem wIsNot {x : Expr} {pos : Pos} {whole : Sem Value} {Q : Bool → Shared → Prop} (h : Wp prog w A (isTrue x env (eval x env)) (fun b s₁ => Q (!b) s₁) s) :
    Wp prog w A (isTrue (.UnaryOp .Not x pos) env whole) Q s := ⟨fun E => wpAny_isTrue_Not (h.out E)⟩
theorem wIsValue {e : Expr} {whole : Sem Value} {Q : Bool → Shared → Prop} (h : Wp prog w A whole (fun v s₁ => Wp prog w A (truthy v) Q s₁) s)
    (he : isTrue e env whole = (do let v ← whole; standAt e.pos; holding [v] (truthy v)) := by rfl) : Wp prog w A (isTrue e env whole) Q s :=
  ⟨fun E => wpAny_isTrue_value (wpAny_mono (h.out E) (fun _ _ x => x.out E) fun _ _ e => e) he⟩
theorem wIsBool {op : BoolOp} {values : List Expr} {pos : Pos} {whole : Sem Value} {Q : Bool → Shared → Prop} (h : Wp prog w A (allTrue op values env) Q s) :
    Wp prog w A (isTrue (.BoolOp op values pos) env whole) Q s := ⟨fun E => wpAny_isTrue_BoolOp (h.out E)⟩
theorem wAndNil {Q : Bool → Shared → Prop} (h : Q true s) : Wp prog w A (allTrue .And [] env) Q s := ⟨fun _ => wpAny_allTrue_And_nil h⟩
theorem wOrNil {Q : Bool → Shared → Prop} (h : Q false s) : Wp prog w A (allTrue .Or [] env) Q s := ⟨fun _ => wpAny_allTrue_Or_nil h⟩
theorem wAndCons {x : Expr} {rest : List Expr} {Q : Bool → Shared → Prop}
    (h : Wp prog w A (isTrue x env (eval x env)) (fun b s₁ => if b then Wp prog w A (allTrue .And rest env) Q s₁ else Q false s₁) s) : Wp prog w A (allTrue .And (x :: rest) env) Q s :=
  ⟨fun E => wpAny_allTrue_And_cons (wpAny_mono (h.out E) (fun b _ x => by cases b <;> first | exact x | exact x.out E) fun _ _ e => e)⟩
theorem wOrCons {x : Expr} {rest : List Expr} {Q : Bool → Shared → Prop}
    (h : Wp prog w A (isTrue x env (eval x env)) (fun b s₁ => if b then Q true s₁ else Wp prog w A (allTrue .Or rest env) Q s₁) s) : Wp prog w A (allTrue .Or (x :: rest) env) Q s :=
  ⟨fun E => wpAny_allTrue_Or_cons (wpAny_mono (h.out E) (fun b _ x => by cases b <;> first | exact x | exact x.out E) fun _ _ e => e)⟩
theorem wOr2 {x y : Expr} {pos : Pos} {Q : Value → Shared → Prop}
    (h : Wp prog w A (eval x env) (fun v s₁ => Wp prog w A (truthy v) (fun t s₂ => if t then Q v s₂ else Wp prog w A (eval y env) Q s₂) s₁) s) :
    Wp prog w A (eval (.BoolOp .Or [x, y] pos) env) Q s :=
  ⟨fun E => wpAny_Or2 (wpAny_mono (h.out E) (fun _ _ x => wpAny_mono (x.out E) (fun b _ y => by cases b <;> first | exact y | exact y.out E) fun _ _ e => e) fun _ _ e => e)⟩

-- expressions
theorem wInt {i k pos} {Q : Value → Shared → Prop} (h : Q (.int i s.toks) { s with toks := s.toks + 1 }) : Wp prog w A (eval (.Constant (.int i) k pos) env) Q s := ⟨fun _ => wpAny_Constant_int h⟩
theorem wStr {x : Str} {k pos} {Q : Value → Shared → Prop} (h : Q (.str x s.toks) { s with toks := s.toks + 1 }) : Wp prog w A (eval (.Constant (.str x) k pos) env) Q s := ⟨fun _ => wpAny_Constant_str h⟩
theorem wNone {k pos} {Q : Value → Shared → Prop} (h : Q .none s) : Wp prog w A (eval (.Constant .none k pos) env) Q s := ⟨fun _ => wpAny_Constant_none h⟩
theorem wBool {b k pos} {Q : Value → Shared → Prop} (h : Q (.bool b) s) : Wp prog w A (eval (.Constant (.bool b) k pos) env) Q s := ⟨fun _ => wpAny_Constant_bool h⟩
theorem wBinOp {l op r pos} {Q : Value → Shared → Prop} (h : Wp prog w A (eval l env) (fun a s₁ => Wp prog w A (eval r env) (fun b s₂ => Wp prog w A (binaryOp op a b) Q s₂) s₁) s) :
    Wp prog w A (eval (.BinOp l op r pos) env) Q s :=
  ⟨fun E => wpAny_BinOp (wpAny_mono (h.out E) (fun _ _ x => wpAny_mono (x.out E) (fun _ _ y => y.out E) fun _ _ e => e) fun _ _ e => e)⟩
theorem wIfExp {test body orelse : Expr} {pos : Pos} {Q : Value → Shared → Prop}
    (h : Wp prog w A (isTrue test env (eval test env)) (fun b s₁ => if b then Wp prog w A (eval body env) Q s₁ else Wp prog w A (eval orelse env) Q s₁) s) :
    Wp prog w A (eval (.IfExp test body orelse pos) env) Q s :=
  ⟨fun E => wpAny_IfExp (wpAny_mono (h.out E) (fun b _ x => by cases b <;> exact x.out E) fun _ _ e => e)⟩
theorem wINil {pos : Pos} {Q : List Value → Shared → Prop} (h : Q [] s) : Wp prog w A (spliced (backTo pos (starEach [] env))) Q s := ⟨fun _ => wpAny_items_nil h⟩
theorem wICons {pos : Pos} {e : Expr} {rest : List Expr} {Q : List Value → Shared → Prop}
    (h : Wp prog w A (eval e env) (fun v s₁ => Wp prog w A (spliced (backTo pos (starEach rest env))) (fun vs s₂ => Q (v :: vs) s₂) s₁) s)
    (he : starEach (e :: rest) env = (false, eval e env) :: starEach rest env := by rfl) : Wp prog w A (spliced (backTo pos (starEach (e :: rest) env))) Q s :=
  ⟨fun E => wpAny_items_cons (wpAny_mono (h.out E) (fun _ _ x => x.out E) fun _ _ e => e) he⟩
/-- a list display, a tuple display -/
theorem dispL {elts : List Expr} {pos : Pos} {Q : Value → Shared → Prop}
    (h : Wp prog w A (spliced (backTo pos (starEach elts env)))
      (fun vs s₁ => vs.length ≤ 64 ∧ ∀ s', Like s₁ s' → s'.heap = s₁.heap.push { cls := .type "list", data := .seq vs.toArray } → Q (.ref s₁.heap.objs.size) s') s) :
    Wp prog w A (eval (.List elts pos) env) Q s :=
  ⟨fun E => wpAny_List (wpAny_mono (h.out E) (fun _ _ x => ⟨Nat.le_trans x.1 (by decide), x.2 _ ⟨rfl, rfl, rfl⟩ rfl⟩) fun _ _ x => x)⟩
theorem dispT {elts : List Expr} {k : Nat} {pos : Pos} {Q : Value → Shared → Prop}
    (h : Wp prog w A (spliced (backTo pos (starEach elts env)))
      (fun vs s₁ => vs.length ≤ 64 ∧ ∀ s', Like s₁ s' → s'.heap = s₁.heap.push { cls := .type "tuple", data := .seq vs.toArray } → Q (.ref s₁.heap.objs.size) s') s) :
    Wp prog w A (eval (.Tuple elts k pos) env) Q s :=
  ⟨fun E => wpAny_Tuple (wpAny_mono (h.out E) (fun _ _ x => ⟨Nat.le_trans x.1 (by decide), x.2 _ ⟨rfl, rfl, rfl⟩ rfl⟩) fun _ _ x => x)⟩
theorem wSub {value slice pos} {Q : Value → Shared → Prop}
    (h : Wp prog w A (eval value env) (fun o s₁ => Wp prog w A (eval slice env) (fun i s₂ => Wp prog w A (subscriptTail value slice o i) Q s₂) s₁) s) :
    Wp prog w A (eval (.Subscript value slice pos) env) Q s :=
  ⟨fun E => Subscript_ (wpAny_mono (h.out E) (fun _ _ x => wpAny_mono (x.out E) (fun _ _ y => y.out E) fun _ _ e => e) fun _ _ e => e)⟩
theorem wMeth {o : Expr} {name : Str} {apos pos : Pos} {args : List Expr} {pl : Sem Bool} {Q : Value → Shared → Prop}
    (h : Wp prog w A (eval o env) (fun ov s₁ => Wp prog w A (getMethod ov name pl) (fun fx s₂ => Wp prog w A (callWith pos fx.1 fx.2 (backTo pos (starEach args env)) []) Q s₂) s₁) s)
    (he : eval (.Call (.Attribute o name apos) args [] pos) env = (do
      let ov ← eval o env
      standAt apos.atName
      let (f, first) ← holding [ov] (getMethod ov name pl)
      callWith pos f first (backTo pos (starEach args env)) []) := by rfl) :
    Wp prog w A (eval (.Call (.Attribute o name apos) args [] pos) env) Q s :=
  ⟨fun E => MethodCall_ (wpAny_mono (h.out E) (fun _ _ x => wpAny_mono (x.out E) (fun _ _ y => y.out E) fun _ _ e => e) fun _ _ e => e) he⟩
theorem wCall {x : Str} {p pos : Pos} {args : List Expr} {Q : Value → Shared → Prop}
    (h : Wp prog w A (eval (.Name x p) env) (fun f s₁ => Wp prog w A (callWith pos f [] (backTo pos (starEach args env)) []) Q s₁) s) :
    Wp prog w A (eval (.Call (.Name x p) args [] pos) env) Q s :=
  ⟨fun E => Call_Name rfl (wpAny_mono (h.out E) (fun _ _ x => x.out E) fun _ _ e => e)⟩
theorem wB0 {pos : Pos} {id : String} {first : List Value} {Q : Value → Shared → Prop} (h : Wp prog w A (call (.builtin id) first) Q s) :
    Wp prog w A (callWith pos (.builtin id) first (backTo pos (starEach [] env)) []) Q s := ⟨fun E => callWith_method0 (h.out E)⟩
theorem wB1 {pos : Pos} {id : String} {first : List Value} {e : Expr} {rest : List Expr} {Q : Value → Shared → Prop}
    (h : Wp prog w A (spliced (backTo pos (starEach (e :: rest) env))) (fun vs s₁ => Wp prog w A (call (.builtin id) (first ++ vs)) Q s₁) s)
    (he : starEach (e :: rest) env = (false, eval e env) :: starEach rest env := by rfl)
    (hplain : (backTo pos (starEach rest env)).any (·.1) = false := by rfl) :
    Wp prog w A (callWith pos (.builtin id) first (backTo pos (starEach (e :: rest) env)) []) Q s :=
  ⟨fun E => callWith_method1 (wpAny_mono (h.out E) (fun _ _ x => x.out E) fun _ _ e => e) he hplain⟩
theorem wT1 {pos : Pos} {T : String} {e : Expr} {rest : List Expr} {Q : Value → Shared → Prop}
    (h : Wp prog w A (spliced (backTo pos (starEach (e :: rest) env))) (fun vs s₁ => Wp prog w A (call (.type T) vs) Q s₁) s)
    (he : starEach (e :: rest) env = (false, eval e env) :: starEach rest env := by rfl)
    (hplain : (backTo pos (starEach rest env)).any (·.1) = false := by rfl) :
    Wp prog w A (callWith pos (.type T) [] (backTo pos (starEach (e :: rest) env)) []) Q s :=
  ⟨fun E => PyProof.Rows.callWith_type1 (wpAny_mono (h.out E) (fun _ _ x => x.out E) fun _ _ e => e) he hplain⟩
/-- a call of a def of the top -/
theorem wF1 {pos : Pos} {a : Addr} {oc : Value} {od : Option Addr} {osl : Array (Option Value)} {fd : FuncData} {first : List Value} {e : Expr} {rest : List Expr} {Q : Value → Shared → Prop}
    (ho : (Mine.hd.heap_39 w.params).lookup a = some ⟨oc, od, .func fd, osl⟩)
    (h : Wp prog w A (spliced (backTo pos (starEach (e :: rest) env))) (fun vs s₁ => Host w mg mb s₁.heap ∧ Wp prog w A (call (.ref a) (first ++ vs)) Q s₁) s)
    (he : starEach (e :: rest) env = (false, eval e env) :: starEach rest env := by rfl) :
    Wp prog w A (callWith pos (.ref a) first (backTo pos (starEach (e :: rest) env)) []) Q s :=
  ⟨fun E => by
    have h' := h.out E
    rw [he] at h' ⊢
    exact callWith_function (evalArgs_plain (wpAny_mono h' (fun _ _ x => ⟨⟨x.1.K _ _ ho, rfl⟩, x.2.out E⟩) fun _ _ e => e))⟩
theorem wF0 {pos : Pos} {a : Addr} {oc : Value} {od : Option Addr} {osl : Array (Option Value)} {fd : FuncData} {first : List Value} {Q : Value → Shared → Prop}
    (ho : (Mine.hd.heap_39 w.params).lookup a = some ⟨oc, od, .func fd, osl⟩) (H : Host w mg mb s.heap) (h : Wp prog w A (call (.ref a) first) Q s) :
    Wp prog w A (callWith pos (.ref a) first (backTo pos (starEach [] env)) []) Q s :=
  ⟨fun E => callWith_function (evalArgs_nil3 ⟨⟨H.K _ _ ho, rfl⟩, by simpa using h.out E⟩)⟩

-- names
theorem ldL {fd : FuncData} {L a : Addr} {x : Str} {pos : Pos} {m} {v : Value} {Q : Value → Shared → Prop} (hn : s.heap.Ns L m) (hv : m x = some v) (h : Q v s)
    (hk : fd.scope.kind = .function := by rfl) (hl : (callEnv fd L a).kindOf x = some .local := by rfl) (hd : (x == ("__debug__" : Str)) = false := by decide) :
    Wp prog w A (eval (.Name x pos) (callEnv fd L a)) Q s := ⟨fun _ => wpAny_Name (wpAny_loadName_local hk hl hn hv h) hd⟩
/-- a local name is stored -/
theorem stL {fd : FuncData} {L a : Addr} {x : Str} {m} {v : Value} {Q : Unit → Shared → Prop} (hn : s.heap.Ns L m)
    (h : ∀ s', Like s s' → Heap.SameBut L s.heap s'.heap → s'.heap.Ns L (fun y => if y = x then some v else m y) → Q () s')
    (hk : fd.scope.kind = .function := by rfl) (hl : (callEnv fd L a).kindOf x = some .local := by rfl) :
    Wp prog w A (storeName (callEnv fd L a) x v) Q s :=
  ⟨fun _ => wpAny_storeName_local hl hn (fun h' hn' hs => h { s with heap := h', toks := _ } ⟨rfl, rfl, rfl⟩ hs hn')
    (by show (fd.scope.kind == .class || (fd.scope.kind == .module && L != fd.globals)) = false; rw [hk]; rfl)⟩
/-- a global name that the builtins hold -/
theorem ldB {x : Str} {pos : Pos} {v : Value} {Q : Value → Shared → Prop} (H : Host w mg mb s.heap)
    (e : nsIn (Mine.hd.heap_39 w.params) mainGlobals x = some none) (hv : bootBuiltins x = some v) (hn : x ≠ "__name__") (h : Q v s)
    (hk : env.scope.kind = .function := by rfl) (hl : env.kindOf x = some .globalImplicit := by rfl) (hd : (x == ("__debug__" : Str)) = false := by decide)
    (hg : env.globals = mainGlobals := by rfl) (hb : env.builtins = builtinsNs := by rfl) :
    Wp prog w A (eval (.Name x pos) env) Q s :=
  ⟨fun _ => Name_function_global hk hl (loadGlobal_builtin (by rw [hg]; exact H.g) (mg_none_of H.K H.g e) (by rw [hb]; exact H.b) ((H.bs x hn).trans hv) h) hd⟩
/-- a global name of the text's own -/
theorem ldG {x : Str} {pos : Pos} {v : Value} {Q : Value → Shared → Prop} (H : Host w mg mb s.heap)
    (e : nsIn (Mine.hd.heap_39 w.params) mainGlobals x = some (some v)) (h : Q v s)
    (hk : env.scope.kind = .function := by rfl) (hl : env.kindOf x = some .globalImplicit := by rfl) (hd : (x == ("__debug__" : Str)) = false := by decide)
    (hg : env.globals = mainGlobals := by rfl) :
    Wp prog w A (eval (.Name x pos) env) Q s :=
  ⟨fun _ => Name_function_global hk hl (loadGlobal_global (by rw [hg]; exact H.g) (mg_of H.K H.g e) h) hd⟩

-- ints
theorem wAdd {a b : Int} {t u : Tok} {Q : Value → Shared → Prop} (h : Q (.int (a + b) s.toks) { s with toks := s.toks + 1 }) : Wp prog w A (binaryOp .Add (.int a t) (.int b u)) Q s := ⟨fun _ => PyProof.Rows.add_int h⟩
theorem wSubI {a b : Int} {t u : Tok} {Q : Value → Shared → Prop} (h : Q (.int (a - b) s.toks) { s with toks := s.toks + 1 }) : Wp prog w A (binaryOp .Sub (.int a t) (.int b u)) Q s := ⟨fun _ => PyProof.Rows.sub_int h⟩
theorem wDiv {a b : Int} {t u : Tok} {Q : Value → Shared → Prop} (hb : b ≠ 0) (hp : b.natAbs < 1073741824) (h : Q (.int (a.fdiv b) s.toks) { s with toks := s.toks + 1 }) : Wp prog w A (binaryOp .FloorDiv (.int a t) (.int b u)) Q s := ⟨fun _ => floordiv_int hb h (.inl (PyProof.noPylong_small hp))⟩
theorem wMod {a b : Int} {t u : Tok} {Q : Value → Shared → Prop} (hb : b ≠ 0) (h : Q (.int (a.fmod b) s.toks) { s with toks := s.toks + 1 }) : Wp prog w A (binaryOp .Mod (.int a t) (.int b u)) Q s := ⟨fun _ => PyProof.Rows.mod_int hb h⟩
theorem wShr {a n : Int} {t u : Tok} {Q : Value → Shared → Prop} (hn : 0 ≤ n) (h : Q (.int (a.fdiv (2 ^ n.toNat)) s.toks) { s with toks := s.toks + 1 }) : Wp prog w A (binaryOp .RShift (.int a t) (.int n u)) Q s := ⟨fun _ => rshift_int hn h⟩
theorem wEqI {a b : Int} {t u : Tok} {Q : Value → Shared → Prop} (h : Q (.bool (a == b)) s) : Wp prog w A (compareOp .Eq (.int a t) (.int b u)) Q s := ⟨fun _ => PyProof.Rows.eq_int h⟩
theorem wLeI {a b : Int} {t u : Tok} {Q : Value → Shared → Prop} (h : Q (.bool (decide (a ≤ b))) s) : Wp prog w A (compareOp .LtE (.int a t) (.int b u)) Q s := ⟨fun _ => PyProof.Rows.le_int h⟩
theorem wGtI {a b : Int} {t u : Tok} {Q : Value → Shared → Prop} (h : Q (.bool (decide (b < a))) s) : Wp prog w A (compareOp .Gt (.int a t) (.int b u)) Q s := ⟨fun _ => PyProof.Rows.gt_int h⟩
-- texts
theorem wCat {x y : Str} {t u : Tok} {Q : Value → Shared → Prop} (hsz : x.length + y.length ≤ 100000) (h : ∀ t' tk, Q (.str (x ++ y) t') { s with toks := tk }) : Wp prog w A (binaryOp .Add (.str x t) (.str y u)) Q s :=
  ⟨fun _ => PyProof.Rows.add_str h (by rw [sizeLine_eq]; omega)⟩
theorem wEqS {x y : Str} {t u : Tok} {Q : Value → Shared → Prop} (h : Q (.bool (x == y)) s) : Wp prog w A (compareOp .Eq (.str x t) (.str y u)) Q s := ⟨fun _ => PyProof.Rows.eq_str h⟩
theorem wNeS {x y : Str} {t u : Tok} {Q : Value → Shared → Prop} (h : Q (.bool (x != y)) s) : Wp prog w A (compareOp .NotEq (.str x t) (.str y u)) Q s := ⟨fun _ => PyProof.Rows.ne_str h⟩

/-- a def of the top is called -/
theorem enter {a : Addr} {oc : Value} {od : Option Addr} {osl : Array (Option Value)} {fd : FuncData} {body : List Stmt} {args : Args} {binds : List (Str × Value)} {Q : Value → Shared → Prop}
    (H : Host w mg mb s.heap) (ho : (Mine.hd.heap_39 w.params).lookup a = some ⟨oc, od, .func fd, osl⟩) (hcd : codeIn (Mine.hd.heap_39 w.params) fd.code fd.qualname = true)
    (hbody : fd.body = .stmts body) (hroom : A.depth < recursionLimit) (hbind : BindsTo s fd args binds)
    (hcell : ∀ x ∈ fd.scope.names, x.2 ≠ .cell) (hloc : ∀ x ∈ binds, fd.scope.names.lookup x.1 = some .local)
    (h : ∀ s₁ L, Like s s₁ → L = s.heap.objs.size → s₁.heap.Ns L (fun x => binds.reverse.lookup x) → Kept s.heap s₁.heap → Host w mg mb s₁.heap →
      Wp prog w (A.deeper (callEnv fd L a)) (execs body (callEnv fd L a)) (fun f s' => Q (match f with | .ret v => v | _ => .none) s') s₁)
    (hco : fd.scope.isCoroutine = false := by rfl) (hgen : fd.scope.isGenerator = false := by rfl) (hk : fd.scope.kind = .function := by rfl) :
    Wp prog w A (call (.ref a) args.pos args.kw) Q s :=
  ⟨fun _ => wpAny_call (codeAny_call_def hroom (H.K _ _ ho) rfl H.nolimit (codeRec_of H.K hcd) hbody hbind hcell hloc
    (fun h₀ N k => wpAny_mono ((h { s with heap := h₀, toks := _ } _ ⟨rfl, rfl, rfl⟩ rfl N k (H.keeps k)).out (fun _ _ => False)) (fun _ _ x => x) fun _ _ x => x.elim) hco hgen hk)⟩

theorem mBitLen {a : Int} {t : Tok} {pl : Sem Bool} {Q : Value × List Value → Shared → Prop} (h : Q (.builtin "int.bit_length", [.int a t]) s) : Wp prog w A (getMethod (.int a t) (Str.ofString "bit_length") pl) Q s := ⟨fun _ => getMethod_int_bit_length h⟩
theorem cBitLen {a : Int} {t : Tok} {Q : Value → Shared → Prop} (h : Q (.int (Builtin.Int.intBits a) s.toks) { s with toks := s.toks + 1 }) : Wp prog w A (call (.builtin "int.bit_length") [.int a t]) Q s := ⟨fun _ => call_int_bit_length h⟩

set_option maxHeartbeats 4000000 in
theorem high_bit_call {n : Int} {t : Tok} {Q : Value → Shared → Prop} (H : Host w mg mb s.heap) (hroom : A.depth < recursionLimit)
    (h : ∀ s' t', Like s s' → Kept s.heap s'.heap → Q (.int ((Builtin.Int.intBits n : Int) - 1) t') s') :
    Wp prog w A (call (.ref 90) [.int n t]) Q s := by
  refine enter (args := ⟨[.int n t], []⟩) (binds := [("value", .int n t)]) H rfl rfl rfl hroom (.of_eq rfl) (by decide) (locs rfl) ?_
  intro s₁ L l₁ hL N k H0
  refine wCons (wReturn (wBinOp (wMeth (ldL N rfl (mBitLen (wB0 (cBitLen ?_)))))))
  exact wInt (wSubI (h _ _ l₁ k))
end

/-- a list of texts -/
def Good (h : Heap) (r : Addr) (xs : List Str) : Prop := ∃ vs, h.PlainList r vs.toArray ∧ StrsAre vs xs
theorem Good.at {h h' : Heap} {r xs} (g : Good h r xs) (k : ∀ o, h.get? r = some o → h'.get? r = some o) : Good h' r xs := let ⟨vs, a, b⟩ := g; ⟨vs, a.at k, b⟩
/-- a list of ints -/
def GoodI (h : Heap) (r : Addr) (xs : List Int) : Prop := ∃ vs, h.PlainList r vs.toArray ∧ IntsAre vs xs
theorem GoodI.at {h h' : Heap} {r xs} (g : GoodI h r xs) (k : ∀ o, h.get? r = some o → h'.get? r = some o) : GoodI h' r xs := let ⟨vs, a, b⟩ := g; ⟨vs, a.at k, b⟩

structure Lists (h : Heap) (rs : List Addr) (xss : List (List Str)) : Prop where
  len : rs.length = xss.length
  at_ : ∀ (j : Nat) (r : Addr) (xs : List Str), rs[j]? = some r → xss[j]? = some xs → Good h r xs
theorem Lists.keep {h h' : Heap} {rs : List Addr} {xss : List (List Str)} (x : Lists h rs xss) (k : ∀ r ∈ rs, ∀ o, h.get? r = some o → h'.get? r = some o) : Lists h' rs xss :=
  ⟨x.len, fun j r xs e1 e2 => (x.at_ j r xs e1 e2).at fun o => k r (List.mem_of_getElem? e1) o⟩
theorem Lists.snoc {h : Heap} {rs : List Addr} {xss : List (List Str)} {r : Addr} {xs : List Str} (x : Lists h rs xss) (g : Good h r xs) : Lists h (rs ++ [r]) (xss ++ [xs]) := by
  refine ⟨by simp [x.len], fun j r' xs' e1 e2 => ?_⟩
  by_cases hj : j < rs.length
  · rw [List.getElem?_append_left hj] at e1
    rw [List.getElem?_append_left (x.len ▸ hj)] at e2
    exact x.at_ j _ _ e1 e2
  · have hl : j = rs.length := by
      have := (List.getElem?_eq_some_iff.mp e1).1
      simp at this; omega
    subst hl
    rw [List.getElem?_append_right (Nat.le_refl _)] at e1
    rw [x.len, List.getElem?_append_right (Nat.le_refl _)] at e2
    simp at e1 e2
    subst e1; subst e2; exact g

theorem strsAre_length : ∀ {vs : List Value} {xs : List Str}, StrsAre vs xs → vs.length = xs.length
  | _, _, .nil => rfl
  | _, _, .cons _ _ h => by simp [strsAre_length h]
theorem strsAre_get : ∀ {vs : List Value} {xs : List Str}, StrsAre vs xs → ∀ {j : Nat} {y : Str}, xs[j]? = some y → ∃ t, vs[j]? = some (.str y t)
  | _, _, .cons x t _, 0, y, h => ⟨t, by simp at h ⊢; exact h⟩
  | _, _, .cons _ _ r, j + 1, y, h => by simpa using strsAre_get r (by simpa using h)
theorem strsAre_get' : ∀ {vs : List Value} {xs : List Str}, StrsAre vs xs → ∀ {j : Nat} {v : Value}, vs[j]? = some v → ∃ y t, v = .str y t ∧ xs[j]? = some y
  | _, _, .cons x t _, 0, v, h => ⟨x, t, by simp at h; exact h.symm, by simp⟩
  | _, _, .cons _ _ r, j + 1, v, h => by simpa using strsAre_get' r (by simpa using h)
theorem strsAre_one (y : Str) (t : Tok) : StrsAre [.str y t] [y] := .cons y t .nil
theorem intsAre_get : ∀ {vs : List Value} {xs : List Int}, IntsAre vs xs → ∀ {j : Nat} {y : Int}, xs[j]? = some y → ∃ t, vs[j]? = some (.int y t)
  | _, _, .cons x t _, 0, y, h => ⟨t, by simp at h ⊢; exact h⟩
  | _, _, .cons _ _ r, j + 1, y, h => by simpa using intsAre_get r (by simpa using h)
theorem intsAre_get' : ∀ {vs : List Value} {xs : List Int}, IntsAre vs xs → ∀ {j : Nat} {v : Value}, vs[j]? = some v → ∃ y t, v = .int y t ∧ xs[j]? = some y
  | _, _, .cons x t _, 0, v, h => ⟨x, t, by simp at h; exact h.symm, by simp⟩
  | _, _, .cons _ _ r, j + 1, v, h => by simpa using intsAre_get' r (by simpa using h)
theorem intsAre_length : ∀ {vs : List Value} {xs : List Int}, IntsAre vs xs → vs.length = xs.length
  | _, _, .nil => rfl
  | _, _, .cons _ _ h => by simp [intsAre_length h]

theorem plist_push {h : Heap} {l : Addr} {its : Array Value} (x : h.PlainList l its) (o : Obj) : (h.push o).PlainList l its := x.at fun _ e => Heap.get?_push_of_some o e
theorem plist_new (h : Heap) (its : List Value) : (h.push { cls := .type "list", data := .seq its.toArray }).PlainList h.objs.size its.toArray := ⟨0, Heap.get?_push_size _ rfl⟩
theorem plist_lt {h : Heap} {l : Addr} {its : Array Value} (x : h.PlainList l its) : l < h.objs.size := let ⟨_, e⟩ := x; Heap.lt_size e
theorem Good.lt {h : Heap} {r xs} (g : Good h r xs) : r < h.objs.size := let ⟨_, a, _⟩ := g; plist_lt a
theorem Lists.lt {h : Heap} {rs : List Addr} {xss : List (List Str)} (x : Lists h rs xss) : ∀ r ∈ rs, r < h.objs.size := fun r hr => by
  obtain ⟨q, hq⟩ := List.getElem?_of_mem hr
  have hl : q < xss.length := by rw [← x.len]; exact (List.getElem?_eq_some_iff.mp hq).1
  exact (x.at_ _ _ _ hq (List.getElem?_eq_getElem hl)).lt

/-- a for's loop, ahead of its first turn -/
structure ForW (prog : Program) (w : World) (A : Around) (target : Expr) (it : Value) (body : List Stmt) (env : Env) (Q : Flow → Shared → Prop) (s : Shared) : Prop where
  out : ∀ E, codeAny (model prog w) A (.forLoop target it body [] env) (fun r s' => match r with | .ok f => Q f s' | .error e => cameBackBy (model prog w) A env E e s') s

section
variable {prog : Program} {w : World} {mg mb : Str → Option Value} {A : Around} {s : Shared} {env : Env}

theorem wFor {target iter body pos} {Q : Flow → Shared → Prop}
    (h : Wp prog w A (eval iter env) (fun x s₁ => Wp prog w A (pyIter x) (fun it s₂ => ForW prog w A target it body env Q s₂) s₁) s)
    (hs : ∀ x, foldedSetIterable iter env x = pure x := by intro _; rfl) :
    Wp prog w A (exec (.For target iter body [] pos) env) Q s :=
  ⟨fun E => wpAny_For (wpAny_mono (h.out E) (fun _ _ x => wpAny_mono (x.out E) (fun _ _ y => y.out E) fun _ _ e => e) fun _ _ e => e) hs⟩

/-- a for over anything that walks, by an invariant over the state -/
theorem for_walk {Q : Flow → Shared → Prop} {target : Expr} {body : List Stmt} {I : Addr} {fp wr : List Addr} {n : Nat} {P : Nat → Value → Prop} {St : Nat → Heap → Prop}
    (W : Walks prog w A I fp wr n P St) (J : Nat → Shared → Prop)
    (hJ : ∀ i s s', J i s → Like s s' → (∀ b o, b ∉ wr → s.heap.get? b = some o → s'.heap.get? b = some o) → J i s')
    (hst : St 0 s.heap) (h0 : J 0 s)
    (turn : ∀ i v s₁, i < n → P i v → St (i + 1) s₁.heap → J i s₁ →
      Wp prog w A (assign target env v) (fun _ s₂ => Wp prog w A (execs body env) (fun f s₃ => match f with
        | .next | .cont => St (i + 1) s₃.heap ∧ J (i + 1) s₃
        | .brk => Q .next s₃
        | .ret v => Q (.ret v) s₃) s₂) s₁)
    (hend : ∀ s', J n s' → Q .next s')
    (ht : ∀ v, letOwnedTupleGo target (.ref I) v = pure () := by intro _; rfl) :
    ForW prog w A target (.ref I) body env Q s := ⟨fun E => by
  refine codeAny_forLoop (fun k s' => ∃ i, i ≤ n ∧ k = n + 1 - i ∧ St i s'.heap ∧ J i s') ?_ (n + 1) ⟨0, Nat.zero_le _, rfl, hst, h0⟩ ht
  rintro k s' ⟨i, hi, rfl, hst', hj⟩
  by_cases hlt : i < n
  · refine W.item i s' _ _ hlt hst' fun v h' tk hp hst₁ hk => ?_
    have hj' : J i { s' with heap := h', toks := tk } := hJ i s' _ hj ⟨rfl, rfl, rfl⟩ hk
    refine wpAny_mono ((turn i v _ hlt hp hst₁ hj').out (fun _ _ => False)) (fun _ s₂ h₂ => ?_) fun _ _ x => x.elim
    refine wpAny_mono (h₂.out (fun _ _ => False)) (fun f s₃ h₃ => ?_) fun _ _ x => x.elim
    cases f with
    | next => exact ⟨n + 1 - (i + 1), by omega, i + 1, hlt, rfl, h₃⟩
    | cont => exact ⟨n + 1 - (i + 1), by omega, i + 1, hlt, rfl, h₃⟩
    | brk => exact h₃
    | ret v => exact h₃
  · have hin : i = n := by omega
    subst hin
    refine W.done s' _ _ hst' fun h' tk hk => wpAny_execs_nil (hend { s' with heap := h', toks := tk } (hJ i s' _ hj ⟨rfl, rfl, rfl⟩ hk))⟩

theorem addL {l b : Addr} {vs ws : List Value} {Q : Value → Shared → Prop} (hl : s.heap.PlainList l vs.toArray) (hb : s.heap.PlainList b ws.toArray)
    (h : ∀ s', Like s s' → s'.heap = s.heap.push { cls := .type "list", data := .seq (vs ++ ws).toArray } → Q (.ref s.heap.objs.size) s') (hsz : vs.length + ws.length ≤ 100000) :
    Wp prog w A (binaryOp .Add (.ref l) (.ref b)) Q s := ⟨fun E => by
  obtain ⟨n, hl⟩ := hl
  obtain ⟨n2, hb⟩ := hb
  refine P.add_list hl hb ?_ (by rw [sizeLine_eq]; simp; omega)
  rw [show vs.toArray ++ ws.toArray = (vs ++ ws).toArray by simp]
  exact h _ ⟨rfl, rfl, rfl⟩ rfl⟩

/-- an item of a plain list at a place in bounds -/
theorem itemL {value slice : Expr} {l : Addr} {vs : List Value} {k : Int} {u : Tok} {v : Value} {Q : Value → Shared → Prop} (hl : s.heap.PlainList l vs.toArray)
    (h0 : 0 ≤ k) (hhi : k < 2 ^ 63) (hx : vs[k.toNat]? = some v) (h : Q v s)
    (hs : subscripted slice false (.ref l) (.int k u) = operate [.ref l, .int k u] (getItem (.ref l) (.int k u)) := by with_unfolding_all rfl) :
    Wp prog w A (subscriptTail value slice (.ref l) (.int k u)) Q s :=
  ⟨fun _ => tail_any hl.isList.typeIs slot_list_getitem.lookup (wpAny_getItem_list hl.isList h0 hhi (by simpa using hx) h) hs⟩

theorem mAppend {l : Addr} {its : Array Value} {pl : Sem Bool} {Q : Value × List Value → Shared → Prop} (hl : s.heap.PlainList l its) (h : Q (.builtin "list.append", [.ref l]) s) :
    Wp prog w A (getMethod (.ref l) (Str.ofString "append") pl) Q s := ⟨fun _ => by
  obtain ⟨n, e⟩ := hl
  exact getMethod_list_append e rfl rfl h⟩
theorem cAppend {l : Addr} {vs : List Value} {x : Value} {Q : Value → Shared → Prop} (hl : s.heap.PlainList l vs.toArray)
    (h : ∀ s', Like s s' → s'.heap.PlainList l (vs ++ [x]).toArray → Heap.SameBut l s.heap s'.heap → Q .none s') (hsz : vs.length ≤ 100000) :
    Wp prog w A (call (.builtin "list.append") [.ref l, x]) Q s :=
  ⟨fun _ => wpAny_list_append_plain hl (fun h' p S => h { s with heap := h' } ⟨rfl, rfl, rfl⟩ (by simpa using p) S) (by rw [sizeLine_eq]; simp; omega)⟩
theorem iterL {l : Addr} {items : Array Value} {Q : Value → Shared → Prop} (hl : s.heap.IsList l items)
    (h : ∀ s' I, Like s s' → I = s.heap.objs.size → Kept s.heap s'.heap → s'.heap.objs.size = I + 1 → s'.heap.IsListIter I l 0 → Q (.ref I) s') :
    Wp prog w A (pyIter (.ref l)) Q s :=
  ⟨fun _ => wpAny_pyIter_list hl (h { s with heap := _ } _ ⟨rfl, rfl, rfl⟩ rfl (fun _ _ e => Heap.get?_push_of_some _ e) (by simp) ⟨_, Heap.get?_push_size _ rfl, rfl, rfl⟩)⟩

/-- range(a, b), small: its iterator -/
theorem range2_iter {x : Str} {p pos p1 p2 : Pos} {a b : Int} {k1 k2 : Nat} {Q : Value → Shared → Prop} (H : Host w mg mb s.heap)
    (hab : a ≤ b) (ha : -(2 ^ 62) ≤ a) (hb : b < 2 ^ 62)
    (h : ∀ s' I, Like s s' → Kept s.heap s'.heap → s.heap.objs.size < I → IsRangeIter s'.heap I (a + (0 : Nat) * 1) (((b - a).toNat : Int) - (0 : Nat)) 1 → s'.heap.objs.size = I + 1 → Q (.ref I) s')
    (hx : x = "range" := by rfl) (hk : env.scope.kind = .function := by rfl) (hl : env.kindOf "range" = some .globalImplicit := by rfl)
    (hg : env.globals = mainGlobals := by rfl) (hbl : env.builtins = builtinsNs := by rfl) :
    Wp prog w A (eval (.Call (.Name x p) [.Constant (.int a) k1 p1, .Constant (.int b) k2 p2] [] pos) env) (fun v s' => Wp prog w A (pyIter v) Q s') s := by
  subst hx
  refine wCall (ldB H rfl boot_range (by decide) ?_ hk hl (by decide) hg hbl)
  refine wT1 (wICons (wInt (wICons (wInt (wINil ⟨fun E => call_range_2 ?_⟩)))))
  refine ⟨fun E => wpAny_pyIter_range (IsRange.new ..) (small_one ha (by omega) (by omega) hb) ?_⟩
  refine h _ _ ⟨rfl, rfl, rfl⟩ (fun b o e => Heap.get?_push_of_some _ (Heap.get?_push_of_some _ e)) (by simp) ?_ (by simp)
  have e : Builtin.Range.rangeSize a b 1 = ((b - a).toNat : Int) - (0 : Nat) := by rw [rangeSize_one]; split <;> omega
  have e2 : a + ((0 : Nat) : Int) * 1 = a := by simp
  rw [← e, e2]
  exact Heap.get?_push_size _ rfl
end

def trailsL : Nat → List (List Str)
  | 0 => [[]]
  | k + 1 => trailsL k ++ [(trailsL k).getD ((k + 1) / 2) [] ++ [(["a", "ab"] : List Str).getD ((k + 1) % 2) ""]]
theorem trailsL_length : ∀ k, (trailsL k).length = k + 1
  | 0 => rfl
  | k + 1 => by rw [trailsL, List.length_append, trailsL_length k]; rfl
theorem trailsL_le (i : Nat) : ∀ xs ∈ trailsL i, xs.length ≤ i := by
  induction i with
  | zero => intro xs hx; simp [trailsL] at hx; simp [hx]
  | succ k ih =>
    intro xs hx
    rw [trailsL] at hx
    rcases List.mem_append.mp hx with h | h
    · exact Nat.le_succ_of_le (ih xs h)
    · rw [List.mem_singleton] at h
      subst h
      rw [List.length_append]
      have : ((trailsL k).getD ((k + 1) / 2) []).length ≤ k := by
        rw [List.getD_eq_getElem?_getD]
        cases e : (trailsL k)[(k + 1) / 2]? with
        | none => exact Nat.zero_le _
        | some ys => exact ih ys (List.mem_of_getElem? e)
      simpa using this

section
variable {prog : Program} {w : World} {mg mb : Str → Option Value} {A : Around} {s : Shared}

/-- what stands in _law_trails ahead of turn i -/
structure TrJ (s₀ : Shared) (L T I : Addr) (i : Nat) (s : Shared) : Prop where
  like : Like s₀ s
  keep : Kept s₀.heap s.heap
  ns : ∃ m, s.heap.Ns L m ∧ m "trails" = some (.ref T)
  ls : ∃ rs : List Addr, s.heap.PlainList T (rs.map Value.ref).toArray ∧ Lists s.heap rs (trailsL i) ∧ ∀ r ∈ rs, L < r ∧ r ≠ T ∧ r ≠ I

set_option maxHeartbeats 4000000 in
theorem trails_call {Q : Value → Shared → Prop} (H : Host w mg mb s.heap) (hroom : A.depth < recursionLimit) (hh : A.handled = none)
    (h : ∀ s' T (rs : List Addr), Like s s' → Kept s.heap s'.heap → s'.heap.PlainList T (rs.map Value.ref).toArray → Lists s'.heap rs (trailsL 31) → s.heap.objs.size < T → (∀ r ∈ rs, s.heap.objs.size < r) →
      Q (.ref T) s') :
    Wp prog w A (call (.ref 97) []) Q s := by
  refine enter (args := ⟨[], []⟩) (binds := []) H rfl rfl rfl hroom (.of_eq rfl) (by decide) (locs rfl) ?_
  intro s₁ L l₁ hL N k H0
  have hLs : L < s₁.heap.objs.size := N.lt
  refine wCons (wAssign (dispL (wICons (dispL (wINil ⟨by decide, ?_⟩)))))
  intro s₂ l₂ e₂
  refine wINil ⟨by simp, ?_⟩
  intro s₃ l₃ e₃
  have k₃ : Kept s₁.heap s₃.heap := by rw [e₃, e₂]; exact fun b o e => Heap.get?_push_of_some _ (Heap.get?_push_of_some _ e)
  refine stL (N.keeps k₃) ?_
  intro s₄ l₄ S₄ N₄
  have k₄ : Kept s.heap s₄.heap := keptBut (fun b o e => k₃ b o (k b o e)) S₄ (by omega)
  have sz2 : s₂.heap.objs.size = s₁.heap.objs.size + 1 := by rw [e₂, Heap.size_push]
  have hT : s₄.heap.PlainList s₂.heap.objs.size ([s₁.heap.objs.size].map Value.ref).toArray := by
    refine Heap.PlainList.extBut (h := s₃.heap) ?_ S₄.extBut (neN (by omega))
    rw [e₃]; exact plist_new _ _
  have hr0 : Good s₄.heap s₁.heap.objs.size [] := by
    refine ⟨[], Heap.PlainList.extBut (h := s₃.heap) ?_ S₄.extBut (neN (by omega)), .nil⟩
    rw [e₃, e₂]; exact plist_push (plist_new _ _) _
  refine wCons (wFor (range2_iter (H.keeps k₄) (by decide) (by decide) (by decide) ?_))
  intro s₅ I l₅ k₅ hI hit _
  have hI4 : s₄.heap.objs.size = s₃.heap.objs.size := S₄.1
  have sz3 : s₃.heap.objs.size = s₂.heap.objs.size + 1 := by rw [e₃, Heap.size_push]
  refine for_walk (Walks.range (A := A.deeper _) hh I 1 1 31) (TrJ s L s₂.heap.objs.size I) ?_ hit ⟨?_, ?_, ?_, ?_⟩ ?_ ?_
  · intro i a b ⟨j1, j2, ⟨m, j3, j3'⟩, ⟨rs, j4, j5, j6⟩⟩ lb kb
    have kb' : ∀ c o, c ≠ I → a.heap.get? c = some o → b.heap.get? c = some o := fun c o hc e => kb c o (by simpa using hc) e
    refine ⟨j1.trans lb, fun c o e => kb' c o ?_ (j2 c o e), ⟨m, j3.at' fun o e => kb' L o (neN (by omega)) e, j3'⟩, ⟨rs, j4.at fun o e => kb' _ o (neN (by omega)) e, j5.keep fun r hr o e => kb' r o (j6 r hr).2.2 e, j6⟩⟩
    exact neN (by have := ltN (Heap.lt_size e); omega)
  · exact l₁.trans (l₂.trans (l₃.trans (l₄.trans l₅)))
  · exact fun b o e => k₅ b o (k₄ b o e)
  · exact ⟨_, N₄.keeps k₅, rfl⟩
  · refine ⟨[s₁.heap.objs.size], hT.at fun o e => k₅ _ o e, ?_, ?_⟩
    · refine ⟨rfl, fun j r xs q1 q2 => ?_⟩
      cases j with
      | zero => simp [trailsL] at q1 q2; subst q1; subst q2; exact hr0.at fun o e => k₅ _ o e
      | succ j => simp at q1
    · intro r hr; simp at hr; subst hr; exact ⟨hLs, neN (by omega), neN (by omega)⟩
  · rintro i v a hi ⟨t, rfl⟩ hst ⟨j1, j2, ⟨m, j3, j3'⟩, ⟨rs, j4, j5, j6⟩⟩
    have hlen : rs.length = i + 1 := by rw [j5.len, trailsL_length]
    refine wAssignN (stL j3 ?_)
    intro b lb Sb Nb
    have jT := j4.extBut Sb.extBut (neN (by omega))
    have jr : Lists b.heap rs (trailsL i) := j5.keep fun r hr o e => Sb.extBut r o (neN (by have := ltN (j6 r hr).1; omega)) e
    have hj : ((1 + (i : Int) * 1).fdiv 2).toNat = (i + 1) / 2 := by rw [Int.fdiv_eq_ediv_of_nonneg _ (by decide)]; omega
    have hm : ((1 + (i : Int) * 1).fmod 2).toNat = (i + 1) % 2 := by rw [Int.fmod_eq_emod_of_nonneg _ (by decide)]; omega
    have h0 : 0 ≤ (1 + (i : Int) * 1).fdiv 2 := by rw [Int.fdiv_eq_ediv_of_nonneg _ (by decide)]; omega
    have h0' : (1 + (i : Int) * 1).fdiv 2 < 2 ^ 63 := by rw [Int.fdiv_eq_ediv_of_nonneg _ (by decide)]; omega
    have h1 : 0 ≤ (1 + (i : Int) * 1).fmod 2 := by rw [Int.fmod_eq_emod_of_nonneg _ (by decide)]; omega
    have h1' : (1 + (i : Int) * 1).fmod 2 < 2 ^ 63 := by rw [Int.fmod_eq_emod_of_nonneg _ (by decide)]; omega
    have hlt : (i + 1) / 2 < rs.length := by omega
    obtain ⟨r, hr⟩ : ∃ r, rs[(i + 1) / 2]? = some r := ⟨_, List.getElem?_eq_getElem hlt⟩
    obtain ⟨xs, hx⟩ : ∃ xs, (trailsL i)[(i + 1) / 2]? = some xs := ⟨_, List.getElem?_eq_getElem (by rw [trailsL_length]; omega)⟩
    obtain ⟨vs, gv, gs⟩ := jr.at_ _ _ _ hr hx
    refine wCons (wExpr (wMeth (ldL Nb j3' (mAppend jT (wB1 (wICons (wBinOp (wSub (ldL Nb j3' (wBinOp (ldL Nb rfl (wInt (wDiv (by decide) (by decide) ?_)))))))))))))
    refine itemL jT h0 h0' (v := .ref r) (by rw [hj, List.getElem?_map, hr]; rfl) ?_
    refine dispL (wICons (wSub (dispL (wICons (wStr (wICons (wStr (wINil ⟨by simp, ?_⟩))))))))
    intro c lc ec
    have kc : Kept b.heap c.heap := by rw [ec]; exact kept_push _ _
    have szc : c.heap.objs.size = b.heap.objs.size + 1 := by rw [ec, Heap.size_push]
    refine wBinOp (ldL (Nb.keeps kc) rfl (wInt (wMod (by decide) ?_)))
    obtain ⟨ws, gw, gws⟩ : Good c.heap b.heap.objs.size ["a", "ab"] := by rw [ec]; exact ⟨_, plist_new _ _, .cons _ _ (.cons _ _ .nil)⟩
    have hlt2 : (i + 1) % 2 < 2 := Nat.mod_lt _ (by decide)
    obtain ⟨y, hy⟩ : ∃ y, (["a", "ab"] : List Str)[(i + 1) % 2]? = some y := ⟨_, List.getElem?_eq_getElem hlt2⟩
    obtain ⟨ty, hty⟩ := strsAre_get gws hy
    refine itemL gw h1 h1' (v := .str y ty) (by rw [hm]; exact hty) ?_
    refine wINil ⟨by simp, ?_⟩
    intro d ld ed
    have kd : Kept c.heap d.heap := by rw [ed]; exact kept_push _ _
    have szd : d.heap.objs.size = c.heap.objs.size + 1 := by rw [ed, Heap.size_push]
    have hvl : vs.length ≤ 31 := by
      rw [strsAre_length gs]
      have := trailsL_le i xs (List.mem_of_getElem? hx)
      omega
    refine addL (vs := vs) (ws := [.str y ty]) (gv.at fun o e => kd _ _ (kc _ _ e)) (by rw [ed]; exact plist_new _ _) ?_ (by simp; omega)
    intro f lf ef
    have kf : Kept d.heap f.heap := by rw [ef]; exact kept_push _ _
    have szf : f.heap.objs.size = d.heap.objs.size + 1 := by rw [ef, Heap.size_push]
    have kbf : Kept b.heap f.heap := fun x o e => kf _ _ (kd _ _ (kc _ _ e))
    have hTb : s₂.heap.objs.size < b.heap.objs.size := ltN (plist_lt jT)
    refine wINil (cAppend (jT.at fun o e => kbf _ _ e) ?_ (by simp; omega))
    intro p lp pT Sp
    have eT : (rs.map Value.ref ++ [Value.ref d.heap.objs.size]).toArray = ((rs ++ [d.heap.objs.size]).map Value.ref).toArray := by simp
    rw [eT] at pT
    have hrlt := jr.lt
    have hIb : I < b.heap.objs.size := by rw [Sb.1]; exact Heap.lt_size hst
    have kh : ∀ x o, x ≠ s₂.heap.objs.size → b.heap.get? x = some o → p.heap.get? x = some o := fun x o hx e => Sp.extBut x o hx (kbf x o e)
    refine wNil ⟨?_, j1.trans (lb.trans (lc.trans (ld.trans (lf.trans lp)))), ?_, ⟨_, (Nb.keeps kbf).sameBut Sp (neN (by omega)), j3'⟩, ⟨rs ++ [d.heap.objs.size], pT, ?_, ?_⟩⟩
    · exact kh I _ (neN (by omega)) (Sb.extBut _ _ (neN (by omega)) hst)
    · intro x o e
      have := ltN (Heap.lt_size e)
      exact kh x o (neN (by omega)) (Sb.extBut x o (neN (by omega)) (j2 x o e))
    · rw [trailsL]
      refine Lists.snoc (jr.keep fun r hr o e => kh r o (j6 r hr).2.1 e) ⟨vs ++ [.str y ty], ?_, ?_⟩
      · exact Heap.PlainList.at (h := f.heap) (by rw [ef]; exact plist_new _ _) fun o e => Sp.extBut _ _ (neN (by omega)) e
      · have e1 : (trailsL i).getD ((i + 1) / 2) [] = xs := by rw [List.getD_eq_getElem?_getD, hx]; rfl
        have e2 : (["a", "ab"] : List Str).getD ((i + 1) % 2) "" = y := by rw [List.getD_eq_getElem?_getD, hy]; rfl
        rw [e1, e2]
        exact gs.append' (strsAre_one y ty)
    · intro r hr
      rcases List.mem_append.mp hr with hr | hr
      · exact j6 r hr
      · rw [List.mem_singleton] at hr
        subst hr
        exact ⟨ltN (by omega), neN (by omega), neN (by omega)⟩
  · rintro a ⟨j1, j2, ⟨m, j3, j3'⟩, ⟨rs, j4, j5, j6⟩⟩
    refine wCons (wReturn (ldL j3 j3' ?_))
    exact h _ _ rs j1 j2 j4 j5 (ltN (by omega)) fun r hr => ltN (by have := ltN (j6 r hr).1; omega)
end

def Small (xs : List Str) : Prop := (xs.map (·.length)).sum + xs.length * 64 ≤ 1000
theorem Small.join {xs : List Str} (h : Small xs) {sep : Str} (hs : sep.length ≤ 64) : (Txt.join sep xs).length ≤ 1000 := by
  show (Builtin.Str.glued sep xs).length ≤ 1000
  rw [PySem.size_glued]
  unfold Small at h
  have := Nat.mul_le_mul (Nat.sub_le xs.length 1) hs
  omega
theorem Small.ok {xs : List Str} (h : Small xs) {sep : Str} (hs : sep.length ≤ 64) : (xs.map (·.length)).sum + xs.length * sep.length ≤ 16777216 := by
  unfold Small at h
  have := Nat.mul_le_mul_left xs.length hs
  omega
theorem trails_small : ∀ xs ∈ trailsL 31, Small xs := by
  have h : ((trailsL 31).all fun xs => decide ((xs.map (·.length)).sum + xs.length * 64 ≤ 1000)) = true := by decide +kernel
  intro xs hx
  unfold Small
  exact of_decide_eq_true (List.all_eq_true.mp h xs hx)

def written (xs : List Str) (way : Int) : Str :=
  if way = 0 then "/" ++ Txt.join "/" xs
  else if way = 1 then "///" ++ Txt.join "/./" xs ++ "/"
  else if way = 2 then "/ab/../" ++ Txt.join "//" xs ++ "/."
  else "/../" ++ Txt.join "/" xs ++ "/a/.."

theorem len_app (x y : Str) : (x ++ y).length = x.length + y.length := Str.length_append x y
theorem ofs_length_le : ("/ab/../" : Str).length = 7 ∧ ("///" : Str).length = 3 ∧ ("/" : Str).length = 1 ∧ ("/." : Str).length = 2 ∧ ("/../" : Str).length = 4 ∧ ("/a/.." : Str).length = 5 := by decide

section
variable {prog : Program} {w : World} {mg mb : Str → Option Value} {A : Around} {s : Shared}

theorem mJoin {x : Str} {t : Tok} {pl : Sem Bool} {Q : Value × List Value → Shared → Prop} (h : Q (.builtin "str.join", [.str x t]) s) : Wp prog w A (getMethod (.str x t) (Str.ofString "join") pl) Q s := ⟨fun _ => GM.join h⟩
theorem cJoin {x : Str} {t : Tok} {r : Addr} {xs : List Str} {Q : Value → Shared → Prop} (g : Good s.heap r xs) (hs : Small xs) (hx : x.length ≤ 64)
    (h : ∀ t' k, Q (.str (Txt.join x xs) t') { s with toks := k }) : Wp prog w A (call (.builtin "str.join") [.str x t, .ref r]) Q s :=
  ⟨fun _ => let ⟨_, gv, gs⟩ := g; join_list gv.isList (by simpa using gs) (hs.ok hx) h⟩

set_option maxHeartbeats 4000000 in
theorem written_call {r : Addr} {xs : List Str} {way : Int} {t : Tok} {Q : Value → Shared → Prop} (H : Host w mg mb s.heap) (hroom : A.depth < recursionLimit)
    (g : Good s.heap r xs) (hs : Small xs)
    (h : ∀ s' t', Like s s' → Kept s.heap s'.heap → Q (.str (written xs way) t') s') :
    Wp prog w A (call (.ref 104) [.ref r, .int way t]) Q s := by
  refine enter (args := ⟨[.ref r, .int way t], []⟩) (binds := [("words", .ref r), ("way", .int way t)]) H rfl rfl rfl hroom (.of_eq rfl) (by decide) (locs rfl) ?_
  intro s₁ L l₁ hL N k H0
  have gl := g.at fun o e => k _ _ e
  obtain ⟨c1, c2, c3, c4, c5, c6⟩ := ofs_length_le
  have d1 := hs.join (sep := "/") (by decide)
  have d2 := hs.join (sep := "/./") (by decide)
  have d3 := hs.join (sep := "//") (by decide)
  unfold written at h
  refine wCons (wIf (wIsCmp (ldL N rfl (wInt (wEqI (wTruthB ?_))))))
  by_cases hw : way = 0
  · subst hw
    refine wCons (wReturn (wBinOp (wStr (wMeth (wStr (mJoin (wB1 (wICons (ldL N rfl (wINil (cJoin gl hs (by decide) ?_)))))))))))
    intro t' k'
    exact wCat (by rw [c3]; omega) fun t'' k'' => h _ _ l₁ k
  · rw [show (way == 0) = false from beq_eq_false_iff_ne.mpr hw]
    rw [if_neg hw] at h
    refine wNil ?_
    refine wCons (wIf (wIsCmp (ldL N rfl (wInt (wEqI (wTruthB ?_))))))
    by_cases hw : way = 1
    · subst hw
      refine wCons (wReturn (wBinOp (wBinOp (wStr (wMeth (wStr (mJoin (wB1 (wICons (ldL N rfl (wINil (cJoin gl hs (by decide) ?_))))))))))))
      intro t' k'
      exact wCat (by rw [c2]; omega) fun t'' k'' => wStr (wCat (by rw [len_app, c2, c3]; omega) fun t'' k'' => h _ _ l₁ k)
    · rw [show (way == 1) = false from beq_eq_false_iff_ne.mpr hw]
      rw [if_neg hw] at h
      refine wNil ?_
      refine wCons (wIf (wIsCmp (ldL N rfl (wInt (wEqI (wTruthB ?_))))))
      by_cases hw : way = 2
      · subst hw
        refine wCons (wReturn (wBinOp (wBinOp (wStr (wMeth (wStr (mJoin (wB1 (wICons (ldL N rfl (wINil (cJoin gl hs (by decide) ?_))))))))))))
        intro t' k'
        exact wCat (by rw [c1]; omega) fun t'' k'' => wStr (wCat (by rw [len_app, c1, c4]; omega) fun t'' k'' => h _ _ l₁ k)
      · rw [show (way == 2) = false from beq_eq_false_iff_ne.mpr hw]
        rw [if_neg hw] at h
        refine wNil ?_
        refine wCons (wReturn (wBinOp (wBinOp (wStr (wMeth (wStr (mJoin (wB1 (wICons (ldL N rfl (wINil (cJoin gl hs (by decide) ?_))))))))))))
        intro t' k'
        exact wCat (by rw [c5]; omega) fun t'' k'' => wStr (wCat (by rw [len_app, c5, c6]; omega) fun t'' k'' => h _ _ l₁ k)
end
section
variable {prog : Program} {w : World} {mg mb : Str → Option Value} {A : Around} {s : Shared} {env : Env}

theorem wTypeS {x : Str} {t : Tok} {Q : Value → Shared → Prop} (h : Q (.type "str") s) : Wp prog w A (call (.type "type") [.str x t]) Q s :=
  ⟨fun _ => call_type_of (typeIs_str s x t) (by decide) h⟩
theorem wIsP {a b : Value} {Q : Value → Shared → Prop} (hp : plainIs a b = true) (h : Q (.bool (a == b)) s) : Wp prog w A (compareOp .Is a b) Q s := ⟨fun _ => wpAny_is_plain hp h⟩
theorem wTruthS {x : Str} {t : Tok} {Q : Bool → Shared → Prop} (hx : x.length ≤ 100000) (h : Q ((x.length : Int) != 0) { s with toks := s.toks + 1 + 1 }) : Wp prog w A (truthy (.str x t)) Q s :=
  ⟨fun _ => P.truthy_str (by omega) h⟩
theorem wTruthL {l : Addr} {vs : List Value} {Q : Bool → Shared → Prop} (hl : s.heap.PlainList l vs.toArray) (hs : vs.length ≤ 100000) (h : Q (!vs.isEmpty) { s with toks := s.toks + 1 + 1 }) : Wp prog w A (truthy (.ref l)) Q s :=
  ⟨fun _ => wpAny_truthy_list hl.isList (by simp; omega) (by simpa using h)⟩
theorem wLenT {t : Addr} {items : Array Value} {Q : Value → Shared → Prop} (ht : IsTup s.heap t items) (hs : items.size ≤ 100000) (h : Q (.int items.size (s.toks + 1)) { s with toks := s.toks + 1 + 1 }) : Wp prog w A (call (.builtin "len") [.ref t]) Q s :=
  ⟨fun _ => len_tuple ht (by omega) h⟩
theorem wLenL {l : Addr} {vs : List Value} {Q : Value → Shared → Prop} (hl : s.heap.PlainList l vs.toArray) (hs : vs.length ≤ 100000) (h : Q (.int vs.length (s.toks + 1)) { s with toks := s.toks + 1 + 1 }) : Wp prog w A (call (.builtin "len") [.ref l]) Q s :=
  ⟨fun _ => call_len_list hl.isList (by simp; omega) (by simpa using h)⟩
theorem wTruthD0 {d : Addr} {Q : Bool → Shared → Prop} (hd : (d == sysModules) = false) (hm : s.heap.get? d = some { cls := .type "dict", data := .dict #[] }) (h : Q false { s with toks := s.toks + 1 + 1 }) : Wp prog w A (truthy (.ref d)) Q s :=
  ⟨fun _ => wpAny_truthy_dict (knd := strKind prog w) (kvs := []) hd ⟨_, _, _, hm, ⟨rfl, rfl, rfl⟩, rfl, (fun e he => by simp at he), .nil, by simp⟩ (by decide) h⟩
theorem itemT {value slice : Expr} {t : Addr} {vs : List Value} {k : Int} {u : Tok} {v : Value} {Q : Value → Shared → Prop} (ht : IsTup s.heap t vs.toArray)
    (h0 : 0 ≤ k) (hhi : k < 2 ^ 63) (hx : vs[k.toNat]? = some v) (h : Q v s)
    (hs : subscripted slice false (.ref t) (.int k u) = operate [.ref t, .int k u] (getItem (.ref t) (.int k u)) := by with_unfolding_all rfl) :
    Wp prog w A (subscriptTail value slice (.ref t) (.int k u)) Q s :=
  ⟨fun _ => tail_any ht.typeIs slot_tuple_getitem.lookup (getItem_tuple (j := k.toNat) ht (by omega) hhi (by
    have := (List.getElem?_eq_some_iff.mp hx).1
    unfold seqIndex?; simp; omega) (by simpa using hx) h) hs⟩

-- slices of a text
theorem wSlice {value : Expr} {lower upper : Option Expr} {p pos : Pos} {Q : Value → Shared → Prop}
    (h : Wp prog w A (eval value env) (fun o s₁ => Wp prog w A (evalPart lower env) (fun vl s₂ => Wp prog w A (evalPart upper env) (fun vu s₃ =>
      ∃ x t l u, o = .str x t ∧ vl = partValue l ∧ vu = partValue u ∧ x.length ≤ 100000 ∧
        ∀ s' t', Like s₃ s' → Kept s₃.heap s'.heap → Q (.str (Txt.slice x (l.map (·.1)) (u.map (·.1))) t') s') s₂) s₁) s)
    (ht : ∀ o r, letTemporaryGo value o r = pure () := by intro _ _; rfl) :
    Wp prog w A (eval (.Subscript value (.Slice lower upper none p) pos) env) Q s :=
  ⟨fun E => wpAny_Subscript_str_slice (wpAny_mono (h.out E) (fun o s₁ h₁ => wpAny_mono (h₁.out E) (fun vl s₂ h₂ => wpAny_mono (h₂.out E) (fun vu s₃ h₃ => by
    obtain ⟨x, t, l, u, e1, e2, e3, hx, hq⟩ := h₃
    refine ⟨x, t, l, u, e1, e2, e3, ?_⟩
    refine post_val_or_str ⟨Nat.le_trans (Txt.slice_le x _ _) (by rw [sizeLine_eq]; omega), fun t' k => ?_⟩
    exact hq _ t' ⟨rfl, rfl, rfl⟩ (kept_push _ _)) fun _ _ e => e) fun _ _ e => e) fun _ _ e => e) ht⟩
theorem wPartN {Q : Value → Shared → Prop} (h : Q .none s) : Wp prog w A (evalPart none env) Q s := ⟨fun _ => evalPart_none_step h⟩
theorem wPartS {e : Expr} {Q : Value → Shared → Prop} (h : Wp prog w A (eval e env) Q s) : Wp prog w A (evalPart (some e) env) Q s := ⟨fun E => evalPart_some_step (h.out E)⟩

-- a tuple unpacked
theorem wAssignT {elts k tpos value pos} {Q : Flow → Shared → Prop}
    (h : Wp prog w A (eval value env) (fun v s₁ => Wp prog w A (assign (.Tuple elts k tpos) env v) (fun _ => Q .next) s₁) s)
    (hs : swapsWithSole [.Tuple elts k tpos] value pos.line env = pure false := by rfl)
    (hw : swappedStores [.Tuple elts k tpos] value env = pure none := by rfl) :
    Wp prog w A (exec (.Assign [.Tuple elts k tpos] value pos) env) Q s :=
  ⟨fun E => Assign_Tuple (wpAny_mono (h.out E) (fun _ _ x => x.out E) fun _ _ e => e) hs hw⟩
theorem wUnpack {elts : List Expr} {x1} {pos : Pos} {t : Addr} {vs : List Value} {Q : Unit → Shared → Prop} (hh : A.handled = none) (ht : IsTup s.heap t vs.toArray)
    (h : ∀ s', Like s s' → Kept s.heap s'.heap → Wp prog w A (assignInOrder ((assignEach elts env).map (·.2)) vs) Q s')
    (hn : (assignEach elts env).length = vs.length := by rfl) (hstar : (assignEach elts env).findIdx? (·.1) = none := by rfl) :
    Wp prog w A (assign (.Tuple elts x1 pos) env (.ref t)) Q s :=
  ⟨fun E => assign_Tuple_tuple hh ht (by simpa using hn) hstar fun h' he => by
    have := (h { s with heap := h' } ⟨rfl, rfl, rfl⟩ fun b o e => he b o (Nat.ne_of_lt (Heap.lt_size e)) e).out E
    simpa using this⟩
theorem wAioNil {Q : Unit → Shared → Prop} (h : Q () s) : Wp prog w A (assignInOrder [] []) Q s := ⟨fun _ => wpAny_pure h⟩
theorem wAioCons {t : Value → Sem Unit} {ts : List (Value → Sem Unit)} {x : Value} {xs : List Value} {Q : Unit → Shared → Prop} (h : Wp prog w A (t x) (fun _ s₁ => Wp prog w A (assignInOrder ts xs) Q s₁) s) :
    Wp prog w A (assignInOrder (t :: ts) (x :: xs)) Q s := ⟨fun E => by
  show wpAny _ _ (holding xs (t x) >>= fun _ => assignInOrder ts xs) Q E s
  exact wpAny_bind (wpAny_holding (wpAny_mono (h.out E) (fun _ _ x => x.out E) fun _ _ e => e))⟩

theorem boot_type : bootBuiltins "type" = some (.type "type") := by decide +kernel
theorem boot_len : bootBuiltins "len" = some (.builtin "len") := by decide +kernel

set_option maxHeartbeats 4000000 in
theorem kind_call {nv : Value} {x : Str} {t : Tok} {Q : Value → Shared → Prop} (H : Host w mg mb s.heap) (hroom : A.depth < recursionLimit)
    (h : ∀ s' t', Like s s' → Kept s.heap s'.heap → Q (.str "" t') s') :
    Wp prog w A (call (.ref 28) [nv, .str x t]) Q s := by
  refine enter (args := ⟨[nv, .str x t], []⟩) (binds := [("name", nv), ("x", .str x t)]) H rfl rfl rfl hroom (.of_eq rfl) (by decide) (locs rfl) ?_
  intro s₁ L l₁ hL N k H0
  refine wCons (wAssign (wCall (ldB H0 rfl boot_type (by decide) (wT1 (wICons (ldL N rfl (wINil (wTypeS (stL N ?_)))))))))
  intro s₂ l₂ S₂ N₂
  have k₂ : Kept s.heap s₂.heap := keptBut k S₂ (by omega)
  refine wCons (wIf (wIsCmp (ldL N₂ rfl (ldB (H.keeps k₂) rfl boot_str (by decide) (wIsP rfl (wTruthB ?_))))))
  exact wCons (wReturn (wStr (h _ _ (l₁.trans l₂) k₂)))
end
section
variable {prog : Program} {w : World} {mg mb : Str → Option Value} {A : Around} {s : Shared} {env : Env}

theorem isTup_at {h h' : Heap} {t : Addr} {its : Array Value} (x : IsTup h t its) (k : ∀ o, h.get? t = some o → h'.get? t = some o) : IsTup h' t its := let ⟨o, ho, r⟩ := x; ⟨o, k _ ho, r⟩
theorem isTup_lt {h : Heap} {t : Addr} {its : Array Value} (x : IsTup h t its) : t < h.objs.size := let ⟨_, ho, _⟩ := x; Heap.lt_size ho
theorem isTup_new (h : Heap) (vs : List Value) : IsTup (h.push { cls := .type "tuple", data := .seq vs.toArray }) h.objs.size vs.toArray := ⟨_, Heap.get?_push_size _ rfl, rfl, 0, rfl⟩

set_option maxHeartbeats 4000000 in
theorem c_path_call {nv cv av : Value} {ta d : Addr} {x : Str} {t : Tok} {Q : Value → Shared → Prop} (H : Host w mg mb s.heap) (hroom : A.depth + 1 < recursionLimit)
    (ht : IsTup s.heap ta [.str x t].toArray) (hd : s.heap.get? d = some { cls := .type "dict", data := .dict #[] }) (hds : (d == sysModules) = false)
    (h : ∀ s', Like s s' → Kept s.heap s'.heap → Q (.str x t) s') :
    Wp prog w A (call (.ref 35) [nv, cv, av, .ref ta, .ref d]) Q s := by
  refine enter (args := ⟨[nv, cv, av, .ref ta, .ref d], []⟩) (binds := [("name", nv), ("cname", cv), ("argname", av), ("args", .ref ta), ("kwargs", .ref d)]) H rfl rfl rfl (by omega) (.of_eq rfl) (by decide) (locs rfl) ?_
  intro s₁ L l₁ hL N k H0
  have ht₁ := isTup_at ht fun o e => k _ _ e
  refine wCons <| wIf <| wIsBool <| wAndCons <| wIsCmp <| wCall <| ldB H0 rfl boot_len (by decide) <| wB1 <| wICons <| ldL N rfl <| wINil <| wLenT ht₁ (by simp) <| wInt <| wEqI <| wTruthB ?_
  refine wAndCons <| wIsNot <| wIsValue <| ldL N rfl <| wTruthD0 hds (k _ _ hd) ?_
  refine wAndNil ?_
  refine wCons <| wAssign <| wSub <| ldL N rfl <| wInt <| itemT ht₁ (by decide) (by decide) (v := .str x t) rfl <| stL N ?_
  intro s₂ l₂ S₂ N₂
  have k₂ : Kept s.heap s₂.heap := keptBut k S₂ (by omega)
  have H₂ := H.keeps k₂
  refine wNil ?_
  refine wCons <| wAssign <| wCall <| ldG H₂ rfl <| wF1 rfl <| wICons <| ldL N₂ rfl <| wICons <| ldL N₂ rfl <| wINil ⟨H₂, kind_call H₂ (by show A.depth + 1 < _; omega) ?_⟩
  intro s₃ t' l₃ k₃
  refine stL (N₂.keeps k₃) ?_
  intro s₄ l₄ S₄ N₄
  have k₄ : Kept s.heap s₄.heap := keptBut (fun b o e => k₃ _ _ (k₂ _ _ e)) S₄ (by omega)
  refine wCons <| wIf <| wIsValue <| ldL N₄ rfl <| wTruthS (by decide) ?_
  refine wNil <| wCons <| wReturn <| ldL N₄ rfl ?_
  exact h _ (l₁.trans (l₂.trans (l₃.trans l₄))) k₄

/-- a text's root and rest, where the root is one slash -/
structure Rooted (p : Str) : Prop where
  one : Txt.slice p none (some 1) = "/"
  two : Txt.slice p (some 1) (some 2) ≠ "/" ∨ Txt.slice p (some 2) (some 3) = "/"

set_option maxHeartbeats 4000000 in
theorem splitroot_call {p : Str} {t : Tok} {Q : Value → Shared → Prop} (H : Host w mg mb s.heap) (hroom : A.depth < recursionLimit) (hp : Rooted p) (hl : p.length ≤ 1000)
    (h : ∀ s' T t1 t2 t3, Like s s' → Kept s.heap s'.heap → IsTup s'.heap T [.str "" t1, .str "/" t2, .str (Txt.slice p (some 1) none) t3].toArray → Q (.ref T) s') :
    Wp prog w A (call (.ref 42) [.str p t]) Q s := by
  refine enter (args := ⟨[.str p t], []⟩) (binds := [("p", .str p t)]) H rfl rfl rfl hroom (.of_eq rfl) (by decide) (locs rfl) ?_
  intro s₁ L l₁ hL N k H0
  refine wCons (wAssign (wStr (stL N ?_)))
  intro s₂ l₂ S₂ N₂
  have k₂ : Kept s.heap s₂.heap := keptBut k S₂ (by omega)
  refine wCons (wAssign (wStr (stL N₂ ?_)))
  intro s₃ l₃ S₃ N₃
  have k₃ : Kept s.heap s₃.heap := keptBut k₂ S₃ (by omega)
  refine wCons <| wIf <| wIsCmp <| wSlice <| ldL N₃ rfl <| wPartN <| wPartS <| wInt ⟨p, t, none, some (1, _), rfl, rfl, rfl, by omega, ?_⟩
  intro s₄ t₄ l₄ k₄
  refine ldL (N₃.keeps k₄) rfl <| wNeS <| wTruthB ?_
  simp only [Option.map_none, Option.map_some, hp.one]
  rw [show ((("/" : Str) != "/") = false) by decide]
  refine wCons <| wIf <| Wp.mono (Q := fun b s' => b = true ∧ Like s s' ∧ Kept s₃.heap s'.heap) ?_ ?_
  · refine wIsBool <| wOrCons <| wIsCmp <| wSlice <| ldL (N₃.keeps k₄) rfl <| wPartS <| wInt <| wPartS <| wInt ⟨p, t, some (1, _), some (2, _), rfl, rfl, rfl, by omega, ?_⟩
    intro s₅ t₅ l₅ k₅
    have N₅ := (N₃.keeps k₄).keeps k₅
    refine ldL N₅ rfl <| wNeS <| wTruthB ?_
    by_cases h2 : Txt.slice p (some 1) (some 2) = "/"
    · simp only [Option.map_some, h2]
      rw [show ((("/" : Str) != "/") = false) by decide]
      refine wOrCons <| wIsCmp <| wSlice <| ldL N₅ rfl <| wPartS <| wInt <| wPartS <| wInt ⟨p, t, some (2, _), some (3, _), rfl, rfl, rfl, by omega, ?_⟩
      intro s₆ t₆ l₆ k₆
      refine ldL (N₅.keeps k₆) rfl <| wEqS <| wTruthB ?_
      have h3 : Txt.slice p (some 2) (some 3) = "/" := hp.two.resolve_left (fun e => e h2)
      simp only [Option.map_some, h3]
      rw [show ((("/" : Str) == "/") = true) by decide]
      exact ⟨by trivial, l₁.trans (l₂.trans (l₃.trans (l₄.trans (l₅.trans l₆)))), fun b o e => k₆ _ _ (k₅ _ _ (k₄ _ _ e))⟩
    · simp only [Option.map_some]
      rw [show (Txt.slice p (some 1) (some 2) != "/") = true from bne_iff_ne.mpr h2]
      exact ⟨by trivial, l₁.trans (l₂.trans (l₃.trans (l₄.trans l₅))), fun b o e => k₅ _ _ (k₄ _ _ e)⟩
  · rintro b s₅ ⟨rfl, l₅, k₅⟩
    have N₅ := N₃.keeps k₅
    refine wCons <| wReturn <| dispT <| wICons <| ldL N₅ rfl <| wICons <| ldL N₅ rfl <| wICons <| wSlice <| ldL N₅ rfl <| wPartS <| wInt <| wPartN ⟨p, t, some (1, _), none, rfl, rfl, rfl, by omega, ?_⟩
    intro s₆ t₆ l₆ k₆
    refine wINil ⟨by simp, ?_⟩
    intro s₇ l₇ e₇
    refine h _ _ _ _ _ (l₅.trans (l₆.trans l₇)) (fun b o e => ?_) (by rw [e₇]; exact isTup_new _ _)
    rw [e₇]
    exact kept_push _ _ _ _ (k₆ _ _ (k₅ _ _ (k₃ _ _ e)))
end

theorem upd_ne {m : Str → Option Value} {x y : Str} {v : Value} {r : Option Value} (h : m y = r) (hne : ¬ y = x) : (fun z => if z = x then some v else m z) y = r := by
  show (if y = x then _ else _) = _
  rw [if_neg hne]; exact h

def nstep (acc : List Str) (c : Str) : List Str :=
  if c.length = 0 ∨ c = "." then acc
  else if c ≠ ".." ∨ acc.getLast? = some ".." then acc ++ [c]
  else acc.dropLast
theorem nstep_length (acc : List Str) (c : Str) : (nstep acc c).length ≤ acc.length + 1 := by
  unfold nstep
  split
  · omega
  · split
    · simp
    · simp; omega
theorem nfold_length (cs : List Str) : ∀ acc, (cs.foldl nstep acc).length ≤ acc.length + cs.length := by
  induction cs with
  | nil => intro acc; simp
  | cons c r ih => intro acc; simp only [List.foldl_cons, List.length_cons]; have := ih (nstep acc c); have := nstep_length acc c; omega

def partsOf (p : Str) : List Str := Txt.split (Txt.slice p (some 1) none) "/"
def normF (p : Str) : Str := "/" ++ Txt.join "/" ((partsOf p).foldl nstep [])
structure NormOk (p : Str) : Prop where
  rooted : Rooted p
  len : p.length ≤ 1000
  ne : p.length ≠ 0
  parts : ∀ c ∈ partsOf p, c.length ≤ 1000
  few : (partsOf p).length ≤ 1000
  small : Small ((partsOf p).foldl nstep [])

theorem strsAre_values' : ∀ (l : List (Str × Tok)), StrsAre (strValues l) (l.map (·.1))
  | [] => .nil
  | (y, t) :: r => .cons y t (strsAre_values' r)
theorem strsAre_dropLast : ∀ {vs : List Value} {xs : List Str}, StrsAre vs xs → StrsAre vs.dropLast xs.dropLast
  | _, _, .nil => .nil
  | _, _, .cons y t .nil => .nil
  | _, _, .cons y t (.cons y' t' r) => .cons y t (strsAre_dropLast (.cons y' t' r))

section
variable {prog : Program} {w : World} {mg mb : Str → Option Value} {A : Around} {s : Shared} {env : Env}

theorem mSplit {x : Str} {t : Tok} {pl : Sem Bool} {Q : Value × List Value → Shared → Prop} (h : Q (.builtin "str.split", [.str x t]) s) : Wp prog w A (getMethod (.str x t) (Str.ofString "split") pl) Q s := ⟨fun _ => GM.split h⟩
theorem cSplit {x y : Str} {t u : Tok} {Q : Value → Shared → Prop} (hy : (y.length == 0) = false) (hx : x.length ≤ 1000)
    (h : ∀ s' D (l : List (Str × Tok)), Like s s' → Kept s.heap s'.heap → l.map (·.1) = Txt.split x y → s'.heap.IsList D (strValues l).toArray → Q (.ref D) s') :
    Wp prog w A (call (.builtin "str.split") [.str x t, .str y u]) Q s :=
  ⟨fun _ => SCG.split1 (Fm := fun s' => Like s s' ∧ Kept s.heap s'.heap) (fun s₁ ob k hs => ⟨hs.1, fun b o e => Heap.get?_push_of_some ob (hs.2 b o e)⟩) ⟨Like.refl s, fun _ _ e => e⟩ hy
    (fun D l s' e f i => h s' D l f.1 f.2 e i) (by rw [sizeLine_eq]; omega)
    (by rw [length_partsBetween, sizeLine_eq]; have := StrLaws.occ_length_le x y 0 x.length (x.length + 1); omega)⟩
theorem mPop {l : Addr} {its : Array Value} {pl : Sem Bool} {Q : Value × List Value → Shared → Prop} (hl : s.heap.PlainList l its) (h : Q (.builtin "list.pop", [.ref l]) s) :
    Wp prog w A (getMethod (.ref l) (Str.ofString "pop") pl) Q s := ⟨fun _ => by
  obtain ⟨n, e⟩ := hl
  exact getMethod_builtin ⟨_, e, rfl⟩ PySem.F.plainAttrs_list PySem.F.slot_list_pop PySem.F.type_list_pop (fun a ha => by cases ha; exact ⟨_, e, rfl⟩) h⟩
theorem cPop {pos : Pos} {l : Addr} {vs : List Value} {y : Value} {Q : Value → Shared → Prop} (hl : s.heap.PlainList l vs.toArray) (hs : vs.length ≤ 100000) (hy : vs.getLast? = some y)
    (h : ∀ s', Like s s' → s'.heap.PlainList l vs.dropLast.toArray → Heap.SameBut l s.heap s'.heap → Q y s') :
    Wp prog w A (callWith pos (.builtin "list.pop") [.ref l] (backTo pos (starEach [] env)) []) Q s := ⟨fun E => by
  obtain ⟨n, e⟩ := hl
  have hne : vs ≠ [] := by intro e; subst e; cases hy
  have hy' : vs.toArray[vs.toArray.size - 1]? = some y := by
    rw [← hy, List.getLast?_eq_getElem?]; simp
  refine P.pop_list (pos := pos) e hy' ?_ (by rw [sizeLine_eq]; simp; omega)
  have eu : (s.heap.update l (Obj.mapSeq fun xs => xs.eraseIdxIfInBounds (vs.toArray.size - 1))).get? l = some (Obj.mapSeq (fun xs => xs.eraseIdxIfInBounds (vs.toArray.size - 1)) { cls := .type "list", dict := none, data := .seq vs.toArray n, slots := #[] }) := Heap.get?_update_self _ e rfl
  refine h { s with heap := _ } ⟨rfl, rfl, rfl⟩ ?_ (Heap.SameBut.update ..)
  have ed : vs.toArray.eraseIdxIfInBounds (vs.toArray.size - 1) = vs.dropLast.toArray := by
    have hlt : vs.length - 1 < vs.length := by have := List.length_pos_iff.mpr hne; omega
    simp [Array.eraseIdxIfInBounds, hlt, List.dropLast_eq_take, List.eraseIdx_eq_take_drop_succ]
    omega
  refine ⟨if (vs.toArray.eraseIdxIfInBounds (vs.toArray.size - 1)).size == vs.toArray.size then n else n + 1, ?_⟩
  rw [eu, ← ed]
  rfl⟩
/-- the last item -/
theorem itemLast {value slice : Expr} {l : Addr} {vs : List Value} {u : Tok} {v : Value} {Q : Value → Shared → Prop} (hl : s.heap.PlainList l vs.toArray) (hs : vs.length ≤ 100000)
    (hx : vs.getLast? = some v) (h : Q v s)
    (hsu : subscripted slice false (.ref l) (.int (-1) u) = operate [.ref l, .int (-1) u] (getItem (.ref l) (.int (-1) u)) := by with_unfolding_all rfl) :
    Wp prog w A (subscriptTail value slice (.ref l) (.int (-1) u)) Q s := ⟨fun _ => by
  have hne : vs ≠ [] := by intro e; subst e; cases hx
  have hp := List.length_pos_iff.mpr hne
  refine tail_any hl.isList.typeIs slot_list_getitem.lookup (wpAny_getItem_list_neg hl.isList (by decide) (by simp; omega) (by decide) ?_ h) hsu
  rw [← hx, List.getLast?_eq_getElem?]
  have e : (-1 + (vs.toArray.size : Int)).toNat = vs.length - 1 := by simp; omega
  rw [e]; simp⟩
theorem wNeg {e : Expr} {pos : Pos} {Q : Value → Shared → Prop} (h : Wp prog w A (eval e env) (fun v s₁ => ∃ a t, v = .int a t ∧ Q (.int (-a) s₁.toks) { s₁ with toks := s₁.toks + 1 }) s) : Wp prog w A (eval (.UnaryOp .USub e pos) env) Q s :=
  ⟨fun E => wpAny_UnaryOp (wpAny_mono (h.out E) (fun _ _ x => by obtain ⟨a, t, rfl, q⟩ := x; exact PyProof.Rows.neg_int q) fun _ _ e => e)⟩
end
section
variable {prog : Program} {w : World} {mg mb : Str → Option Value} {A : Around} {s : Shared} {env : Env}

/-- what stands in _normpath ahead of turn i -/
structure NpJ (s₀ : Shared) (L C : Addr) (cs : List Str) (i : Nat) (s : Shared) : Prop where
  like : Like s₀ s
  keep : Kept s₀.heap s.heap
  ns : ∃ m t1 t2 t3 t4, s.heap.Ns L m ∧ m "new_comps" = some (.ref C) ∧ m "sep" = some (.str "/" t1) ∧ m "dot" = some (.str "." t2) ∧ m "dotdot" = some (.str ".." t3) ∧ m "initial_slashes" = some (.str "/" t4)
  acc : Good s.heap C ((cs.take i).foldl nstep [])

theorem getLast_strs {vs : List Value} {xs : List Str} (h : StrsAre vs xs) {y : Str} (e : xs.getLast? = some y) : ∃ t, vs.getLast? = some (.str y t) := by
  rw [List.getLast?_eq_getElem?] at e ⊢
  rw [strsAre_length h]
  exact strsAre_get h e

set_option maxHeartbeats 8000000 in
theorem normpath1_call {p : Str} {t : Tok} {Q : Value → Shared → Prop} (H : Host w mg mb s.heap) (hroom : A.depth + 1 < recursionLimit) (hh : A.handled = none) (ok : NormOk p)
    (h : ∀ s' t', Like s s' → Kept s.heap s'.heap → Q (.str (normF p) t') s') :
    Wp prog w A (call (.ref 49) [.str p t]) Q s := by
  refine enter (args := ⟨[.str p t], []⟩) (binds := [("path", .str p t)]) H rfl rfl rfl (by omega) (.of_eq rfl) (by decide) (locs rfl) ?_
  intro s₁ L l₁ hL N k H0
  refine wCons <| wAssign <| wStr <| stL N ?_
  intro s₂ l₂ S₂ N₂
  have k₂ : Kept s.heap s₂.heap := keptBut k S₂ (by omega)
  refine wCons <| wAssign <| wStr <| stL N₂ ?_
  intro s₃ l₃ S₃ N₃
  have k₃ : Kept s.heap s₃.heap := keptBut k₂ S₃ (by omega)
  refine wCons <| wAssign <| wStr <| stL N₃ ?_
  intro s₄ l₄ S₄ N₄
  have k₄ : Kept s.heap s₄.heap := keptBut k₃ S₄ (by omega)
  have hlen := ok.len
  refine wCons <| wIf <| wIsNot <| wIsValue <| ldL N₄ rfl <| wTruthS (by omega) ?_
  rw [show ((p.length : Int) != 0) = true from bne_iff_ne.mpr (by have := ok.ne; omega)]
  refine wNil ?_
  refine wCons <| wAssignT <| wCall <| ldG (H.keeps k₄) rfl <| wF1 rfl <| wICons <| ldL N₄ rfl <| wINil ⟨H.keeps k₄, splitroot_call (H.keeps k₄) (by show A.depth + 1 < _; omega) ok.rooted hlen ?_⟩
  intro s₅ T t1 t2 t3 l₅ k₅ hT
  refine wUnpack hh hT ?_
  intro s₆ l₆ k₆
  have k₆' : Kept s.heap s₆.heap := fun b o e => k₆ _ _ (k₅ _ _ (k₄ _ _ e))
  refine wAioCons <| wAssignN <| stL ((N₄.keeps k₅).keeps k₆) ?_
  intro s₇ l₇ S₇ N₇
  have k₇ : Kept s.heap s₇.heap := keptBut k₆' S₇ (by omega)
  refine wAioCons <| wAssignN <| stL N₇ ?_
  intro s₈ l₈ S₈ N₈
  have k₈ : Kept s.heap s₈.heap := keptBut k₇ S₈ (by omega)
  refine wAioCons <| wAssignN <| stL N₈ ?_
  intro s₉ l₉ S₉ N₉
  have k₉ : Kept s.heap s₉.heap := keptBut k₈ S₉ (by omega)
  refine wAioNil ?_
  have hsl : (Txt.slice p (some 1) none).length ≤ 1000 := Nat.le_trans (Txt.slice_le p _ _) hlen
  refine wCons <| wAssign <| wMeth <| ldL N₉ rfl <| mSplit <| wB1 <| wICons <| ldL N₉ rfl <| wINil <| cSplit (by decide) hsl ?_
  intro a₁ D l m₁ q₁ el hD
  refine stL (N₉.keeps q₁) ?_
  intro a₂ m₂ S2 M2
  have r₂ : Kept s.heap a₂.heap := keptBut (fun b o e => q₁ _ _ (k₉ _ _ e)) S2 (by omega)
  have hDL : D ≠ L := by
    rintro rfl
    obtain ⟨o, ho, hc, n, hd⟩ := hD
    obtain ⟨o', es, ep, ho', hd', _⟩ := N₉.keeps q₁
    rw [ho] at ho'; cases ho'
    rw [hd] at hd'; cases hd'
  have hD₂ : a₂.heap.IsList D (strValues l).toArray := hD.extBut S2.extBut hDL
  refine wCons <| wAssign <| dispL <| wINil ⟨by decide, ?_⟩
  intro a₃ m₃ e₃
  have q₃ : Kept a₂.heap a₃.heap := by rw [e₃]; exact kept_push _ _
  refine stL (M2.keeps q₃) ?_
  intro a₄ m₄ S4 M4
  have r₄ : Kept s.heap a₄.heap := keptBut (fun b o e => q₃ _ _ (r₂ _ _ e)) S4 (by omega)
  have hLlt : L < a₂.heap.objs.size := M2.lt
  have hDlt : @LT.lt Nat _ D a₂.heap.objs.size := by obtain ⟨o, ho, _⟩ := hD₂; exact Heap.lt_size ho
  have hC : Good a₄.heap a₂.heap.objs.size [] := ⟨[], Heap.PlainList.extBut (h := a₃.heap) (by rw [e₃]; exact plist_new _ _) S4.extBut (neN (by omega)), .nil⟩
  have hD₄ : a₄.heap.IsList D (strValues l).toArray := (hD₂.at fun o e => q₃ _ _ e).extBut S4.extBut hDL
  refine wCons <| wFor <| ldL M4 rfl <| iterL hD₄ ?_
  intro a₅ I m₅ eI q₅ z₅ hit
  have sz4 : a₄.heap.objs.size = a₂.heap.objs.size + 1 := by rw [S4.1, e₃, Heap.size_push]
  have lall : Like s a₅ := l₁.trans (l₂.trans (l₃.trans (l₄.trans (l₅.trans (l₆.trans (l₇.trans (l₈.trans (l₉.trans (m₁.trans (m₂.trans (m₃.trans (m₄.trans m₅))))))))))))
  have hcs : StrsAre (strValues l) (partsOf p) := by have := strsAre_values' l; rw [el] at this; exact this
  have hn : (strValues l).toArray.size = (partsOf p).length := by simp [strsAre_length hcs]
  refine for_walk (Walks.list (A := A.deeper _) hh I D (neN (by omega)) (strValues l).toArray) (NpJ s L a₂.heap.objs.size (partsOf p)) ?_ ⟨hit, hD₄.at fun o e => q₅ _ _ e⟩ ⟨lall, fun b o e => q₅ _ _ (r₄ _ _ e), ⟨_, _, _, _, _, M4.keeps q₅, rfl, rfl, rfl, rfl, rfl⟩, by simpa using hC.at fun o e => q₅ _ _ e⟩ ?_ ?_
  · intro i a b ⟨j1, j2, ⟨m, u1, u2, u3, u4, j3, jr⟩, j4⟩ lb kb
    have kb' : ∀ c o, c ≠ I → a.heap.get? c = some o → b.heap.get? c = some o := fun c o hc e => kb c o (by simpa using hc) e
    refine ⟨j1.trans lb, fun c o e => kb' c o ?_ (j2 c o e), ⟨m, u1, u2, u3, u4, j3.at' fun o e => kb' L o (neN (by omega)) e, jr⟩, j4.at fun o e => kb' _ o (neN (by omega)) e⟩
    exact neN (by have := ltN (Heap.lt_size e); omega)
  · rintro i v a hi hv ⟨hst1, hst2⟩ ⟨j1, j2, ⟨m, u1, u2, u3, u4, j3, n1, n2, n3, n4, n5⟩, j4⟩
    obtain ⟨c, tc, rfl, hc⟩ := strsAre_get' hcs (by simpa using hv)
    have hcl : c.length ≤ 1000 := ok.parts c (List.mem_of_getElem? hc)
    have hfew := ok.few
    have htake : (partsOf p).take (i + 1) = (partsOf p).take i ++ [c] := by rw [List.take_add_one, hc]; rfl
    have hfold : ((partsOf p).take (i + 1)).foldl nstep [] = nstep (((partsOf p).take i).foldl nstep []) c := by rw [htake, List.foldl_append]; rfl
    refine wAssignN <| stL j3 ?_
    intro b lb Sb Nb
    have jb : Like s b := j1.trans lb
    have kb : Kept s.heap b.heap := keptBut j2 Sb (by omega)
    have gb := j4.at (fun o e => Sb.extBut _ o (neN (by omega)) e)
    have stb : b.heap.IsListIter I D (i + 1) ∧ b.heap.IsList D (strValues l).toArray := ⟨hst1.extBut Sb.extBut (neN (by omega)), hst2.extBut Sb.extBut hDL⟩
    have n1' := upd_ne (x := "comp") (v := .str c tc) n1 (by decide)
    have n2' := upd_ne (x := "comp") (v := .str c tc) n2 (by decide)
    have n3' := upd_ne (x := "comp") (v := .str c tc) n3 (by decide)
    have n4' := upd_ne (x := "comp") (v := .str c tc) n4 (by decide)
    have n5' := upd_ne (x := "comp") (v := .str c tc) n5 (by decide)
    have hacc : (((partsOf p).take i).foldl nstep []).length ≤ 1000 := by have := nfold_length ((partsOf p).take i) []; simp at this; omega
    generalize hA : ((partsOf p).take i).foldl nstep [] = acc at gb hfold hacc
    -- how a turn ends that leaves the list as nstep says
    have fin : ∀ e : Shared, Like b e → Heap.SameBut a₂.heap.objs.size b.heap e.heap → Good e.heap a₂.heap.objs.size (nstep acc c) →
        (e.heap.IsListIter I D (i + 1) ∧ e.heap.IsList D (strValues l).toArray) ∧ NpJ s L a₂.heap.objs.size (partsOf p) (i + 1) e := by
      intro e le Se ge
      refine ⟨⟨stb.1.extBut Se.extBut (neN (by omega)), stb.2.extBut Se.extBut (neN (by omega))⟩, jb.trans le, fun x o q => ?_, ⟨_, _, _, _, _, Nb.sameBut Se (neN (by omega)), n1', n2', n3', n4', n5'⟩, by rw [hfold]; exact ge⟩
      exact Se.extBut x o (neN (by have := ltN (Heap.lt_size q); omega)) (kb _ _ q)
    obtain ⟨vs, pv, sv⟩ := gb
    have hvl := strsAre_length sv
    refine wCons <| wIf <| Wp.mono (Q := fun bb e => bb = decide (c.length = 0 ∨ c = ".") ∧ Like b e ∧ e.heap = b.heap) ?_ ?_
    · refine wIsBool <| wOrCons <| wIsNot <| wIsValue <| ldL Nb rfl <| wTruthS (by omega) ?_
      by_cases h0 : c.length = 0
      · rw [show ((c.length : Int) != 0) = false by simp [h0]]
        exact ⟨by simp [h0], ⟨rfl, rfl, rfl⟩, rfl⟩
      · rw [show ((c.length : Int) != 0) = true from bne_iff_ne.mpr (by omega)]
        refine wOrCons <| wIsCmp <| ldL Nb rfl <| ldL Nb n3' <| wEqS <| wTruthB ?_
        by_cases h1 : c = "."
        · rw [show (c == ".") = true from beq_iff_eq.mpr h1]
          exact ⟨by simp [h1], ⟨rfl, rfl, rfl⟩, rfl⟩
        · rw [show (c == ".") = false from beq_eq_false_iff_ne.mpr h1]
          exact wOrNil ⟨by simp [h0, h1], ⟨rfl, rfl, rfl⟩, rfl⟩
    rintro bb e ⟨rfl, le, ee⟩
    by_cases h1 : c.length = 0 ∨ c = "."
    · rw [decide_eq_true h1]
      refine wCons <| wContinue ?_
      refine fin e le (by rw [ee]; exact .refl ..) ?_
      unfold nstep
      rw [if_pos h1, ee]
      exact ⟨vs, pv, sv⟩
    rw [decide_eq_false h1]
    refine wNil ?_
    have Ne := Nb
    rw [← ee] at Ne
    have pe : e.heap.PlainList a₂.heap.objs.size vs.toArray := by rw [ee]; exact pv
    refine wCons <| wIf <| Wp.mono (Q := fun bb e' => bb = decide (c ≠ ".." ∨ acc.getLast? = some "..") ∧ Like e e' ∧ e'.heap = e.heap) ?_ ?_
    · refine wIsBool <| wOrCons <| wIsCmp <| ldL Ne rfl <| ldL Ne n4' <| wNeS <| wTruthB ?_
      by_cases h2 : c = ".."
      · rw [show (c != "..") = false by simp [h2]]
        refine wOrCons <| wIsBool <| wAndCons <| wIsNot <| wIsValue <| ldL Ne n5' <| wTruthS (by decide) ?_
        refine wOrCons <| wIsBool <| wAndCons <| wIsValue <| ldL Ne n1' <| wTruthL pe (by omega) ?_
        cases hvs : vs.getLast? with
        | none =>
          have hvs' : vs = [] := List.getLast?_eq_none_iff.mp hvs
          have hacc' : acc = [] := by rw [hvs'] at hvl; exact List.length_eq_zero_iff.mp hvl.symm
          rw [hvs']
          exact wOrNil ⟨by simp [h2, hacc'], ⟨rfl, rfl, rfl⟩, rfl⟩
        | some v =>
          have hne : vs ≠ [] := by intro q; rw [q] at hvs; cases hvs
          rw [show (!vs.isEmpty) = true by simp [hne]]
          have hlt : vs.length - 1 < vs.length := by have := List.length_pos_iff.mpr hne; omega
          obtain ⟨y, ty, rfl, hy⟩ := strsAre_get' sv (by rw [List.getLast?_eq_getElem?] at hvs; exact hvs)
          have hyl : acc.getLast? = some y := by rw [List.getLast?_eq_getElem?, ← hvl]; exact hy
          refine wAndCons <| wIsCmp <| wSub <| ldL Ne n1' <| wNeg <| wInt ⟨1, _, rfl, itemLast pe (by omega) hvs <| ldL Ne n4' <| wEqS <| wTruthB ?_⟩
          by_cases h3 : y = ".."
          · rw [show (y == "..") = true from beq_iff_eq.mpr h3]
            exact wAndNil ⟨by simp [hyl, h3], ⟨rfl, rfl, rfl⟩, rfl⟩
          · rw [show (y == "..") = false from beq_eq_false_iff_ne.mpr h3]
            exact wOrNil ⟨by simp [h2, hyl, h3], ⟨rfl, rfl, rfl⟩, rfl⟩
      · rw [show (c != "..") = true from bne_iff_ne.mpr h2]
        exact ⟨by simp [h2], ⟨rfl, rfl, rfl⟩, rfl⟩
    rintro bb f ⟨rfl, lf, ef⟩
    have Nf := Ne
    rw [← ef] at Nf
    have pf : f.heap.PlainList a₂.heap.objs.size vs.toArray := by rw [ef]; exact pe
    have Sf : Heap.SameBut a₂.heap.objs.size b.heap f.heap := by rw [ef, ee]; exact .refl ..
    by_cases h2 : c ≠ ".." ∨ acc.getLast? = some ".."
    · rw [decide_eq_true h2]
      refine wCons <| wExpr <| wMeth <| ldL Nf n1' <| mAppend pf <| wB1 <| wICons <| ldL Nf rfl <| wINil <| cAppend pf ?_ (by omega)
      intro g lg pg Sg
      refine wNil <| wNil <| fin g (le.trans (lf.trans lg)) (Sf.trans Sg) ?_
      unfold nstep
      rw [if_neg h1, if_pos h2]
      exact ⟨_, pg, sv.append' (strsAre_one c tc)⟩
    · rw [decide_eq_false h2]
      refine wCons <| wIf <| wIsValue <| ldL Nf n1' <| wTruthL pf (by omega) ?_
      have hn2 : nstep acc c = acc.dropLast := by unfold nstep; rw [if_neg h1, if_neg h2]
      cases hvs : vs.getLast? with
      | none =>
        have hvs' : vs = [] := List.getLast?_eq_none_iff.mp hvs
        have hacc' : acc = [] := by rw [hvs'] at hvl; exact List.length_eq_zero_iff.mp hvl.symm
        rw [show (!vs.isEmpty) = false by simp [hvs']]
        refine wNil <| wNil <| wNil <| fin _ (le.trans lf) Sf ?_
        rw [hn2, hacc']
        exact ⟨vs, pf, by rw [hvs']; exact .nil⟩
      | some v =>
        have hne : vs ≠ [] := by intro q; rw [q] at hvs; cases hvs
        rw [show (!vs.isEmpty) = true by simp [hne]]
        obtain ⟨y, ty, rfl, hy⟩ := strsAre_get' sv (by rw [List.getLast?_eq_getElem?] at hvs; exact hvs)
        refine wCons <| wExpr <| wMeth <| ldL Nf n1' <| mPop pf <| cPop pf (by omega) hvs ?_
        intro g lg pg Sg
        refine wNil <| wNil <| wNil <| fin g (le.trans (lf.trans lg)) (Sf.trans Sg) ?_
        rw [hn2]
        exact ⟨_, pg, strsAre_dropLast sv⟩
  · rintro a ⟨j1, j2, ⟨m, u1, u2, u3, u4, j3, n1, n2, n3, n4, n5⟩, j4⟩
    rw [hn, List.take_length] at j4
    refine wCons <| wAssign <| ldL j3 n1 <| stL j3 ?_
    intro b lb Sb Nb
    have kb : Kept s.heap b.heap := keptBut j2 Sb (by omega)
    have gb := j4.at (fun o e => Sb.extBut _ o (neN (by omega)) e)
    have n2' := upd_ne (x := "comps") (v := .ref a₂.heap.objs.size) n2 (by decide)
    have n5' := upd_ne (x := "comps") (v := .ref a₂.heap.objs.size) n5 (by decide)
    have hj := ok.small.join (sep := "/") (by decide)
    have e1 : ("/" : Str).length = 1 := by decide
    refine wCons <| wAssign <| wBinOp <| ldL Nb n5' <| wMeth <| ldL Nb n2' <| mJoin <| wB1 <| wICons <| ldL Nb rfl <| wINil <| cJoin gb ok.small (by decide) ?_
    intro t' k'
    refine wCat (by rw [e1]; omega) ?_
    intro t'' k''
    refine stL Nb ?_
    intro c lc Sc Nc
    refine wCons <| wReturn <| wOr2 <| ldL Nc rfl <| wTruthS (by rw [len_app, e1]; omega) ?_
    rw [show ((("/" ++ Txt.join "/" ((partsOf p).foldl nstep []) : Str).length : Int) != 0) = true from bne_iff_ne.mpr (by rw [len_app, e1]; omega)]
    exact h _ _ (j1.trans (lb.trans lc)) (keptBut kb Sc (by omega))
end
section
variable {prog : Program} {w : World} {mg mb : Str → Option Value} {A : Around} {s : Shared} {env : Env}

/-- a def of the top is called, its binding a tree of its own -/
theorem enterB {a : Addr} {oc : Value} {od : Option Addr} {osl : Array (Option Value)} {fd : FuncData} {body : List Stmt} {args : Args} {Q : Value → Shared → Prop}
    (H : Host w mg mb s.heap) (ho : (Mine.hd.heap_39 w.params).lookup a = some ⟨oc, od, .func fd, osl⟩) (hcd : codeIn (Mine.hd.heap_39 w.params) fd.code fd.qualname = true)
    (hbody : fd.body = .stmts body) (hroom : A.depth < recursionLimit) (hcell : ∀ x ∈ fd.scope.names, x.2 ≠ .cell)
    (h : Wp prog w A.in1 (bindArgs fd args) (fun binds s₁ => Kept s.heap s₁.heap ∧ (∀ x ∈ binds, fd.scope.names.lookup x.1 = some .local) ∧
      ∀ s₂ L, Like s₁ s₂ → L = s₁.heap.objs.size → s₂.heap.Ns L (fun x => binds.reverse.lookup x) → Kept s₁.heap s₂.heap → Host w mg mb s₂.heap →
      Wp prog w (A.deeper (callEnv fd L a)) (execs body (callEnv fd L a)) (fun f s' => Q (match f with | .ret v => v | _ => .none) s') s₂) s)
    (hco : fd.scope.isCoroutine = false := by rfl) (hgen : fd.scope.isGenerator = false := by rfl) (hk : fd.scope.kind = .function := by rfl) :
    Wp prog w A (call (.ref a) args.pos args.kw) Q s := ⟨fun E => wpAny_call (by
  refine codeAny_call_function hroom (H.K _ _ ho) rfl hco hgen hbody (codeRec_of H.K hcd) (wpAny_mono (h.out _) (fun binds s₁ hb => ?_) fun _ _ e => e)
  obtain ⟨k, hloc, hb⟩ := hb
  have H₁ := H.keeps k
  refine wpAny_newFunctionEnv hcell hloc (fun h₀ hns hsb => ⟨H₁.nolimit.fresh _ hsb, codeAny_func ?_⟩) hk
  have k₀ : Kept s₁.heap h₀ := fun b o e => hsb.extBut b o (Nat.ne_of_lt (Heap.lt_size e)) (Heap.get?_push_of_some _ e)
  exact wpAny_mono ((hb { s₁ with heap := h₀, toks := _ } _ ⟨rfl, rfl, rfl⟩ rfl hns k₀ (H₁.keeps k₀)).out (fun _ _ => False)) (fun _ _ x => x) fun _ _ x => x.elim)⟩

theorem Host.low {h : Heap} (H : Host w mg mb h) : 121 < h.objs.size := by
  have : ∃ o, (Mine.hd.heap_39 w.params).lookup 121 = some o := ⟨_, rfl⟩
  obtain ⟨o, e⟩ := this
  exact Heap.lt_size (H.K _ _ e)

set_option maxHeartbeats 4000000 in
theorem normpath_call {p : Str} {t : Tok} {Q : Value → Shared → Prop} (H : Host w mg mb s.heap) (hroom : A.depth + 3 < recursionLimit) (hh : A.handled = none) (ok : NormOk p)
    (h : ∀ s' t', Like s s' → Kept s.heap s'.heap → Q (.str (normF p) t') s') :
    Wp prog w A (call (.ref 56) [.str p t]) Q s := by
  refine enterB (args := ⟨[.str p t], []⟩) H rfl rfl rfl (by omega) (by decide) ?_
  refine ⟨fun E => ?_⟩
  show wpAny _ _ (newTuple [.str p t] >>= fun tv => alloc { cls := .type "dict", data := .dict #[] } >>= fun d => pure [(Str.ofString "args", tv), (Str.ofString "kwargs", .ref d)]) _ _ _
  refine wpAny_bind (wpAny_newObj_type (wpAny_bind (wpAny_alloc (wpAny_pure ?_))))
  have k1 : Kept s.heap ((s.heap.push { cls := .type "tuple", data := .seq [.str p t].toArray }).push { cls := .type "dict", data := .dict #[] }) := fun b o e => Heap.get?_push_of_some _ (Heap.get?_push_of_some _ e)
  refine ⟨k1, locs rfl, ?_⟩
  intro s₂ L l₂ hL N k₂ H₂
  have hlow := H.low
  have ht : IsTup s₂.heap s.heap.objs.size [.str p t].toArray := isTup_at (h := (s.heap.push { cls := .type "tuple", data := .seq [.str p t].toArray }).push { cls := .type "dict", data := .dict #[] }) (isTup_at (isTup_new _ _) fun o e => Heap.get?_push_of_some _ e) fun o e => k₂ _ _ e
  have hd : s₂.heap.get? (s.heap.push { cls := .type "tuple", data := .seq [.str p t].toArray }).objs.size = some { cls := .type "dict", data := .dict #[] } := k₂ _ _ (Heap.get?_push_size _ rfl)
  have hds : ((s.heap.push { cls := .type "tuple", data := .seq [.str p t].toArray }).objs.size == sysModules) = false := by
    rw [Heap.size_push]; exact beq_eq_false_iff_ne.mpr (by unfold sysModules; omega)
  refine wCons <| wReturn <| wCall <| ldG H₂ rfl <| wF1 (mg := mg) (mb := mb) rfl <| wICons <| wCall <| ldG H₂ rfl <| wF1 rfl <| wICons <| wStr <| wICons <| wStr <| wICons <| wStr <| wICons <| ldL N rfl <| wICons <| ldL N rfl <| wINil ⟨H₂, c_path_call H₂ (by show A.depth + 1 + 1 < _; omega) ht hd hds ?_⟩
  intro s₃ l₃ k₃
  have H₃ := H₂.keeps k₃
  refine wINil ⟨H₃, normpath1_call H₃ (by show A.depth + 1 + 1 < _; omega) hh ok ?_⟩
  intro s₄ t' l₄ k₄
  exact h _ _ (l₂.trans (l₃.trans l₄)) fun b o e => k₄ _ _ (k₃ _ _ (k₂ _ _ (k1 _ _ e)))
end

def highsL : List Int := (List.range 32).map fun (k : Nat) => ((Builtin.Int.intBits (k : Int) : Int) - 1)
def hb (k : Int) : Int := highsL.getD k.toNat 0
def under (n m : Int) : Bool := decide (hb m ≤ hb n) && (n.fdiv (2 ^ (hb n - hb m).toNat) == m)
theorem highs_get {k : Int} (h0 : 0 ≤ k) (h1 : k ≤ 31) : highsL[k.toNat]? = some (hb k) := by
  unfold hb
  have hl : k.toNat < highsL.length := by have : highsL.length = 32 := by decide +kernel
                                          omega
  rw [List.getD_eq_getElem?_getD, List.getElem?_eq_getElem hl]; rfl

section
variable {prog : Program} {w : World} {mg mb : Str → Option Value} {A : Around} {s : Shared} {env : Env}

/-- a local name of any block -/
theorem ldE {x : Str} {pos : Pos} {m} {v : Value} {Q : Value → Shared → Prop} (hn : s.heap.Ns env.locals m) (hv : m x = some v) (h : Q v s)
    (hk : env.scope.kind = .function := by rfl) (hl : env.kindOf x = some .local := by rfl) (hd : (x == ("__debug__" : Str)) = false := by decide) :
    Wp prog w A (eval (.Name x pos) env) Q s := ⟨fun _ => wpAny_Name (wpAny_loadName_local hk hl hn hv h) hd⟩
/-- a captured name -/
theorem ldC {x : Str} {pos : Pos} {c : Addr} {v : Value} {Q : Value → Shared → Prop} (hv : s.heap.IsCell c (some v)) (h : Q v s)
    (hc : env.cells.lookup x = some c := by rfl) (hk : env.scope.kind = .function := by rfl) (hl : env.kindOf x = some .cell := by rfl) (hd : (x == ("__debug__" : Str)) = false := by decide) :
    Wp prog w A (eval (.Name x pos) env) Q s := ⟨fun _ => wpAny_Name (wpAny_loadName_cell hk hl hc hv h) hd⟩
theorem stC {x : Str} {c : Addr} {v₀ : Option Value} {v : Value} {Q : Unit → Shared → Prop} (hv : s.heap.IsCell c v₀)
    (h : ∀ s', Like s s' → Heap.SameBut c s.heap s'.heap → s'.heap.IsCell c (some v) → Q () s')
    (hc : env.cells.lookup x = some c := by rfl) (hk : env.scope.kind = .function := by rfl) (hl : env.kindOf x = some .cell := by rfl) :
    Wp prog w A (storeName env x v) Q s := ⟨fun _ => wpAny_storeName_cell hk hl hc hv fun h' a b => h { s with heap := h' } ⟨rfl, rfl, rfl⟩ b a⟩
theorem stE {x : Str} {m} {v : Value} {Q : Unit → Shared → Prop} (hn : s.heap.Ns env.locals m)
    (h : ∀ s', Like s s' → Heap.SameBut env.locals s.heap s'.heap → s'.heap.Ns env.locals (fun y => if y = x then some v else m y) → Q () s')
    (hk : env.scope.kind = .function := by rfl) (hl : env.kindOf x = some .local := by rfl) :
    Wp prog w A (storeName env x v) Q s :=
  ⟨fun _ => wpAny_storeName_local hl hn (fun h' hn' hs => h { s with heap := h', toks := _ } ⟨rfl, rfl, rfl⟩ hs hn') (by rw [hk]; rfl)⟩

/-- a def of the top that has captured names is called -/
theorem enterC {a : Addr} {oc : Value} {od : Option Addr} {osl : Array (Option Value)} {fd : FuncData} {body : List Stmt} {vals : List Value} {binds : List (Str × Value)} {Q : Value → Shared → Prop}
    (H : Host w mg mb s.heap) (ho : (Mine.hd.heap_39 w.params).lookup a = some ⟨oc, od, .func fd, osl⟩) (hcd : codeIn (Mine.hd.heap_39 w.params) fd.code fd.qualname = true)
    (hbody : fd.body = .stmts body) (hroom : A.depth < recursionLimit) (hbind : bindArgs fd ⟨vals, []⟩ = pure binds) (hclo : fd.closure = [])
    (hkind : (binds.all fun y => fd.scope.names.lookup y.1 == some .local || fd.scope.names.lookup y.1 == some .cell) = true)
    (h : ∀ s₁ L, Like s s₁ → L = s.heap.objs.size → s₁.heap.Ns L (bindL (callEnvC fd L a).kindOf binds fun _ => none) → Kept s.heap s₁.heap → Host w mg mb s₁.heap →
      (∀ n c, (callEnvC fd L a).cells.lookup n = some c → s₁.heap.IsCell c (bindC (callEnvC fd L a).kindOf binds (fun _ => none) n) ∧ L < c) →
      Wp prog w (A.deeper (callEnvC fd L a)) (execs body (callEnvC fd L a)) (fun f s' => Q (match f with | .ret v => v | _ => .none) s') s₁)
    (hco : fd.scope.isCoroutine = false := by rfl) (hgen : fd.scope.isGenerator = false := by rfl) (hk : fd.scope.kind = .function := by rfl) :
    Wp prog w A (call (.ref a) vals) Q s := ⟨fun E => wpAny_call (codeAny_call_cells hroom (H.K _ _ ho) rfl H.nolimit (codeRec_of H.K hcd) hbody hbind hclo (kindsX hkind _)
  (fun s₁ x => by
    have hkp : Kept s.heap s₁.heap := x.toInCall.keep
    have hl : Like s s₁ := by obtain ⟨h, tk, rfl⟩ := x.toInCall.same; exact ⟨rfl, rfl, rfl⟩
    refine wpAny_mono ((h s₁ _ hl rfl x.toInCall.ns hkp (H.keeps hkp) fun n c e => ⟨x.cell n c e, x.above n c (mem_of_lookup e)⟩).out (fun _ _ => False)) (fun _ _ x => x) fun _ _ x => x.elim) hco hgen hk)⟩

/-- what a quiet comprehension's element and test must do -/
theorem quiet_of {scope : Scope} {cl : List (Str × Addr)} {x : Str} {ifs : List Expr} {elt : Expr} {wr : List Addr} {P : Nat → Value → Prop} {p : Value → Bool} {F : Value → Value → Prop} {s₂ : Shared}
    (ht : (ifs = [] ∧ ∀ v, p v = true) ∨ ∃ c, ifs = [c] ∧ ∀ C i v s₃ m₃, s₂.heap.objs.size ≤ C → P i v → s₃.heap.Ns C m₃ → m₃ x = some v → (∀ b o, b ∉ wr → s₂.heap.get? b = some o → s₃.heap.get? b = some o) →
      Wp prog w A (isTrue c (compEnvC scope cl C env) (eval c (compEnvC scope cl C env))) (fun ok s₄ => ok = p v ∧ Like s₃ s₄ ∧ Kept s₃.heap s₄.heap) s₃)
    (he : ∀ C i v s₃ m₃, s₂.heap.objs.size ≤ C → P i v → p v = true → s₃.heap.Ns C m₃ → m₃ x = some v → (∀ b o, b ∉ wr → s₂.heap.get? b = some o → s₃.heap.get? b = some o) →
      Wp prog w A (eval elt (compEnvC scope cl C env)) (fun y s₄ => F v y ∧ Like s₃ s₄ ∧ Kept s₃.heap s₄.heap) s₃) : QuietOnC prog w A env scope cl x ifs elt wr P p F s₂ where
  tests := fun C i v s₃ m₃ E' h1 h2 h3 h4 h5 _ => by
    rcases ht with ⟨rfl, hp⟩ | ⟨c, rfl, ht⟩
    · exact wpAny_tests_nil ⟨(hp v).symm, keeps_of (Like.refl _) fun _ _ e => e⟩
    · exact wpAny_tests_one (wpAny_mono ((ht C i v s₃ m₃ h1 h2 h3 h4 h5).out E') (fun _ _ q => ⟨q.1, keeps_of q.2.1 q.2.2⟩) fun _ _ e => e)
  elt := fun C i v s₃ m₃ E' h1 h2 h2' h3 h4 h5 _ => wpAny_mono ((he C i v s₃ m₃ h1 h2 h2' h3 h4 h5).out E') (fun _ _ q => ⟨q.1, keeps_of q.2.1 q.2.2⟩) fun _ _ e => e

/-- a quiet list comprehension -/
theorem wComp {elt iter : Expr} {x : Str} {px : Pos} {ifs : List Expr} {scope : Scope} {cl : List (Str × Addr)} {pos : Pos} {Q : Value → Shared → Prop} (p : Value → Bool) (F : Value → Value → Prop)
    (hclos : closureFor scope env = pure cl)
    (h : Wp prog w A (eval iter env) (fun xv s₁ => Wp prog w A (pyIter xv) (fun it s₂ => ∃ I fp wr n P St, it = .ref I ∧ Walks prog w A I fp wr n P St ∧ n ≤ 100000 ∧ St 0 s₂.heap ∧ (∀ b ∈ fp, b < s₂.heap.objs.size) ∧
      QuietOnC prog w A env scope cl x ifs elt wr P p F s₂ ∧
      (∀ D s' ys (vs : List Value), s₂.heap.get? D = none → s'.heap.PlainList D ys → vs.length = n → (∀ j v, vs[j]? = some v → P j v) → Paired F (vs.filter p) ys.toList →
        Like s₂ s' → (∀ b o, b ∉ wr → s₂.heap.get? b = some o → s'.heap.get? b = some o) → Q (.ref D) s')) s₁) s)
    (hcell : ∀ y ∈ scope.names, y.2 ≠ .cell := by decide) (hkind : scope.kind = .function := by rfl)
    (hnames : ∀ y ∈ scope.names, y.2 = .local → scope.names.lookup y.1 = some .local := by decide) (hx : scope.names.lookup x = some .local := by rfl)
    (hs : ∀ x, foldedSetIterable iter env x = pure x := by intro _; rfl) :
    Wp prog w A (eval (.ListComp elt [⟨.Name x px, iter, ifs, 0⟩] scope pos) env) Q s :=
  ⟨fun E => wpAny_ListComp_free p F hclos hcell hkind hnames hx (wpAny_mono (h.out E) (fun xv s₁ h₁ => wpAny_mono (h₁.out E) (fun it s₂ h₂ => by
    obtain ⟨I, fp, wr, n, P, St, e, W, hsz, hst, hfp, hq, hc⟩ := h₂
    exact ⟨I, fp, wr, n, P, St, e, W, by rw [sizeLine_eq]; omega, hst, hfp, hq, fun D h' tk ys vs q1 _ q3 q4 q5 q6 q7 => hc D { s₂ with heap := h', toks := tk } ys vs q1 q3 q4 q5 q6 ⟨rfl, rfl, rfl⟩ q7⟩) fun _ _ e => e) fun _ _ e => e) hs⟩

theorem wNeIL {a b : Addr} {ns ms : List Int} {Q : Value → Shared → Prop} (ha : GoodI s.heap a ns) (hb : GoodI s.heap b ms) (hu : A.units + 64 < cLine) (h : Q (.bool (!decide (ns = ms))) s) : Wp prog w A (compareOp .NotEq (.ref a) (.ref b)) Q s :=
  ⟨fun _ => let ⟨_, x, i⟩ := ha; let ⟨_, y, j⟩ := hb; ne_intsK x.isList i y.isList j hu h⟩

theorem paired_eq {vs ys : List Value} (h : Paired (fun v y => y = v) vs ys) : ys = vs := by
  induction h with
  | nil => rfl
  | cons e _ ih => rw [e, ih]
theorem filter_ints {q : Int → Bool} {p : Value → Bool} (hp : ∀ i t, p (.int i t) = q i) : ∀ {vs : List Value} {ns : List Int}, IntsAre vs ns → IntsAre (vs.filter p) (ns.filter q)
  | _, _, .nil => .nil
  | _, _, .cons n t r => by
    rw [List.filter_cons, List.filter_cons, hp]
    cases q n
    · exact filter_ints hp r
    · exact .cons n t (filter_ints hp r)
theorem any_filter {q : Int → Bool} (ns : List Int) : (!decide (ns.filter q = [])) = ns.any q := by
  induction ns with
  | nil => rfl
  | cons n r ih =>
    rw [List.filter_cons, List.any_cons]
    cases q n
    · simpa using ih
    · simp

def testV (n : Int) : Value → Bool
  | .int m _ => under n m
  | _ => false

set_option maxHeartbeats 4000000 in
theorem under_call {n : Int} {t : Tok} {rt rh : Addr} {tops : List Int} {Q : Value → Shared → Prop} (H : Host w mg mb s.heap) (hroom : A.depth < recursionLimit) (hh : A.handled = none) (hu : A.units + 100 < cLine)
    (gt : GoodI s.heap rt tops) (gh : GoodI s.heap rh highsL) (hn0 : 0 ≤ n) (hn1 : n ≤ 31) (htop : ∀ m ∈ tops, 0 ≤ m ∧ m ≤ 31) (hlen : tops.length ≤ 1000)
    (h : ∀ s', Like s s' → Kept s.heap s'.heap → Q (.bool (tops.any (under n))) s') :
    Wp prog w A (call (.ref 109) [.int n t, .ref rt, .ref rh]) Q s := by
  refine enterC (vals := [.int n t, .ref rt, .ref rh]) (binds := [("n", .int n t), ("tops", .ref rt), ("highs", .ref rh)]) H rfl rfl rfl hroom rfl rfl rfl ?_
  intro s₁ L l₁ hL N k H0 hc
  obtain ⟨vt, pt, it⟩ := gt.at fun o e => k _ _ e
  obtain ⟨vh, ph, ih⟩ := gh.at fun o e => k _ _ e
  have c1 : s₁.heap.IsCell (L + 1) (some (.int n t)) := (hc "n" _ rfl).1
  have c2 : s₁.heap.IsCell (L + 2) (some (.ref rh)) := (hc "highs" _ rfl).1
  refine wCons <| wReturn <| wCmp <| wComp (testV n) (fun v y => y = v) rfl <| ldE N rfl <| iterL pt.isList ?_
  intro s₂ I l₂ eI k₂ z₂ hit
  have hpl : rt < s₁.heap.objs.size := plist_lt pt
  have tlen := intsAre_length it
  refine ⟨I, [I, rt], [I], vt.toArray.size, _, _, rfl, Walks.list (A := A.deeper _) hh I rt (neN (by rw [eI]; exact Nat.ne_of_lt hpl)) vt.toArray, by simp; omega, ⟨hit, (pt.at fun o e => k₂ _ _ e).isList⟩, ?_, quiet_of (.inr ⟨_, rfl, ?_⟩) ?_, ?_⟩
  · intro b hb
    rcases List.mem_cons.mp hb with rfl | hb
    · exact ltN (by omega)
    · rw [List.mem_singleton] at hb; subst hb; exact ltN (by have := ltN hpl; omega)
  · intro C i v s₃ m₃ hC hv N₃ hm k₃
    obtain ⟨m, tm, rfl, hmt⟩ := intsAre_get' it (by simpa using hv)
    obtain ⟨hm0, hm1⟩ := htop m (List.mem_of_getElem? hmt)
    have up : ∀ b o, s₁.heap.get? b = some o → s₃.heap.get? b = some o := fun b o e => k₃ b o (by
      have := ltN (Heap.lt_size e)
      simp only [List.mem_singleton]
      exact neN (by omega)) (k₂ _ _ e)
    have c1' := c1.keeps up
    have c2' := c2.keeps up
    have ph' := ph.at fun o e => up _ _ e
    obtain ⟨ta, hta⟩ := intsAre_get ih (highs_get hm0 hm1)
    obtain ⟨tb, htb⟩ := intsAre_get ih (highs_get hn0 hn1)
    refine wIsBool <| wAndCons <| wIsCmp <| wSub <| ldC c2' <| ldE N₃ hm <| itemL ph' hm0 (by omega) hta <| wSub <| ldC c2' <| ldC c1' <| itemL ph' hn0 (by omega) htb <| wLeI <| wTruthB ?_
    by_cases hle : hb m ≤ hb n
    · rw [decide_eq_true hle]
      refine wAndCons <| wIsCmp <| wBinOp <| ldC c1' <| wBinOp <| wSub <| ldC c2' <| ldC c1' <| itemL ph' hn0 (by omega) htb <| wSub <| ldC c2' <| ldE N₃ hm <| itemL ph' hm0 (by omega) hta <| wSubI <| wShr (by omega) <| ldE N₃ hm <| wEqI <| wTruthB ?_
      have e : testV n (.int m tm) = (n.fdiv (2 ^ (hb n - hb m).toNat) == m) := by show (decide (hb m ≤ hb n) && _) = _; rw [decide_eq_true hle]; rfl
      rw [e]
      cases (n.fdiv (2 ^ (hb n - hb m).toNat) == m)
      · exact ⟨rfl, ⟨rfl, rfl, rfl⟩, fun _ _ e => e⟩
      · exact wAndNil ⟨rfl, ⟨rfl, rfl, rfl⟩, fun _ _ e => e⟩
    · rw [decide_eq_false hle]
      exact ⟨by show _ = (decide (hb m ≤ hb n) && _); rw [decide_eq_false hle]; rfl, ⟨rfl, rfl, rfl⟩, fun _ _ e => e⟩
  · intro C i v s₃ m₃ hC hv hp N₃ hm k₃
    exact ldE N₃ hm ⟨rfl, ⟨rfl, rfl, rfl⟩, fun _ _ e => e⟩
  · intro D s₃ ys vs hD pD hvn hP hF l₃ k₃
    have up : ∀ b o, s₁.heap.get? b = some o → s₃.heap.get? b = some o := fun b o e => k₃ b o (by
      have := ltN (Heap.lt_size e)
      simp only [List.mem_singleton]
      exact neN (by omega)) (k₂ _ _ e)
    have evs : vs = vt := by
      apply List.ext_getElem?
      intro j
      cases e : vs[j]? with
      | some v => have := hP j v e; simpa using this.symm
      | none =>
        have := List.getElem?_eq_none_iff.mp e
        exact (List.getElem?_eq_none (by simp at hvn; omega)).symm
    subst evs
    have gD : GoodI s₃.heap D (tops.filter (under n)) := by
      obtain ⟨yl⟩ := ys
      have := paired_eq hF
      simp only at this
      exact ⟨yl, pD, by rw [this]; exact filter_ints (fun _ _ => rfl) it⟩
    refine dispL <| wINil ⟨by decide, ?_⟩
    intro s₄ l₄ e₄
    have k₄ : Kept s₃.heap s₄.heap := by rw [e₄]; exact kept_push _ _
    refine wNeIL (gD.at fun o e => k₄ _ _ e) (ms := []) ⟨[], by rw [e₄]; exact plist_new _ _, .nil⟩ (by show A.units + 3 + 64 < _; omega) ?_
    rw [any_filter]
    exact h _ (l₁.trans (l₂.trans (l₃.trans l₄))) fun b o e => k₄ _ _ (up _ _ (k _ _ e))
end

/-- a list's items are pairs of ints -/
structure TupsAre (h : Heap) (vs : List Value) (ps : List (Int × Int)) : Prop where
  len : vs.length = ps.length
  at_ : ∀ (j : Nat) (v : Value) (p : Int × Int), vs[j]? = some v → ps[j]? = some p → ∃ t a b, v = .ref t ∧ IsTup h t [.int p.1 a, .int p.2 b].toArray
theorem TupsAre.keep {h h' : Heap} {vs : List Value} {ps : List (Int × Int)} (x : TupsAre h vs ps) (k : ∀ t o, .ref t ∈ vs → h.get? t = some o → h'.get? t = some o) : TupsAre h' vs ps :=
  ⟨x.len, fun j v p e1 e2 => by
    obtain ⟨t, a, b, rfl, g⟩ := x.at_ j v p e1 e2
    exact ⟨t, a, b, rfl, isTup_at g fun o => k t o (List.mem_of_getElem? e1)⟩⟩
theorem TupsAre.nil (h : Heap) : TupsAre h [] [] := ⟨rfl, fun j v p e => by simp at e⟩
theorem TupsAre.append {h : Heap} {vs ws : List Value} {ps qs : List (Int × Int)} (x : TupsAre h vs ps) (y : TupsAre h ws qs) : TupsAre h (vs ++ ws) (ps ++ qs) := by
  refine ⟨by simp [x.len, y.len], fun j v p e1 e2 => ?_⟩
  by_cases hj : j < vs.length
  · rw [List.getElem?_append_left hj] at e1
    rw [List.getElem?_append_left (x.len ▸ hj)] at e2
    exact x.at_ j _ _ e1 e2
  · rw [List.getElem?_append_right (by omega)] at e1
    rw [List.getElem?_append_right (by have := x.len; omega)] at e2
    rw [x.len] at e1
    exact y.at_ _ _ _ e1 e2
theorem TupsAre.one {h : Heap} {t : Addr} {n d : Int} {a b : Tok} (g : IsTup h t [.int n a, .int d b].toArray) : TupsAre h [.ref t] [(n, d)] := by
  refine ⟨rfl, fun j v p e1 e2 => ?_⟩
  cases j with
  | zero => simp at e1 e2; subst e1; subst e2; exact ⟨t, a, b, rfl, g⟩
  | succ j => simp at e1
theorem TupsAre.lt {h : Heap} {vs : List Value} {ps : List (Int × Int)} (x : TupsAre h vs ps) : ∀ t, .ref t ∈ vs → t < h.objs.size := fun t ht => by
  obtain ⟨q, hq⟩ := List.getElem?_of_mem ht
  have hl : q < ps.length := by rw [← x.len]; exact (List.getElem?_eq_some_iff.mp hq).1
  obtain ⟨t', a, b, e, g⟩ := x.at_ _ _ _ hq (List.getElem?_eq_getElem hl)
  cases e
  exact isTup_lt g

section
variable {prog : Program} {w : World} {mg mb : Str → Option Value} {A : Around} {s : Shared} {env : Env}

theorem wDict0 {pos : Pos} {Q : Value → Shared → Prop} (h : ∀ s', Like s s' → s'.heap = s.heap.push { cls := .type "dict", data := .dict #[] } → Q (.ref s.heap.objs.size) s') : Wp prog w A (eval (.Dict [] [] pos) env) Q s :=
  ⟨fun E => by
    rw [eval_Dict_empty]
    refine wpAny_bind (wpAny_standAt ?_)
    exact wpAny_newObj_type (h { s with heap := _ } ⟨rfl, rfl, rfl⟩ rfl)⟩
theorem wAssignTS {elts k tpos value pos} {names : List Str} {Q : Flow → Shared → Prop}
    (h : Wp prog w A (eval value env) (fun v s₁ => Wp prog w A (unpackItems v names.length none) (fun items s₂ =>
      Wp prog w A (assignInOrder (names.reverse.map fun n => bindName env n) items.reverse) (fun _ => Q .next) s₂) s₁) s)
    (hs : swapsWithSole [.Tuple elts k tpos] value pos.line env = pure false := by rfl)
    (hw : swappedStores [.Tuple elts k tpos] value env = pure (some names) := by rfl) :
    Wp prog w A (exec (.Assign [.Tuple elts k tpos] value pos) env) Q s :=
  ⟨fun E => Assign_Tuple_swapped (wpAny_mono (h.out E) (fun _ _ x => wpAny_mono (x.out E) (fun _ _ y => y.out E) fun _ _ e => e) fun _ _ e => e) hs hw⟩
theorem wUnpackI {t : Addr} {vs : List Value} {n : Nat} {Q : List Value → Shared → Prop} (hh : A.handled = none) (ht : IsTup s.heap t vs.toArray) (hn : n = vs.length)
    (h : ∀ s', Like s s' → Kept s.heap s'.heap → Q vs s') : Wp prog w A (unpackItems (.ref t) n none) Q s :=
  ⟨fun E => by
    subst hn
    have := unpackItems_tuple (prog := prog) (w := w) (E := E) (Q := Q) hh ht fun h' he => by
      have := h { s with heap := h' } ⟨rfl, rfl, rfl⟩ fun b o e => he b o (Nat.ne_of_lt (Heap.lt_size e)) e
      simpa using this
    simpa using this⟩
theorem wBindN {x : Str} {v : Value} {Q : Unit → Shared → Prop} (h : Wp prog w A (storeName env x v) Q s) : Wp prog w A (bindName env x v) Q s := ⟨fun E => wpAny_bindName (h.out E)⟩
theorem wAssignS {o i pos' value pos} {Q : Flow → Shared → Prop}
    (h : Wp prog w A (eval value env) (fun v s₁ => Wp prog w A (eval o env) (fun ov s₂ => Wp prog w A (eval i env) (fun iv s₃ => Wp prog w A (setItem ov iv v) (fun _ => Q .next) s₃) s₂) s₁) s)
    (hs : swapsWith value (some (.Subscript o i pos')) pos.line env = pure false := by rfl) : Wp prog w A (exec (.Assign [.Subscript o i pos'] value pos) env) Q s :=
  ⟨fun E => wpAny_Assign_Subscript (wpAny_mono (h.out E) (fun _ _ x => wpAny_mono (x.out E) (fun _ _ y => wpAny_mono (y.out E) (fun _ _ z => z.out E) fun _ _ e => e) fun _ _ e => e) fun _ _ e => e) hs⟩
theorem wOr3 {x y z : Expr} {pos : Pos} {Q : Value → Shared → Prop}
    (h : Wp prog w A (eval x env) (fun v s₁ => Wp prog w A (truthy v) (fun t s₂ => if t then Q v s₂ else
      Wp prog w A (eval y env) (fun v s₁ => Wp prog w A (truthy v) (fun t s₂ => if t then Q v s₂ else Wp prog w A (eval z env) Q s₂) s₁) s₂) s₁) s) :
    Wp prog w A (eval (.BoolOp .Or [x, y, z] pos) env) Q s := ⟨fun E => by
  show wpAny (model prog w) A (do
    let v ← eval x env
    standAt pos
    let t ← holding [v] (truthy v)
    match BoolOp.Or, t with
    | .And, false | .Or, true => pure v
    | _, _ => boolOp pos .Or [eval y env, eval z env]) Q E s
  refine wpAny_bind (wpAny_mono (h.out E) (fun v s₁ h₁ => wpAny_bind (wpAny_standAt (wpAny_bind (wpAny_holding (wpAny_mono (h₁.out E) (fun t s₂ h₂ => ?_) fun _ _ x => x))))) fun _ _ x => x)
  cases t with
  | true => exact wpAny_pure h₂
  | false =>
    show wpAny (model prog w) A (do
      let v ← eval y env
      standAt pos
      let t ← holding [v] (truthy v)
      match BoolOp.Or, t with
      | .And, false | .Or, true => pure v
      | _, _ => boolOp pos .Or [eval z env]) Q E s₂
    simp only [Bool.false_eq_true, if_false] at h₂
    refine wpAny_bind (wpAny_mono (h₂.out E) (fun v s₁ h₁ => wpAny_bind (wpAny_standAt (wpAny_bind (wpAny_holding (wpAny_mono (h₁.out E) (fun t s₂ h₂ => ?_) fun _ _ x => x))))) fun _ _ x => x)
    cases t with
    | true => exact wpAny_pure h₂
    | false =>
      simp only [Bool.false_eq_true, if_false] at h₂
      exact h₂.out E⟩

section
variable {K : Type} [DecidableEq K] {knd : KeyKind prog w K}
theorem wNotInD {d : Addr} {k : K} {key : Value} {kvs : List (K × Value)} {Q : Value → Shared → Prop} (hkey : knd.is k key = true) (hd : (d == sysModules) = false) (hm : s.heap.DictOf knd d kvs)
    (h : Q (.bool (!(valueAt kvs k).isSome)) { s with toks := s.toks + 1 }) : Wp prog w A (compareOp .NotIn key (.ref d)) Q s := ⟨fun _ => wpAny_notIn_of hkey hd hm.mapOf h⟩
theorem wInD {d : Addr} {k : K} {key : Value} {kvs : List (K × Value)} {Q : Value → Shared → Prop} (hkey : knd.is k key = true) (hd : (d == sysModules) = false) (hm : s.heap.DictOf knd d kvs)
    (h : Q (.bool (valueAt kvs k).isSome) { s with toks := s.toks + 1 }) : Wp prog w A (compareOp .In key (.ref d)) Q s := ⟨fun _ => wpAny_in_of hkey hd hm.mapOf h⟩
theorem wSetD {d : Addr} {k : K} {key v : Value} {kvs : List (K × Value)} {Q : Unit → Shared → Prop} (hkey : knd.is k key = true) (hm : s.heap.DictOf knd d kvs) (hsz : kvs.length ≤ 100000)
    (h : ∀ s', Like s s' → s'.heap.DictOf knd d (stored kvs k v) → Heap.SameBut d s.heap s'.heap → Q () s') : Wp prog w A (setItem (.ref d) key v) Q s :=
  ⟨fun _ => wpAny_setItem_pairs hkey hm (fun h' a b => h { s with heap := h', toks := _ } ⟨rfl, rfl, rfl⟩ a b) (by rw [sizeLine_eq]; omega)⟩
theorem itemD {value slice : Expr} {d : Addr} {k : K} {key v : Value} {kvs : List (K × Value)} {Q : Value → Shared → Prop} (hkey : knd.is k key = true) (hm : s.heap.DictOf knd d kvs) (hv : valueAt kvs k = some v)
    (h : Q v { s with toks := s.toks + 1 }) (hs : subscripted slice false (.ref d) key = operate [.ref d, key] (getItem (.ref d) key) := by with_unfolding_all rfl) :
    Wp prog w A (subscriptTail value slice (.ref d) key) Q s :=
  ⟨fun _ => tail_any hm.typeIs slot_dict_getitem.lookup (wpAny_getItem_of hkey hm.mapOf hv h) hs⟩
end

/-- a for over a list, whatever its target, by an invariant over the state -/
theorem for_list {Q : Flow → Shared → Prop} {target : Expr} {body : List Stmt} {I D : Addr} {items : Array Value} (hh : A.handled = none) (hne : D ≠ I) (J : Nat → Shared → Prop)
    (hJ : ∀ i s s', J i s → Like s s' → (∀ b o, b ≠ I → s.heap.get? b = some o → s'.heap.get? b = some o) → J i s')
    (hst : s.heap.IsListIter I D 0 ∧ s.heap.IsList D items) (h0 : J 0 s)
    (turn : ∀ i v s₁, i < items.size → items[i]? = some v → s₁.heap.IsListIter I D (i + 1) ∧ s₁.heap.IsList D items → J i s₁ →
      Wp prog w A (assign target env v) (fun _ s₂ => Wp prog w A (execs body env) (fun f s₃ => match f with
        | .next | .cont => (s₃.heap.IsListIter I D (i + 1) ∧ s₃.heap.IsList D items) ∧ J (i + 1) s₃
        | .brk => Q .next s₃
        | .ret v => Q (.ret v) s₃) s₂) s₁)
    (hend : ∀ s', J items.size s' → Q .next s') :
    ForW prog w A target (.ref I) body env Q s := ⟨fun E => by
  have W := Walks.list (prog := prog) (w := w) hh I D hne items
  refine codeAny_forLoop_any (fun k s' => ∃ i, i ≤ items.size ∧ k = items.size + 1 - i ∧ (s'.heap.IsListIter I D i ∧ s'.heap.IsList D items) ∧ J i s') ?_ (items.size + 1) ⟨0, Nat.zero_le _, rfl, hst, h0⟩
  rintro k s' ⟨i, hi, rfl, hst', hj⟩
  by_cases hlt : i < items.size
  · refine W.item i s' _ _ hlt hst' fun v h' tk hp hst₁ hk => ?_
    have hj' : J i { s' with heap := h', toks := tk } := hJ i s' _ hj ⟨rfl, rfl, rfl⟩ fun b o hb e => hk b o (by simpa using hb) e
    have go : ∀ {Q' : Unit → Shared → Prop} {E'}, Q' () { s' with heap := h', toks := tk } → wpAny (model prog w) A (letOwnedTupleGo target (.ref I) v) Q' E' { s' with heap := h', toks := tk } := by
      intro Q' E' hq
      obtain ⟨o, ho, hc, hd⟩ := hst₁.1
      unfold letOwnedTupleGo
      split
      · split
        · rename_i r a e
          cases e
          refine wpAny_bind (wpAny_load ho ?_)
          rw [hc, hd]
          exact wpAny_pure hq
        · exact wpAny_pure hq
      · split
        · rename_i r a e
          cases e
          refine wpAny_bind (wpAny_load ho ?_)
          rw [hc, hd]
          exact wpAny_pure hq
        · exact wpAny_pure hq
      · exact wpAny_pure hq
    refine go ?_
    refine wpAny_mono ((turn i v _ hlt hp hst₁ hj').out (fun _ _ => False)) (fun _ s₂ h₂ => ?_) fun _ _ x => x.elim
    refine wpAny_mono (h₂.out (fun _ _ => False)) (fun f s₃ h₃ => ?_) fun _ _ x => x.elim
    cases f with
    | next => exact ⟨items.size + 1 - (i + 1), by omega, i + 1, hlt, rfl, h₃⟩
    | cont => exact ⟨items.size + 1 - (i + 1), by omega, i + 1, hlt, rfl, h₃⟩
    | brk => exact h₃
    | ret v => exact h₃
  · have hin : i = items.size := by omega
    subst hin
    refine W.done s' _ _ hst' fun h' tk hk => wpAny_execs_nil (hend { s' with heap := h', toks := tk } (hJ _ s' _ hj ⟨rfl, rfl, rfl⟩ fun b o hb e => hk b o (by simpa using hb) e))⟩
end

/-- the answers in turn: a number's first answer stands -/
def stepA (ans : Int → Int → Int) (st : (Int → Option Int) × List Int) (p : Int × Int) : (Int → Option Int) × List Int :=
  match st.1 p.1 with
  | some v => (st.1, st.2 ++ [v])
  | none => (fun x => if x = p.1 then some (ans p.1 p.2) else st.1 x, st.2 ++ [ans p.1 p.2])
def runA (ans : Int → Int → Int) (ps : List (Int × Int)) : (Int → Option Int) × List Int := ps.foldl (stepA ans) (fun _ => none, [])
theorem runA_snoc (ans : Int → Int → Int) (ps : List (Int × Int)) (p : Int × Int) : runA ans (ps ++ [p]) = stepA ans (runA ans ps) p := by simp [runA, List.foldl_append]
theorem stepA_len (ans : Int → Int → Int) (st : (Int → Option Int) × List Int) (p : Int × Int) : (stepA ans st p).2.length = st.2.length + 1 := by
  unfold stepA; split <;> simp
theorem runA_len (ans : Int → Int → Int) (ps : List (Int × Int)) : (runA ans ps).2.length = ps.length := by
  suffices h : ∀ (ps : List (Int × Int)) st, (ps.foldl (stepA ans) st).2.length = st.2.length + ps.length by simpa [runA] using h ps (fun _ => none, [])
  intro ps
  induction ps with
  | nil => intro st; simp
  | cons p r ih => intro st; rw [List.foldl_cons, ih, stepA_len, List.length_cons]; omega
def ansD (shut closed : List Int) (n d : Int) : Int := if (d == 0 || (shut.any (under n) || closed.any (under (d.fdiv 2)))) = true then 1 else 0

/-- a table of ints, read as values -/
def Tells' {K : Type} [DecidableEq K] (kvs : List (K × Value)) (kn : K → Option Int) : Prop := ∀ x, match kn x with | none => valueAt kvs x = none | some v => ∃ t, valueAt kvs x = some (.int v t)

theorem valueAt_stored' {K : Type} [DecidableEq K] (kvs : List (K × Value)) (k : K) (v : Value) (x : K) : valueAt (stored kvs k v) x = if x = k then some v else valueAt kvs x := by
  unfold stored
  split
  · rename_i h
    induction kvs with
    | nil => simp at h
    | cons e r ih =>
      obtain ⟨a, b⟩ := e
      simp only [List.map_cons, valueAt, List.find?_cons] at ih ⊢
      by_cases ha : a = k
      · subst ha
        simp only [if_true]
        by_cases hx : x = a
        · subst hx; simp
        · simp only [hx, if_false]
          have : decide (a = x) = false := decide_eq_false fun e => hx e.symm
          simp only [this]
          -- below: the rest holds no key but its own
          clear ih h
          induction r with
          | nil => rfl
          | cons e r ih =>
            obtain ⟨c, d⟩ := e
            simp only [List.map_cons, List.find?_cons]
            by_cases hc : c = a
            · subst hc
              simp only [if_true, this]
              exact ih
            · simp only [hc, if_false]
              by_cases hcx : c = x
              · simp [hcx]
              · simp only [decide_eq_false hcx]
                exact ih
      · simp only [ha, if_false]
        have h' : (r.any fun kv => decide (kv.1 = k)) = true := by simpa [ha] using h
        have := ih h'
        by_cases hax : a = x
        · subst hax
          simp [ha]
        · simp only [decide_eq_false hax]
          exact this
  · rename_i h
    unfold valueAt
    rw [List.find?_append]
    have hn : ∀ e ∈ kvs, e.1 ≠ k := by
      intro e he heq
      exact h (List.any_eq_true.mpr ⟨e, he, decide_eq_true heq⟩)
    by_cases hx : x = k
    · subst hx
      have : kvs.find? (fun kv => decide (kv.1 = x)) = none := List.find?_eq_none.mpr fun e he => by simpa using hn e he
      simp [this]
    · have : decide (k = x) = false := decide_eq_false fun e => hx e.symm
      simp [hx, this]

theorem Tells'.store {K : Type} [DecidableEq K] {kvs : List (K × Value)} {kn : K → Option Int} (h : Tells' kvs kn) (k : K) (v : Int) (t : Tok) : Tells' (stored kvs k (.int v t)) (fun x => if x = k then some v else kn x) := by
  intro x
  by_cases hx : x = k
  · simp only [hx, if_true]; exact ⟨t, by rw [valueAt_stored']; simp⟩
  · simp only [hx, if_false]
    have := h x
    rw [valueAt_stored']
    simp only [hx, if_false]
    exact this

section
variable {prog : Program} {w : World} {mg mb : Str → Option Value} {A : Around} {s : Shared} {env : Env}

/-- what stands in _law_due ahead of turn i -/
structure DuJ (prog : Program) (w : World) (s₀ : Shared) (L K U rs rc rh : Addr) (ans : Int → Int → Int) (ps : List (Int × Int)) (i : Nat) (s : Shared) : Prop where
  like : Like s₀ s
  keep : Kept s₀.heap s.heap
  ns : ∃ m, s.heap.Ns L m ∧ m "known" = some (.ref K) ∧ m "due" = some (.ref U) ∧ m "shut" = some (.ref rs) ∧ m "closed" = some (.ref rc) ∧ m "highs" = some (.ref rh)
  known : ∃ kvs, s.heap.DictOf (intKind prog w) K kvs ∧ kvs.length ≤ i ∧ Tells' kvs (runA ans (ps.take i)).1
  due : GoodI s.heap U (runA ans (ps.take i)).2

set_option maxHeartbeats 8000000 in
theorem due_call {ra rs rc rh : Addr} {va : List Value} {ps : List (Int × Int)} {shut closed : List Int} {Q : Value → Shared → Prop} (H : Host w mg mb s.heap) (hroom : A.depth + 1 < recursionLimit) (hh : A.handled = none) (hu : A.units + 200 < cLine)
    (pa : s.heap.PlainList ra va.toArray) (ta : TupsAre s.heap va ps) (gs : GoodI s.heap rs shut) (gc : GoodI s.heap rc closed) (gh : GoodI s.heap rh highsL)
    (hps : ∀ p ∈ ps, 0 ≤ p.1 ∧ p.1 ≤ 31 ∧ 0 ≤ p.2 ∧ p.2 ≤ 31) (hpl : ps.length ≤ 1000) (hsh : ∀ m ∈ shut, 0 ≤ m ∧ m ≤ 31) (hsl : shut.length ≤ 1000) (hcl : ∀ m ∈ closed, 0 ≤ m ∧ m ≤ 31) (hcll : closed.length ≤ 1000)
    (h : ∀ s' U, Like s s' → Kept s.heap s'.heap → GoodI s'.heap U (runA (ansD shut closed) ps).2 → Q (.ref U) s') :
    Wp prog w A (call (.ref 116) [.ref ra, .ref rs, .ref rc, .ref rh]) Q s := by
  refine enter (args := ⟨[.ref ra, .ref rs, .ref rc, .ref rh], []⟩) (binds := [("asked", .ref ra), ("shut", .ref rs), ("closed", .ref rc), ("highs", .ref rh)]) H rfl rfl rfl (by omega) (.of_eq rfl) (by decide) (locs rfl) ?_
  intro s₁ L l₁ hL N k H0
  have hlow := H0.low
  have hLlt : L < s₁.heap.objs.size := N.lt
  refine wCons <| wAssignTS (names := ["known", "due"]) <| dispT <| wICons <| wDict0 ?_
  intro s₂ l₂ e₂
  refine wICons <| dispL <| wINil ⟨by decide, ?_⟩
  intro s₃ l₃ e₃
  refine wINil ⟨by simp, ?_⟩
  intro s₄ l₄ e₄
  have k₂ : Kept s₁.heap s₂.heap := by rw [e₂]; exact kept_push _ _
  have k₃ : Kept s₂.heap s₃.heap := by rw [e₃]; exact kept_push _ _
  have k₄ : Kept s₃.heap s₄.heap := by rw [e₄]; exact kept_push _ _
  have z₂ : s₂.heap.objs.size = s₁.heap.objs.size + 1 := by rw [e₂, Heap.size_push]
  refine wUnpackI hh (vs := [.ref s₁.heap.objs.size, .ref s₂.heap.objs.size]) (by rw [e₄]; exact isTup_new _ _) rfl ?_
  intro s₅ l₅ k₅
  have k15 : Kept s₁.heap s₅.heap := fun b o e => k₅ _ _ (k₄ _ _ (k₃ _ _ (k₂ _ _ e)))
  refine wAioCons <| wBindN <| stL (N.keeps k15) ?_
  intro s₆ l₆ S₆ N₆
  refine wAioCons <| wBindN <| stL N₆ ?_
  intro s₇ l₇ S₇ N₇
  refine wAioNil ?_
  have k7 : Kept s.heap s₇.heap := keptBut (keptBut (fun b o e => k15 _ _ (k _ _ e)) S₆ (by omega)) S₇ (by omega)
  have up : ∀ b o, b ≠ L → s₅.heap.get? b = some o → s₇.heap.get? b = some o := fun b o hb e => S₇.extBut b o hb (S₆.extBut b o hb e)
  have hK : s₇.heap.DictOf (intKind prog w) s₁.heap.objs.size [] := by
    have : s₂.heap.DictOf (intKind prog w) s₁.heap.objs.size [] := by rw [e₂]; exact Heap.DictOf.new _
    have h5 := this.keep fun b o e => k₅ _ _ (k₄ _ _ (k₃ _ _ e))
    exact (h5.sameBut S₆ (neN (by omega))).sameBut S₇ (neN (by omega))
  have hU : GoodI s₇.heap s₂.heap.objs.size [] := by
    refine ⟨[], Heap.PlainList.at (h := s₃.heap) (by rw [e₃]; exact plist_new _ _) fun o e => up _ o (neN (by omega)) (k₅ _ _ (k₄ _ _ e)), .nil⟩
  have pa₇ := pa.at fun o e => k7 _ _ e
  refine wCons <| wFor <| ldL N₇ rfl <| iterL pa₇.isList ?_
  intro s₈ I l₈ eI k₈ z₈ hit
  have lall : Like s s₈ := l₁.trans (l₂.trans (l₃.trans (l₄.trans (l₅.trans (l₆.trans (l₇.trans l₈))))))
  have hra : @LT.lt Nat _ ra s.heap.objs.size := plist_lt pa
  have z7 : s₇.heap.objs.size = s₅.heap.objs.size := by rw [S₇.1, S₆.1]
  have hU5 : @LT.lt Nat _ s₂.heap.objs.size s₇.heap.objs.size := by obtain ⟨_, p, _⟩ := hU; exact plist_lt p
  refine for_list hh (neN (by omega)) (DuJ prog w s L s₁.heap.objs.size s₂.heap.objs.size rs rc rh (ansD shut closed) ps) ?_ ⟨hit, (pa₇.at fun o e => k₈ _ _ e).isList⟩
    ⟨lall, fun b o e => k₈ _ _ (k7 _ _ e), ⟨_, N₇.keeps k₈, rfl, rfl, rfl, rfl, rfl⟩, ⟨[], hK.keep k₈, Nat.zero_le _, fun x => rfl⟩, hU.at fun o e => k₈ _ _ e⟩ ?_ ?_
  · intro i a b ⟨j1, j2, ⟨m, j3, jr⟩, ⟨kvs, j4, j4', j4''⟩, j5⟩ lb kb
    refine ⟨j1.trans lb, fun c o e => kb c o ?_ (j2 c o e), ⟨m, j3.at' fun o e => kb L o (neN (by omega)) e, jr⟩, ⟨kvs, ?_, j4', j4''⟩, j5.at fun o e => kb _ o (neN (by omega)) e⟩
    · exact neN (by have := ltN (Heap.lt_size e); omega)
    · obtain ⟨o, es, ep, ho, r⟩ := j4
      exact ⟨o, es, ep, kb _ _ (neN (by omega)) ho, r⟩
  · rintro i v a hi hv ⟨hst1, hst2⟩ ⟨j1, j2, ⟨m, j3, n1, n2, n3, n4, n5⟩, ⟨kvs, j4, j4', j4''⟩, j5⟩
    have hil : i < ps.length := by simp [ta.len] at hi; exact hi
    obtain ⟨p, hp⟩ : ∃ p, ps[i]? = some p := ⟨_, List.getElem?_eq_getElem hil⟩
    obtain ⟨t, ta1, ta2, rfl, gT⟩ := ta.at_ i v p (by simpa using hv) hp
    obtain ⟨hp0, hp1, hd0, hd1⟩ := hps p (List.mem_of_getElem? hp)
    have htake : ps.take (i + 1) = ps.take i ++ [p] := by rw [List.take_add_one, hp]; rfl
    refine wUnpack hh (isTup_at gT fun o e => j2 _ _ e) ?_
    intro b₀ lb₀ kb₀
    refine wAioCons <| wAssignN <| stL (j3.keeps kb₀) ?_
    intro b₁ lb₁ Sb₁ Nb₁
    refine wAioCons <| wAssignN <| stL Nb₁ ?_
    intro b lb Sb Nb
    refine wAioNil ?_
    have ub : ∀ x o, x ≠ L → a.heap.get? x = some o → b.heap.get? x = some o := fun x o hx e => Sb.extBut x o hx (Sb₁.extBut x o hx (kb₀ _ _ e))
    have jb : Like s b := j1.trans (lb₀.trans (lb₁.trans lb))
    have kb : Kept s.heap b.heap := fun x o e => ub x o (neN (by have := ltN (Heap.lt_size e); omega)) (j2 _ _ e)
    have Hb := H.keeps kb
    have dK : b.heap.DictOf (intKind prog w) s₁.heap.objs.size kvs := by
      obtain ⟨o, es, ep, ho, r⟩ := j4
      exact ⟨o, es, ep, ub _ _ (neN (by omega)) ho, r⟩
    have dU := j5.at fun o e => ub _ o (neN (by omega)) e
    have stb : b.heap.IsListIter I ra (i + 1) ∧ b.heap.IsList ra va.toArray := ⟨hst1.at fun o e => ub _ o (neN (by omega)) e, hst2.at fun o e => ub _ o (neN (by omega)) e⟩
    have u1 := upd_ne (x := "d") (v := .int p.2 ta2) (upd_ne (x := "n") (v := .int p.1 ta1) n1 (by decide)) (by decide)
    have u2 := upd_ne (x := "d") (v := .int p.2 ta2) (upd_ne (x := "n") (v := .int p.1 ta1) n2 (by decide)) (by decide)
    have u3 := upd_ne (x := "d") (v := .int p.2 ta2) (upd_ne (x := "n") (v := .int p.1 ta1) n3 (by decide)) (by decide)
    have u4 := upd_ne (x := "d") (v := .int p.2 ta2) (upd_ne (x := "n") (v := .int p.1 ta1) n4 (by decide)) (by decide)
    have u5 := upd_ne (x := "d") (v := .int p.2 ta2) (upd_ne (x := "n") (v := .int p.1 ta1) n5 (by decide)) (by decide)
    have hKs : (s₁.heap.objs.size == sysModules) = false := beq_eq_false_iff_ne.mpr (by unfold sysModules; omega)
    generalize hR : runA (ansD shut closed) (ps.take i) = R at j4'' dU
    have hR' : runA (ansD shut closed) (ps.take (i + 1)) = stepA (ansD shut closed) R p := by rw [htake, runA_snoc, hR]
    refine wCons <| Wp.mono (Q := fun f e => f = .next ∧ ∃ m kvs' r tr, e.heap.Ns L m ∧ (m "known" = some (.ref s₁.heap.objs.size) ∧ m "due" = some (.ref s₂.heap.objs.size) ∧ m "shut" = some (.ref rs) ∧ m "closed" = some (.ref rc) ∧ m "highs" = some (.ref rh)) ∧ m "n" = some (.int p.1 ta1) ∧
        Like s e ∧ Kept s.heap e.heap ∧ e.heap.DictOf (intKind prog w) s₁.heap.objs.size kvs' ∧ kvs'.length ≤ i + 1 ∧ Tells' kvs' (stepA (ansD shut closed) R p).1 ∧ valueAt kvs' p.1 = some (.int r tr) ∧ (stepA (ansD shut closed) R p).2 = R.2 ++ [r] ∧
        GoodI e.heap s₂.heap.objs.size R.2 ∧ (e.heap.IsListIter I ra (i + 1) ∧ e.heap.IsList ra va.toArray)) ?_ ?_
    · refine wIf <| wIsCmp <| ldL Nb rfl <| ldL Nb u1 <| wNotInD (intKind_is _ _ _ _) hKs dK <| wTruthB ?_
      cases hkn : R.1 p.1 with
      | some v =>
        obtain ⟨tv, hv⟩ : ∃ t, valueAt kvs p.1 = some (.int v t) := by have := j4'' p.1; rw [hkn] at this; exact this
        rw [hv]
        have e1 : stepA (ansD shut closed) R p = (R.1, R.2 ++ [v]) := by unfold stepA; rw [hkn]
        rw [e1]
        exact wNil ⟨rfl, _, kvs, v, tv, Nb, ⟨u1, u2, u3, u4, u5⟩, rfl, jb, kb, dK, by omega, j4'', hv, rfl, dU, stb⟩
      | none =>
        have hv : valueAt kvs p.1 = none := by have := j4'' p.1; rw [hkn] at this; exact this
        rw [hv]
        have e1 : stepA (ansD shut closed) R p = (fun x => if x = p.1 then some (ansD shut closed p.1 p.2) else R.1 x, R.2 ++ [ansD shut closed p.1 p.2]) := by unfold stepA; rw [hkn]
        rw [e1]
        refine wCons <| wAssign <| Wp.mono (Q := fun v e => v = .bool (p.2 == 0 || (shut.any (under p.1) || closed.any (under (p.2.fdiv 2)))) ∧ Like b e ∧ Kept b.heap e.heap) ?_ ?_
        · refine wOr3 <| wCmp <| ldL Nb rfl <| wInt <| wEqI <| wTruthB ?_
          cases hd : (p.2 == 0)
          · refine wCall <| ldG Hb rfl <| wF1 rfl <| wICons <| ldL Nb rfl <| wICons <| ldL Nb u3 <| wICons <| ldL Nb u5 <| wINil ⟨Hb, under_call Hb (by show A.depth + 1 < _; omega) hh (by show A.units + 3 + 100 < _; omega) (gs.at fun o e => kb _ _ e) (gh.at fun o e => kb _ _ e) hp0 hp1 hsh hsl ?_⟩
            intro c₁ lc₁ kc₁
            refine wTruthB ?_
            cases hs1 : shut.any (under p.1)
            · have h20 : 0 ≤ p.2.fdiv 2 := by rw [Int.fdiv_eq_ediv_of_nonneg _ (by decide)]; omega
              have h21 : p.2.fdiv 2 ≤ 31 := by rw [Int.fdiv_eq_ediv_of_nonneg _ (by decide)]; omega
              have Nc := Nb.keeps kc₁
              have Hc := Hb.keeps kc₁
              refine wCall <| ldG Hc rfl <| wF1 rfl <| wICons <| wBinOp <| ldL Nc rfl <| wInt <| wDiv (by decide) (by decide) <| wICons <| ldL Nc u4 <| wICons <| ldL Nc u5 <| wINil ⟨Hc, under_call Hc (by show A.depth + 1 < _; omega) hh (by show A.units + 3 + 100 < _; omega) (gc.at fun o e => kc₁ _ _ (kb _ _ e)) (gh.at fun o e => kc₁ _ _ (kb _ _ e)) h20 h21 hcl hcll ?_⟩
              intro c₂ lc₂ kc₂
              exact ⟨rfl, lc₁.trans lc₂, fun x o e => kc₂ _ _ (kc₁ _ _ e)⟩
            · exact ⟨rfl, lc₁, kc₁⟩
          · exact ⟨rfl, ⟨rfl, rfl, rfl⟩, fun _ _ e => e⟩
        · rintro v e ⟨rfl, le, ke⟩
          refine stL (Nb.keeps ke) ?_
          intro f lf Sf Nf
          have uf : ∀ x o, x ≠ L → b.heap.get? x = some o → f.heap.get? x = some o := fun x o hx q => Sf.extBut x o hx (ke _ _ q)
          have kf : Kept s.heap f.heap := fun x o q => uf x o (neN (by have := ltN (Heap.lt_size q); omega)) (kb _ _ q)
          have dKf : f.heap.DictOf (intKind prog w) s₁.heap.objs.size kvs := by
            obtain ⟨o, es, ep, ho, r⟩ := dK
            exact ⟨o, es, ep, uf _ _ (neN (by omega)) ho, r⟩
          refine wCons <| wAssignS <| Wp.mono (Q := fun v e => (∃ t, v = .int (ansD shut closed p.1 p.2) t) ∧ Like f e ∧ e.heap = f.heap) ?_ ?_
          · refine wIfExp <| wIsValue <| ldL Nf rfl <| wTruthB ?_
            unfold ansD
            cases hq : (p.2 == 0 || (shut.any (under p.1) || closed.any (under (p.2.fdiv 2))))
            · exact wInt ⟨⟨_, rfl⟩, ⟨rfl, rfl, rfl⟩, rfl⟩
            · exact wInt ⟨⟨_, rfl⟩, ⟨rfl, rfl, rfl⟩, rfl⟩
          · rintro v g ⟨⟨tr, rfl⟩, lg, eg⟩
            have Ng := Nf
            rw [← eg] at Ng
            have dKg := dKf
            rw [← eg] at dKg
            refine ldL Ng (upd_ne (x := "left") u1 (by decide)) <| ldL Ng rfl <| wSetD (intKind_is _ _ _ _) dKg (by omega) ?_
            intro q lq dq Sq
            have uq : ∀ x o, x ≠ s₁.heap.objs.size → f.heap.get? x = some o → q.heap.get? x = some o := fun x o hx r => Sq.extBut x o hx (by rw [eg]; exact r)
            refine wNil ⟨rfl, _, _, ansD shut closed p.1 p.2, tr, Ng.sameBut Sq (neN (by omega)), ⟨upd_ne (x := "left") u1 (by decide), upd_ne (x := "left") u2 (by decide), upd_ne (x := "left") u3 (by decide), upd_ne (x := "left") u4 (by decide), upd_ne (x := "left") u5 (by decide)⟩, rfl,
              jb.trans (le.trans (lf.trans (lg.trans lq))), fun x o r => uq x o (neN (by have := ltN (Heap.lt_size r); have := ltN (Heap.lt_size (k _ _ r)); omega)) (kf _ _ r), dq, ?_, j4''.store _ _ _, ?_, rfl, ?_, ?_⟩
            · exact Nat.le_trans (stored_length_le kvs _ _) (by omega)
            · rw [valueAt_stored']; simp
            · exact dU.at fun o r => uq _ o (neN (by omega)) (uf _ o (neN (by omega)) r)
            · exact ⟨stb.1.at fun o r => uq _ o (neN (by omega)) (uf _ o (neN (by omega)) r), stb.2.at fun o r => uq _ o (neN (by omega)) (uf _ o (neN (by omega)) r)⟩
    · rintro fl e ⟨rfl, me, kvs', r, tr, Ne, ⟨v1, v2, v3, v4, v5⟩, vn, le, ke, de, hk', te, hval, hout, ⟨vu, pu, iu⟩, ste⟩
      have hul : vu.length ≤ 1000 := by
        rw [intsAre_length iu, ← hR, runA_len]
        simp; omega
      refine wCons <| wExpr <| wMeth <| ldL Ne v2 <| mAppend pu <| wB1 <| wICons <| wSub <| ldL Ne v1 <| ldL Ne vn <| itemD (intKind_is _ _ _ _) de hval <| wINil <| cAppend pu ?_ (by omega)
      intro g lg pg Sg
      have ug : ∀ x o, x ≠ s₂.heap.objs.size → e.heap.get? x = some o → g.heap.get? x = some o := fun x o hx q => Sg.extBut x o hx q
      refine wNil ⟨⟨ste.1.at fun o q => ug _ o (neN (by omega)) q, ste.2.at fun o q => ug _ o (neN (by omega)) q⟩, le.trans lg, fun x o q => ug x o (neN (by have := ltN (Heap.lt_size (k _ _ q)); omega)) (ke _ _ q), ⟨me, Ne.sameBut Sg (neN (by omega)), v1, v2, v3, v4, v5⟩, ⟨kvs', ?_, hk', by rw [hR']; exact te⟩, ?_⟩
      · exact de.sameBut Sg (neN (by omega))
      · rw [hR', hout]
        exact ⟨_, pg, iu.append (.cons r tr .nil)⟩
  · rintro a ⟨j1, j2, ⟨m, j3, n1, n2, n3, n4, n5⟩, _, j5⟩
    refine wCons <| wReturn <| ldL j3 n2 ?_
    have e : va.toArray.size = ps.length := by simp [ta.len]
    rw [e, List.take_length] at j5
    exact h _ _ j1 j2 j5
end

theorem layNew_led (t : SetTable) (es : Array (Int × Value)) (h : Int) (x : Value) : (layNew t es h x).2.1.led = t.led := by
  unfold layNew
  split
  · dsimp only
    unfold SetTable.orStandIn
    split <;> rfl
  · rfl
theorem relayAll_led (t : SetTable) (es : Array (Int × Value)) (wanted : Nat) : (relayAll t es wanted).2.1.led = t.led ∧ (t.plain = false → (relayAll t es wanted).2.1.plain = false) := by
  unfold relayAll
  split
  · rename_i t' order e
    dsimp only
    split
    · unfold SetTable.relaid SetTable.laid at e
      cases hc : SetTable.layClean (SetTable.sizeAbove wanted - 1) (es.map (·.1)) with
      | none => rw [hc] at e; cases e
      | some owner =>
        rw [hc] at e
        cases e
        exact ⟨rfl, id⟩
    · exact ⟨rfl, fun _ => rfl⟩
  · exact ⟨rfl, fun _ => rfl⟩

/-- what is told of a set's table: it may be walked -/
def Table (w : World) (es : Array (Int × Value)) (t : SetTable) : Prop := (w.params.followText "set-order" = true ∨ t.led = true) ∧ (es.size = 0 ∨ t.plain = false)
/-- a set of texts -/
def SetX (prog : Program) (w : World) (h : Heap) (a : Addr) (S : Str → Bool) (n : Nat) : Prop :=
  ∃ o es ep t, h.get? a = some o ∧ o.ExactSet ∧ o.data = .set es ep t ∧ ElemsOf (PySem.strKind prog w) es.toList ∧ (∀ k, S k = true ↔ ∃ e ∈ es.toList, (PySem.strKind prog w).is k e.2 = true) ∧
    es.size < scanBound ∧ t.fits es.size = true ∧ es.size = n ∧ Table w es t
theorem SetX.setOf {prog : Program} {w : World} {h : Heap} {a : Addr} {S : Str → Bool} {n : Nat} (x : SetX prog w h a S n) : h.SetOf (PySem.strKind prog w) a S n :=
  let ⟨o, es, ep, t, a1, a2, a3, a4, a5, a6, a7, a8, _⟩ := x; ⟨o, es, ep, t, a1, a2, a3, a4, a5, a6, a7, a8⟩
theorem SetX.at {prog : Program} {w : World} {h h' : Heap} {a : Addr} {S : Str → Bool} {n : Nat} (x : SetX prog w h a S n) (k : ∀ o, h.get? a = some o → h'.get? a = some o) : SetX prog w h' a S n :=
  let ⟨o, es, ep, t, a1, r⟩ := x; ⟨o, es, ep, t, k _ a1, r⟩

section
variable {prog : Program} {w : World} {mg mb : Str → Option Value} {A : Around} {s : Shared} {env : Env}

theorem setX_store {h : Heap} {a : Addr} {o : Obj} {es : Array (Int × Value)} {ep : Nat} {t : SetTable} (ho : h.get? a = some o) (hex : o.ExactSet) (hd : o.data = .set es ep t)
    {es' : Array (Int × Value)} {t' : SetTable} {S' : Str → Bool} (hel : ElemsOf (PySem.strKind prog w) es'.toList) (hmem : ∀ k, S' k = true ↔ ∃ e ∈ es'.toList, (PySem.strKind prog w).is k e.2 = true) (hb : es'.size < scanBound) (hf : t'.fits es'.size = true)
    (hT : Table w es' t') :
    (h.update a (Obj.putSet es' t')).get? a = some { o with data := .set es' (ep + 1) t' } ∧ SetX prog w (h.update a (Obj.putSet es' t')) a S' es'.size := by
  have hg := (SetOf_store (knd := PySem.strKind prog w) ho hex hd hel hmem hb hf).1
  exact ⟨hg, _, es', ep + 1, t', hg, hex, rfl, hel, hmem, hb, hf, rfl, hT⟩

set_option maxHeartbeats 4000000 in
/-- a text is added to a set of texts -/
theorem setAddX {a : Addr} {S : Str → Bool} {n : Nat} {x : Str} {t : Tok} {Q : Bool → Shared → Prop} (hS : SetX prog w s.heap a S n) (hroom : n + 1 < scanBound)
    (h : ∀ s' n' b, Like s s' → n' ≤ n + 1 → Heap.SameBut a s.heap s'.heap → SetX prog w s'.heap a (fun k' => S k' || decide (k' = x)) n' → Q b s') :
    Wp prog w A (setAdd a (.str x t)) Q s := ⟨fun E => by
  unfold setAdd
  refine wpAny_holding ?_
  refine wpAny_bind ((PySem.strKind prog w).pyHash (k := x) (strKind_is _ _ _ _) ?_)
  have hkey := strKind_is prog w x t
  have hsc : (Value.str x t).scannable = true := rfl
  obtain ⟨o, es, ep, tb, ho, hex, hd, hel, hmem, hb, hf, hn, hled, hplain⟩ := hS
  have hb1 : es.size + 1 < scanBound := by rw [hn]; exact hroom
  unfold setAddHashed setAddHashedIn
  refine wpAny_holding (wpAny_bind (wpAny_setState_of (s := { s with toks := s.toks + 1 }) ho hd hf ?_))
  dsimp only
  rw [byScan_of hsc hb hel]
  simp only [↓reduceIte]
  unfold setAddByScan
  refine wpAny_bind ?_
  refine wpAny_bind (wpAny_rule ?_)
  refine wpAny_bind (wpAny_setScan_of (s := { s with toks := s.toks + 1 }) hkey ho hd hf hel ?_)
  cases hr : List.findIdx? (fun e => (PySem.strKind prog w).is x e.2) es.toList with
  | some j =>
    dsimp only
    obtain ⟨hj, hpj, _⟩ := List.findIdx?_eq_some_iff_getElem.mp hr
    have hSk : S x = true := (hmem x).mpr ⟨es.toList[j], List.getElem_mem hj, hpj⟩
    refine wpAny_pure (wpAny_pure ?_)
    refine h _ n _ ⟨rfl, rfl, rfl⟩ (by omega) (Heap.SameBut.refl ..) ⟨o, es, ep, tb, ho, hex, hd, hel, fun k' => ?_, hb, hf, hn, hled, hplain⟩
    rw [Bool.or_eq_true, decide_eq_true_eq, ← hmem k']
    exact ⟨fun hk => hk.elim id (fun e => e ▸ hSk), .inl⟩
  | none =>
    dsimp only
    have hperm := layNew_perm tb es ((PySem.strKind prog w).hash x) (.str x t)
    have hfits := layNew_fits tb es ((PySem.strKind prog w).hash x) (.str x t)
    have hledL := layNew_led tb es ((PySem.strKind prog w).hash x) (.str x t)
    generalize hL : layNew tb es ((PySem.strKind prog w).hash x) (.str x t) = L at hperm hfits hledL ⊢
    obtain ⟨es1, t1, wasDummy, gave⟩ := L
    dsimp only at hperm hfits hledL ⊢
    rw [Array.toList_push] at hperm
    have hel1 : ElemsOf (PySem.strKind prog w) es1.toList := (hel.push hkey hsc).perm hperm
    have hmem1 : ∀ k', (S k' || decide (k' = x)) = true ↔ ∃ e ∈ es1.toList, (PySem.strKind prog w).is k' e.2 = true := mem_push_iff hkey hmem hperm
    have hsz1 : es1.size = n + 1 := by rw [← Array.length_toList, hperm.length_eq, List.length_append, Array.length_toList, hn]; rfl
    have hb1' : es1.size < scanBound := by rw [hsz1]; exact hroom
    have hgw : ∀ (b : Bool) (s₁ : Shared) (Q' : Unit → Shared → Prop), Q' () s₁ → wpAny (model prog w) A (match b with | true => rule "set.scan.the-table-gave-way" | false => pure ()) Q' E s₁ :=
      fun b s₁ Q' hq => by cases b <;> first | exact wpAny_pure hq | exact wpAny_rule hq
    refine wpAny_bind (hgw _ _ _ ?_)
    -- the table that is stored: not plain
    have tail : ∀ (g : Bool → Sem Unit), (∀ (b : Bool) (s₁ : Shared) (Q' : Unit → Shared → Prop), Q' () s₁ → wpAny (model prog w) A (g b) Q' E s₁) → ∀ t2 : SetTable, t2.led = tb.led → t2.plain = false → t2.fits es1.size = true → wpAny (model prog w) A (do
        storeSet a es1 t2
        if (!wasDummy && t2.tooFull) = true then do
            g (relayAll t2 es1 (SetTable.grown es1.size)).2.2
            storeSet a (relayAll t2 es1 (SetTable.grown es1.size)).1 (relayAll t2 es1 (SetTable.grown es1.size)).2.1
            pure (some true)
          else pure (some true)) (fun r s' => r = some true ∧ ∀ b, Q b s') E { s with toks := s.toks + 1 } := by
      intro g hgw t2 hl2 hp2 hf2
      refine wpAny_bind (wpAny_storeSet_of (s := { s with toks := s.toks + 1 }) ho hd ?_ (fits_of_scanBound hb1'))
      have hT2 : Table w es1 t2 := ⟨by rw [hl2]; exact hled, .inr hp2⟩
      obtain ⟨ho1, hS1⟩ := setX_store (prog := prog) (w := w) ho hex hd hel1 hmem1 hb1' hf2 hT2
      have hsb1 := Heap.SameBut.update s.heap a (Obj.putSet es1 t2)
      split
      · have hp := relayAll_perm t2 es1 (SetTable.grown es1.size)
        have hfr := relayAll_fits t2 es1 (SetTable.grown es1.size)
        obtain ⟨hl3, hp3⟩ := relayAll_led t2 es1 (SetTable.grown es1.size)
        generalize hRl : relayAll t2 es1 (SetTable.grown es1.size) = Rl at hp hfr hl3 hp3 ⊢
        obtain ⟨es2, t3, gave2⟩ := Rl
        dsimp only at hp hfr hl3 hp3 ⊢
        have hel2 : ElemsOf (PySem.strKind prog w) es2.toList := hel1.perm hp
        have hmem2 : ∀ k', (S k' || decide (k' = x)) = true ↔ ∃ e ∈ es2.toList, (PySem.strKind prog w).is k' e.2 = true := fun k' => (hmem1 k').trans ⟨fun ⟨e, he, q⟩ => ⟨e, hp.mem_iff.mpr he, q⟩, fun ⟨e, he, q⟩ => ⟨e, hp.mem_iff.mp he, q⟩⟩
        have hsz : es2.size = es1.size := by rw [← Array.length_toList, hp.length_eq, Array.length_toList]
        have hb2 : es2.size < scanBound := by rw [hsz]; exact hb1'
        refine wpAny_bind (hgw _ _ _ ?_)
        refine wpAny_bind (wpAny_storeSet_of ho1 rfl ?_ (fits_of_scanBound hb2))
        obtain ⟨_, hS2⟩ := setX_store (prog := prog) (w := w) ho1 hex rfl hel2 hmem2 hb2 hfr ⟨by rw [hl3, hl2]; exact hled, .inr (hp3 hp2)⟩
        refine wpAny_pure ⟨rfl, fun b => h _ _ _ ⟨rfl, rfl, rfl⟩ (by omega) (hsb1.trans (Heap.SameBut.update _ a _)) hS2⟩
      · exact wpAny_pure ⟨rfl, fun b => h _ _ _ ⟨rfl, rfl, rfl⟩ (by omega) hsb1 hS1⟩
    split
    · refine wpAny_bind ?_
      rw [hashByValue_scannable 8 hsc]
      refine wpAny_pure ?_
      simp only [plainKind, Bool.false_eq_true, if_false]
      refine wpAny_mono (tail _ (fun b s₁ Q' hq => by cases b <;> first | exact wpAny_pure hq | exact wpAny_rule hq) { t1 with plain := false } hledL rfl (SetTable.fits_plain_off hfits)) (fun r s' hq => ?_) fun _ _ e => e
      obtain ⟨rfl, hq⟩ := hq
      exact wpAny_pure (hq true)
    · rename_i hpl
      refine wpAny_bind (wpAny_pure ?_)
      simp only [if_true]
      refine wpAny_mono (tail _ (fun b s₁ Q' hq => by cases b <;> first | exact wpAny_pure hq | exact wpAny_rule hq) t1 hledL (by simpa using hpl) hfits) (fun r s' hq => ?_) fun _ _ e => e
      obtain ⟨rfl, hq⟩ := hq
      exact wpAny_pure (hq true)⟩
end
section
variable {prog : Program} {w : World} {mg mb : Str → Option Value} {A : Around} {s : Shared} {env : Env}

abbrev newSetObj (w : World) : Obj := { cls := .type "set", dict := none, data := .set #[] 0 (.fresh 0 0 (!w.params.followText "set-order")) }

theorem set_new_1 (a : Value) {E : Value → Shared → Prop} {Q₁ : Value → Shared → Prop} (h : Q₁ (.ref s.heap.objs.size) { s with heap := s.heap.push (newSetObj w) }) :
    codeAny (model prog w) A (.call (.builtin "set.__new__") ⟨[.type "set", a], []⟩) (wants Q₁ E) s := by
  refine codeAny_of_tree ?_
  show wpAny _ A.in1 (do checkBuiltinCall "set.__new__" ⟨[.type "set", a], []⟩; again (.builtin "set.__new__" ⟨[.type "set", a], []⟩)) _ _ s
  refine wpAny_bind (wpAny_of_eq (PySem.F.newCall_set_1 a) (wpAny_pure ⟨plainId_quiet PySem.F.plain_set_new _, codeAny_builtin PySem.F.entry_set_new ?_⟩))
  rw [Around.under_plainId PySem.F.plain_set_new _]
  unfold Builtin.«set.__new__» Builtin.Frozenset.newClass
  have hsub := sub_set_self
  obtain ⟨hp, g, d, tk, os⟩ := s
  dsimp only
  wp_walk
  refine wpAny_askSetting (wpAny_pure ?_)
  dsimp only
  simp only [newObj]
  refine wpAny_bind (wpAny_alloc (wpAny_pure ?_))
  exact wpAny_pure h

theorem setX_new (h : Heap) : SetX prog w (h.push (newSetObj w)) h.objs.size (fun _ => false) 0 :=
  ⟨_, #[], 0, _, Heap.get?_push_size _ rfl, ⟨rfl, rfl, rfl⟩, rfl, fun e he => by simp at he, fun k => by simp, by decide, by rfl, rfl, by
    cases e : w.params.followText "set-order"
    · exact .inr rfl
    · exact .inl rfl, .inl rfl⟩
theorem setX_congr {h : Heap} {a : Addr} {S S' : Str → Bool} {n : Nat} (x : SetX prog w h a S n) (e : ∀ k, S k = S' k) : SetX prog w h a S' n := by
  have : S = S' := funext e
  subst this; exact x

/-- the loop that fills a set from a list of texts -/
theorem set_loop {E : Value → Shared → Prop} {S0 I D : Addr} {vs : List Value} {xs : List Str} (hh : A.handled = none) (hsi : StrsAre vs xs) (hne : D ≠ I) (hSI : S0 ≠ I) (hSD : S0 ≠ D) (hlen : xs.length + 1 < scanBound) {Q : Value → Shared → Prop} :
    ∀ (k i : Nat) (n : Nat) (s : Shared), xs.length - i = k → i ≤ xs.length → n ≤ i → s.heap.IsListIter I D i ∧ s.heap.IsList D vs.toArray → SetX prog w s.heap S0 (fun y => decide (y ∈ xs.take i)) n →
      (∀ s' n', Like s s' → n' ≤ xs.length → (∀ b o, b ≠ I → b ≠ S0 → s.heap.get? b = some o → s'.heap.get? b = some o) → SetX prog w s'.heap S0 (fun y => decide (y ∈ xs)) n' → Q .none s') →
      codeAny (model prog w) A (.builtin "set.update.loop" ⟨[.ref S0, .ref I], []⟩) (wants Q E) s := by
  have W := Walks.list (prog := prog) (w := w) (A := A.in1) hh I D hne vs.toArray
  have hvl := strsAre_length hsi
  intro k
  induction k with
  | zero =>
    intro i n s hk hi hn hst hS hQ
    have hin : i = xs.length := by omega
    subst hin
    refine codeAny_builtin PyProof.Rows.F.entry_set_update_loop ?_
    rw [Around.under_plainId PyProof.Rows.F.plain_set_update_loop _]
    show wpAny _ A.in1 (pyNext (.ref I) >>= _) _ _ s
    refine wpAny_bind (W.done s _ _ (by simpa [hvl] using hst) fun h' tk hk' => ?_)
    show wpAny _ A.in1 (ret Value.none) _ _ _
    refine wpAny_pure (hQ { s with heap := h', toks := tk } n ⟨rfl, rfl, rfl⟩ hn (fun b o h1 _ e => hk' b o (by simpa using h1) e) ?_)
    exact setX_congr (hS.at fun o e => hk' _ _ (by simpa using hSI) e) fun y => by rw [List.take_length]
  | succ k ih =>
    intro i n s hk hi hn hst hS hQ
    have hlt : i < xs.length := by omega
    refine codeAny_builtin PyProof.Rows.F.entry_set_update_loop ?_
    rw [Around.under_plainId PyProof.Rows.F.plain_set_update_loop _]
    show wpAny _ A.in1 (pyNext (.ref I) >>= _) _ _ s
    refine wpAny_bind (W.item i s _ _ (by simp; omega) hst fun v h' tk hv hst' hk' => ?_)
    obtain ⟨y, t, rfl, hy⟩ := strsAre_get' hsi (by simpa using hv)
    show wpAny _ A.in1 (holding [Value.str y t] (setAdd S0 (.str y t)) >>= _) _ _ _
    refine wpAny_bind (wpAny_holding ((setAddX (s := { s with heap := h', toks := tk }) (hS.at fun o e => hk' _ _ (by simpa using hSI) e) (by omega) ?_).out _))
    intro s₂ n' b l₂ hn' Sb hS₂
    refine wpAny_pure ⟨plainId_quiet PyProof.Rows.F.plain_set_update_loop _, ih (i + 1) n' s₂ (by omega) hlt (by omega) ⟨hst'.1.extBut Sb.extBut (Ne.symm hSI), hst'.2.extBut Sb.extBut (Ne.symm hSD)⟩ (setX_congr hS₂ fun z => ?_) ?_⟩
    · rw [List.take_add_one, hy]
      simp [List.mem_append]
    · intro s₃ n'' l₃ h1 h2 h3
      exact hQ s₃ n'' (Like.trans ⟨rfl, rfl, rfl⟩ (l₂.trans l₃)) h1 (fun b o hb1 hb2 e => h2 b o hb1 hb2 (Sb.extBut b o hb2 (hk' b o (by simpa using hb1) e))) h3

set_option maxHeartbeats 3200000 in
theorem call_set_strs {l : Addr} {xs : List Str} {Q : Value → Shared → Prop} (hh : A.handled = none) (g : Good s.heap l xs) (hb : xs.length + 1 < scanBound)
    (h : ∀ s' n, Like s s' → Kept s.heap s'.heap → n ≤ xs.length → SetX prog w s'.heap s.heap.objs.size (fun y => decide (y ∈ xs)) n → Q (.ref s.heap.objs.size) s') :
    Wp prog w A (call (.type "set") [.ref l]) Q s := ⟨fun E => by
  obtain ⟨c, tl, hmro⟩ := PySem.F.called_set.mro
  have hmade := PySem.F.called_set.made
  have hsub := PySem.F.called_set.sub
  refine wpAny_call (codeAny_of_tree ?_)
  show wpAny _ _ (callAny (.type "set") _) _ _ _
  refine wpAny_pure ⟨Code.quiet_builtin _ (by decide +kernel), codeAny_builtin PySem.F.entry_type_call ?_⟩
  rw [Around.under_plain (weight_type_call_type "set" [.ref l] []) rfl]
  have h1 := PySem.F.called_set.notType
  have h2 := PySem.F.called_set.canCreate
  have hct := PySem.F.typeCall_set_1 (.ref l)
  repeat (any_goals (first | assumption | wp_step))
  refine codeAny_mono (set_new_1 (.ref l) (E := E) (Q₁ := fun obj s₁ => obj = .ref s.heap.objs.size ∧ s₁ = { s with heap := s.heap.push (newSetObj w) }) ⟨rfl, rfl⟩) fun r s₁ hr => ?_
  cases r with
  | error e => exact hr
  | ok fl =>
    cases fl with
    | ret obj =>
      obtain ⟨rfl, rfl⟩ := hr
      have hS : (s.heap.push (newSetObj w)).get? s.heap.objs.size = some (newSetObj w) := Heap.get?_push_size _ rfl
      have hT : Shared.TypeIs { s with heap := s.heap.push (newSetObj w) } (.ref s.heap.objs.size) "set" := ⟨_, hS, rfl⟩
      have hli := PySem.F.called_set.init.lookup
      have hbi := PySem.F.called_set.init.bind (.ref s.heap.objs.size)
      repeat (any_goals (first | assumption | wp_step))
      refine codeAny_mono (codeAny_call_builtin (R := wants (fun r s₂ => r = .none ∧ ∃ n, Like s s₂ ∧ Kept s.heap s₂.heap ∧ n ≤ xs.length ∧ SetX prog w s₂.heap s.heap.objs.size (fun y => decide (y ∈ xs)) n) E) PySem.F.called_set.init.plain PySem.F.entry_set_init (check_set_init_1 hT ?_)) fun r₂ s₂ hr₂ => ?_
      · obtain ⟨vs, ⟨nl, hol⟩, hsi⟩ := g
        have hol' : (s.heap.push (newSetObj w)).get? l = some { cls := .type "list", data := .seq vs.toArray nl } := Heap.get?_push_of_some _ hol
        have hsls := PySem.F.sub_list_set
        have hslf := PySem.F.sub_list_frozenset
        have hne : (Value.type "list" == Value.type "dict") = false := by decide
        have hl1 : (s.heap.push (newSetObj w)).IsList l vs.toArray := ⟨_, hol', rfl, nl, rfl⟩
        unfold Builtin.«set.__init__» noKeywords Builtin.Frozenset.updateFrom
        generalize hPI : pyIter = PI
        wp_walk
        subst hPI
        refine wpAny_pyIter_list hl1 ?_
        refine wpAny_bind (wpAny_runValue ?_)
        have hlS : @LT.lt Nat _ l s.heap.objs.size := Heap.lt_size hol
        have hh3 : A.in1.in1.in1.handled = none := by simp [hh]
        have hneI : l ≠ (s.heap.push (newSetObj w)).objs.size := by
          rw [Heap.size_push]; exact neN (by omega)
        have hSI : s.heap.objs.size ≠ (s.heap.push (newSetObj w)).objs.size := by rw [Heap.size_push]; exact neN (by omega)
        refine codeAny_mono (set_loop (E := E) (prog := prog) (w := w) (Q := fun r s₂ => r = .none ∧ ∃ n, Like s s₂ ∧ Kept s.heap s₂.heap ∧ n ≤ xs.length ∧ SetX prog w s₂.heap s.heap.objs.size (fun y => decide (y ∈ xs)) n) (by simp [hh]) hsi hneI hSI (neN (by omega)) hb (xs.length - 0) 0 0 _ (by omega) (Nat.zero_le _) (Nat.le_refl _)
          ⟨⟨_, Heap.get?_push_size _ rfl, rfl, rfl⟩, (hl1.push _)⟩ ((setX_congr (setX_new _) fun y => by simp).at fun o e => Heap.get?_push_of_some _ e) ?_) fun r s₂ hr => ?_
        · intro s' n' l' hn' hk' hX
          refine ⟨rfl, n', Like.trans ⟨rfl, rfl, rfl⟩ l', fun b o e => ?_, hn', hX⟩
          have hbl := ltN (Heap.lt_size e)
          exact hk' b o (by rw [Heap.size_push]; exact neN (by omega)) (neN (by omega)) (Heap.get?_push_of_some _ (Heap.get?_push_of_some _ e))
        · rcases r with e | (_ | _ | _ | v)
          · exact hr
          · exact hr.elim
          · exact hr.elim
          · exact hr.elim
          · obtain ⟨rfl, hr⟩ := hr
            show wpAny _ _ _ _ _ _
            refine wpAny_pure ?_
            show wpAny _ _ (ret Value.none) _ _ _
            exact wpAny_pure ⟨rfl, hr⟩
      · cases r₂ with
        | error e => exact hr₂
        | ok fl₂ =>
          cases fl₂ with
          | ret r =>
            obtain ⟨rfl, n, hl, hk, hn, hX⟩ := hr₂
            repeat (any_goals (first | assumption | wp_step))
            exact h _ _ hl hk hn hX
          | _ => exact hr₂.elim
    | _ => exact hr.elim⟩
end

theorem slot_setiter_next : Slot "set_iterator" "__next__" "set_iterator.__next__" :=
  .of (owner := "set_iterator") (n := "__next__") (by rw [typeLookup_type, builtinLookup_eq_fast]; kernel_rfl) (by decide +kernel) (by decide +kernel) (by decide +kernel)
    (by first | exact .inl (by decide +kernel) | exact .inr (by decide +kernel)) (by rw [isSubtype_type]; kernel_rfl)
theorem entry_setiter_next : entryFor table "set_iterator.__next__" = some Builtin.«set_iterator.__next__» := entryFor_of_tree (by kernel_rfl)
theorem args_setiter_next (a : Value) : argsOk "set_iterator.__next__" ⟨[a], []⟩ := by unfold argsOk; kernel_rfl
theorem entry_set_iter : entryFor table "set.__iter__" = some Builtin.«frozenset.__iter__» :=
  entryFor_alias (id' := "frozenset.__iter__") (by kernel_rfl) rfl (by decide +kernel) (by kernel_rfl)

theorem erase_perm {α : Type} : ∀ {l : List α} {i : Nat} (h : i < l.length), (l[i] :: l.eraseIdx i).Perm l
  | a :: l, 0, _ => .refl _
  | a :: l, i + 1, h => by
    have ih := erase_perm (l := l) (i := i) (by simpa using h)
    simp only [List.getElem_cons_succ, List.eraseIdx_cons_succ]
    exact (List.Perm.swap ..).trans (ih.cons a)

/-- the world's other parts, but for its draws -/
def LikeO (s s' : Shared) : Prop := s'.os = s.os ∧ s'.gens = s.gens
theorem Like.o {s s' : Shared} (l : Like s s') : LikeO s s' := ⟨l.1, l.2.1⟩
theorem LikeO.refl (s : Shared) : LikeO s s := ⟨rfl, rfl⟩
theorem LikeO.trans {a b c : Shared} (x : LikeO a b) (y : LikeO b c) : LikeO a c := ⟨y.1.trans x.1, y.2.trans x.2⟩

def SetIt (h : Heap) (I a : Addr) (first : Value) (i n ep : Nat) : Prop :=
  ∃ o, h.get? I = some o ∧ o.cls = .type "set_iterator" ∧ o.data = .fields #[first, .int i 0, .ref a, .int n 0, .int ep 0]
def SetAt (h : Heap) (a : Addr) (es : Array (Int × Value)) (ep : Nat) (t : SetTable) : Prop := ∃ o, h.get? a = some o ∧ o.data = .set es ep t ∧ t.fits es.size = true
theorem SetIt.typeIs {s : Shared} {I a first i n ep} (x : SetIt s.heap I a first i n ep) : s.TypeIs (.ref I) "set_iterator" := let ⟨o, ho, hc, _⟩ := x; ⟨o, ho, hc⟩

section
variable {M : Model} {α : Type} {prog : Program} {w : World} {mg mb : Str → Option Value} {A : Around} {s : Shared} {env : Env} {E : Value → Shared → Prop}

theorem wpAny_ifn {c : Prop} [Decidable c] {x y : Sem α} {Q : α → Shared → Prop} (hc : ¬ c) (h : wpAny M A y Q E s) : wpAny M A (if c then x else y) Q E s := by rw [if_neg hc]; exact h
theorem wpAny_ifp {c : Prop} [Decidable c] {x y : Sem α} {Q : α → Shared → Prop} (hc : c) (h : wpAny M A x Q E s) : wpAny M A (if c then x else y) Q E s := by rw [if_pos hc]; exact h
theorem wpAny_choose {src : Source} {n : Nat} {Q : Nat → Shared → Prop} (hn : n ≠ 0) (h : ∀ i d, i < n → Q i { s with drawn := d }) : wpAny M A (choose src n) Q E s := fun _ _ _ => by
  unfold choose
  rw [Sem.wp_choose]
  exact ⟨hn, h _ _ (Nat.mod_lt _ (Nat.pos_of_ne_zero hn))⟩

theorem wpAny_drawOrder : ∀ (n : Nat) (xs : List α) (s : Shared), n = xs.length → ∀ {Q : List α → Shared → Prop}, (∀ ys d, ys.Perm xs → Q ys { s with drawn := d }) → wpAny M A (drawOrder n xs) Q E s
  | 0, xs, s, hn, Q, h => by
    have : xs = [] := List.length_eq_zero_iff.mp hn.symm
    subst this
    exact wpAny_pure (h [] s.drawn (.refl _))
  | n + 1, [], s, hn, Q, h => by simp at hn
  | n + 1, x :: xs, s, hn, Q, h => by
    unfold drawOrder
    refine wpAny_bind (wpAny_choose (by simp) fun i d hi => ?_)
    rw [List.getElem?_eq_getElem hi]
    dsimp only
    refine wpAny_bind (wpAny_drawOrder n _ _ (by rw [List.length_eraseIdx_of_lt hi]; omega) fun ys d' hp => ?_)
    exact wpAny_pure (h _ d' ((hp.cons _).trans (erase_perm hi)))

theorem pickGo_perm {next : Nat → Nat} : ∀ (fuel k : Nat) (left : List α) (out : Array α), fuel = left.length → (pickOrder.go next fuel k left out).toList.Perm (out.toList ++ left)
  | 0, k, left, out, h => by
    have : left = [] := List.length_eq_zero_iff.mp h.symm
    subst this; simp [pickOrder.go]
  | fuel + 1, k, left, out, h => by
    have hi : next k % left.length < left.length := Nat.mod_lt _ (by omega)
    unfold pickOrder.go
    rw [List.getElem?_eq_getElem hi]
    dsimp only
    refine (pickGo_perm fuel (k + 1) _ _ (by rw [List.length_eraseIdx_of_lt hi]; omega)).trans ?_
    rw [Array.toList_push, List.append_assoc]
    exact List.Perm.append_left _ (erase_perm hi)
theorem pickOrder_perm (next : Nat → Nat) (xs : Array α) : (pickOrder next xs).toList.Perm xs.toList := by
  have := pickGo_perm (next := next) xs.size 0 xs.toList #[] (by simp)
  simpa [pickOrder] using this

/-- a step of a set's iterator that keeps a slot -/
theorem setit_item {I a : Addr} {k i n ep next : Nat} {es : Array (Int × Value)} {t : SetTable} {x : Value} {Q : Option Value → Shared → Prop} (hit : SetIt s.heap I a (.int k 0) i n ep) (hs : SetAt s.heap a es ep t) (hn : es.size = n)
    (hx : ∀ {A : Around} {E} {Q : Option (Value × Nat) → Shared → Prop}, Q (some (x, next)) s → wpAny (model prog w) A (setNext a k i ep) Q E s)
    (hQ : ∀ h', SetIt h' I a (.int next 0) (i + 1) n ep → Heap.SameBut I s.heap h' → Q (some x) { s with heap := h' }) :
    wpAny (model prog w) A (pyNext (.ref I)) Q E s := by
  obtain ⟨o, ho, hc, hd⟩ := id hit
  obtain ⟨os, hos, hds, hf⟩ := id hs
  unfold pyNext
  refine wpAny_bind (wpAny_attempt (wpAny_callSpecial?_slot (name := Str.ofString "__next__") hit.typeIs slot_setiter_next
    (wpAny_call_entry slot_setiter_next hit.typeIs entry_setiter_next ?_ (args_setiter_next _))))
  unfold Builtin.«set_iterator.__next__»
  refine wpAny_bind (m := slotArgs "__next__" 0 ⟨[.ref I], []⟩) (wpAny_of_eq (a := (.ref I, [])) rfl ?_)
  refine wpAny_bind (wpAny_fieldsOf ho hd ?_)
  dsimp only
  unfold setEntries
  refine wpAny_bind (wpAny_bind (wpAny_setState_of hos hds hf (wpAny_pure ?_)))
  dsimp only
  refine wpAny_ifn (by simp [hn]) ?_
  simp only [Int.toNat_natCast]
  refine wpAny_bind (hx ?_)
  dsimp only
  refine wpAny_bind (wpAny_setField ho hd (by simp) ?_)
  have hd1 := Obj.data_mapFields hd (·.setIfInBounds 0 (rawInt (next : Int)))
  have ho1 := Heap.get?_update_self (Obj.mapFields (·.setIfInBounds 0 (rawInt (next : Int)))) ho (Obj.isFreed_of_fields hd1)
  refine wpAny_bind (wpAny_setField (s := { s with heap := _ }) ho1 hd1 (by simp) ?_)
  refine wpAny_pure ⟨x, rfl, wpAny_pure (hQ _ ?_ ((Heap.SameBut.update ..).trans (Heap.SameBut.update ..)))⟩
  exact ⟨_, Heap.get?_update_self _ ho1 (Obj.isFreed_of_fields (Obj.data_mapFields hd1 _)), (Obj.cls_mapFields ..).trans ((Obj.cls_mapFields ..).trans hc), by
    rw [Obj.data_mapFields hd1]; simp [rawInt]⟩

/-- the end of a set's iterator that keeps a slot -/
theorem setit_end {I a : Addr} {k i n ep : Nat} {es : Array (Int × Value)} {t : SetTable} {Q : Option Value → Shared → Prop} (hh : A.handled = none) (hit : SetIt s.heap I a (.int k 0) i n ep) (hs : SetAt s.heap a es ep t) (hn : es.size = n)
    (hx : ∀ {A : Around} {E} {Q : Option (Value × Nat) → Shared → Prop}, Q none s → wpAny (model prog w) A (setNext a k i ep) Q E s)
    (hQ : ∀ h', Heap.ExtBut I s.heap h' → Q none { s with heap := h' }) :
    wpAny (model prog w) A (pyNext (.ref I)) Q E s := by
  obtain ⟨o, ho, hc, hd⟩ := id hit
  obtain ⟨os, hos, hds, hf⟩ := id hs
  unfold pyNext
  refine wpAny_bind (wpAny_attempt (wpAny_callSpecial?_slot (name := Str.ofString "__next__") hit.typeIs slot_setiter_next
    (wpAny_call_entry slot_setiter_next hit.typeIs entry_setiter_next ?_ (args_setiter_next _))))
  unfold Builtin.«set_iterator.__next__»
  refine wpAny_bind (m := slotArgs "__next__" 0 ⟨[.ref I], []⟩) (wpAny_of_eq (a := (.ref I, [])) rfl ?_)
  refine wpAny_bind (wpAny_fieldsOf ho hd ?_)
  dsimp only
  unfold setEntries
  refine wpAny_bind (wpAny_bind (wpAny_setState_of hos hds hf (wpAny_pure ?_)))
  dsimp only
  refine wpAny_ifn (by simp [hn]) ?_
  simp only [Int.toNat_natCast]
  refine wpAny_bind (hx ?_)
  dsimp only
  refine wpAny_bind (wpAny_setField ho hd (by simp) ?_)
  show wpAny _ _ (newExc (.type "StopIteration") [] >>= _) _ _ _
  refine wpAny_bind ?_
  simp only [newExc, newTuple]
  refine wpAny_bind (wpAny_newObj_type ?_ (by size_fits))
  refine wpAny_bind (m := firstArgMember _ _) (wpAny_of_eq (a := Value.none) (by first | rfl | (simp only [firstArgMember]; rfl)) ?_)
  refine wpAny_newObj_type ?_ (by size_fits)
  simp only [raiseNew]
  refine wpAny_bind (wpAny_handled ?_)
  rw [show A.in1.handled = none from hh]
  refine wpAny_bind (wpAny_pure (wpAny_throw ?_))
  refine wpAny_bind (wpAny_isInstance (T := "StopIteration") (b := true) ⟨_, Heap.get?_push_size _ rfl, rfl⟩ isSubtype_stop ?_)
  exact wpAny_pure (hQ _ (((Heap.SameBut.update ..).extBut.push _).push _))

/-- a step of a set's iterator by places drawn -/
theorem setit_drawn {I a T : Addr} {i n ep p : Nat} {h0 : Int} {places : Array Value} {es : Array (Int × Value)} {t : SetTable} {x : Value} {Q : Option Value → Shared → Prop} (hit : SetIt s.heap I a (.ref T) i n ep) (hs : SetAt s.heap a es ep t) (hn : es.size = n)
    (hT : s.heap.IsTuple T places) (hp : places[i]? = some (.int p 0)) (hx : es[p]? = some (h0, x))
    (hQ : ∀ h', SetIt h' I a (.ref T) (i + 1) n ep → Heap.SameBut I s.heap h' → Q (some x) { s with heap := h' }) :
    wpAny (model prog w) A (pyNext (.ref I)) Q E s := by
  obtain ⟨o, ho, hc, hd⟩ := id hit
  obtain ⟨os, hos, hds, hf⟩ := id hs
  unfold pyNext
  refine wpAny_bind (wpAny_attempt (wpAny_callSpecial?_slot (name := Str.ofString "__next__") hit.typeIs slot_setiter_next
    (wpAny_call_entry slot_setiter_next hit.typeIs entry_setiter_next ?_ (args_setiter_next _))))
  unfold Builtin.«set_iterator.__next__»
  refine wpAny_bind (m := slotArgs "__next__" 0 ⟨[.ref I], []⟩) (wpAny_of_eq (a := (.ref I, [])) rfl ?_)
  refine wpAny_bind (wpAny_fieldsOf ho hd ?_)
  dsimp only
  unfold setEntries
  refine wpAny_bind (wpAny_bind (wpAny_setState_of hos hds hf (wpAny_pure ?_)))
  dsimp only
  refine wpAny_ifn (by simp [hn]) ?_
  obtain ⟨oT, hoT, _, nT, hdT⟩ := hT
  refine wpAny_bind (wpAny_seqItems hoT hdT ?_)
  simp only [Int.toNat_natCast, hp]
  unfold setNextDrawn
  refine wpAny_bind (wpAny_bind (wpAny_setState_of hos hds hf ?_))
  dsimp only
  refine wpAny_ifn (by simp) ?_
  simp only [hx]
  refine wpAny_pure ?_
  refine wpAny_bind (wpAny_setField ho hd (by simp) ?_)
  refine wpAny_pure ⟨x, rfl, wpAny_pure (hQ _ ?_ (Heap.SameBut.update ..))⟩
  exact ⟨_, Heap.get?_update_self _ ho (Obj.isFreed_of_fields (Obj.data_mapFields hd _)), (Obj.cls_mapFields ..).trans hc, by
    rw [Obj.data_mapFields hd]; simp [rawInt]⟩

theorem setit_drawn_end {I a T : Addr} {i n ep : Nat} {places : Array Value} {es : Array (Int × Value)} {t : SetTable} {Q : Option Value → Shared → Prop} (hh : A.handled = none) (hit : SetIt s.heap I a (.ref T) i n ep) (hs : SetAt s.heap a es ep t) (hn : es.size = n)
    (hT : s.heap.IsTuple T places) (hp : places[i]? = none)
    (hQ : ∀ h', Heap.ExtBut I s.heap h' → Q none { s with heap := h' }) :
    wpAny (model prog w) A (pyNext (.ref I)) Q E s := by
  obtain ⟨o, ho, hc, hd⟩ := id hit
  obtain ⟨os, hos, hds, hf⟩ := id hs
  unfold pyNext
  refine wpAny_bind (wpAny_attempt (wpAny_callSpecial?_slot (name := Str.ofString "__next__") hit.typeIs slot_setiter_next
    (wpAny_call_entry slot_setiter_next hit.typeIs entry_setiter_next ?_ (args_setiter_next _))))
  unfold Builtin.«set_iterator.__next__»
  refine wpAny_bind (m := slotArgs "__next__" 0 ⟨[.ref I], []⟩) (wpAny_of_eq (a := (.ref I, [])) rfl ?_)
  refine wpAny_bind (wpAny_fieldsOf ho hd ?_)
  dsimp only
  unfold setEntries
  refine wpAny_bind (wpAny_bind (wpAny_setState_of hos hds hf (wpAny_pure ?_)))
  dsimp only
  refine wpAny_ifn (by simp [hn]) ?_
  obtain ⟨oT, hoT, _, nT, hdT⟩ := hT
  refine wpAny_bind (wpAny_seqItems hoT hdT ?_)
  simp only [Int.toNat_natCast, hp]
  refine wpAny_bind (wpAny_setField ho hd (by simp) ?_)
  have hd1 := Obj.data_mapFields hd (·.setIfInBounds 0 (rawInt 0))
  have ho1 := Heap.get?_update_self (Obj.mapFields (·.setIfInBounds 0 (rawInt 0))) ho (Obj.isFreed_of_fields hd1)
  refine wpAny_bind (wpAny_setField (s := { s with heap := _ }) ho1 hd1 (by simp) ?_)
  show wpAny _ _ (newExc (.type "StopIteration") [] >>= _) _ _ _
  refine wpAny_bind ?_
  simp only [newExc, newTuple]
  refine wpAny_bind (wpAny_newObj_type ?_ (by size_fits))
  refine wpAny_bind (m := firstArgMember _ _) (wpAny_of_eq (a := Value.none) (by first | rfl | (simp only [firstArgMember]; rfl)) ?_)
  refine wpAny_newObj_type ?_ (by size_fits)
  simp only [raiseNew]
  refine wpAny_bind (wpAny_handled ?_)
  rw [show A.in1.handled = none from hh]
  refine wpAny_bind (wpAny_pure (wpAny_throw ?_))
  refine wpAny_bind (wpAny_isInstance (T := "StopIteration") (b := true) ⟨_, Heap.get?_push_size _ rfl, rfl⟩ isSubtype_stop ?_)
  exact wpAny_pure (hQ _ ((((Heap.SameBut.update ..).trans (Heap.SameBut.update ..)).extBut.push _).push _))

/-- what the next slot gives where sets are walked by the text -/
theorem setNext_text {a : Addr} {k i ep : Nat} {es : Array (Int × Value)} {t : SetTable} (hs : SetAt s.heap a es ep t) (hb : w.params.followText "set-order" = true) {Q : Option (Value × Nat) → Shared → Prop}
    (h : Q (((pickOrder (w.params.setOrder a ep) es)[i]?).map fun e => (e.2, k)) s) : wpAny (model prog w) A (setNext a k i ep) Q E s := by
  obtain ⟨os, hos, hds, hf⟩ := id hs
  unfold setNext setsByText setWalk setsByText
  refine wpAny_bind (wpAny_setState_of hos hds hf ?_)
  dsimp only
  refine wpAny_bind (wpAny_bind (wpAny_askSetting (wpAny_pure ?_)))
  refine wpAny_ifp hb ?_
  refine wpAny_ifn (by simp) ?_
  refine wpAny_bind (wpAny_bind (wpAny_setState_of hos hds hf ?_))
  dsimp only
  refine wpAny_bind (wpAny_bind (wpAny_askSetting (wpAny_pure ?_)))
  refine wpAny_ifp hb ?_
  refine wpAny_bind (wpAny_askSetting (wpAny_pure ?_))
  exact wpAny_pure h

/-- what the next slot gives in a set of at most one -/
theorem setNext_one {a : Addr} {k i ep : Nat} {es : Array (Int × Value)} {t : SetTable} (hs : SetAt s.heap a es ep t) (hb : w.params.followText "set-order" = false) (h1 : es.size ≤ 1) (hl : t.led = true) {Q : Option (Value × Nat) → Shared → Prop}
    (h : Q (match es[SetTable.below t.place k]?, t.place[SetTable.below t.place k]? with
    | some (_, x), some j => some (x, j + 1)
    | _, _ => none) s) : wpAny (model prog w) A (setNext a k i ep) Q E s := by
  obtain ⟨os, hos, hds, hf⟩ := id hs
  unfold setNext setsByText
  refine wpAny_bind (wpAny_setState_of hos hds hf ?_)
  dsimp only
  refine wpAny_bind (wpAny_bind (wpAny_askSetting (wpAny_pure ?_)))
  refine wpAny_ifn (show ¬ (w.params.followText "set-order" = true) by simp [hb]) ?_
  refine wpAny_ifn (show ¬ ((!t.plain && decide (es.size > 1)) = true) by simp; omega) ?_
  refine wpAny_bind ?_
  refine wpAny_ifn (show ¬ ((!t.led && !es.isEmpty) = true) by simp [hl]) ?_
  refine wpAny_pure (wpAny_pure ?_)
  exact h

/-- an iterator's steps -/
structure Steps (prog : Program) (w : World) (A : Around) (I : Addr) (fp : List Addr) (n : Nat) (P : Nat → Value → Prop) (St : Nat → Heap → Prop) : Prop where
  frame : ∀ i h h', St i h → (∀ b ∈ fp, ∀ o, h.get? b = some o → h'.get? b = some o) → St i h'
  item : ∀ i (s : Shared) (Q : Option Value → Shared → Prop) (E : Value → Shared → Prop), i < n → St i s.heap →
    (∀ v h' tk, P i v → St (i + 1) h' → (∀ b o, b ≠ I → s.heap.get? b = some o → h'.get? b = some o) → Q (some v) { s with heap := h', toks := tk }) → wpAny (model prog w) A (pyNext (.ref I)) Q E s
  done : ∀ (s : Shared) (Q : Option Value → Shared → Prop) (E : Value → Shared → Prop), St n s.heap →
    (∀ h' tk, (∀ b o, b ≠ I → s.heap.get? b = some o → h'.get? b = some o) → Q none { s with heap := h', toks := tk }) → wpAny (model prog w) A (pyNext (.ref I)) Q E s

/-- a for over anything that steps, by an invariant over the state -/
theorem for_steps {Q : Flow → Shared → Prop} {target : Expr} {body : List Stmt} {I : Addr} {fp : List Addr} {n : Nat} {P : Nat → Value → Prop} {St : Nat → Heap → Prop}
    (W : Steps prog w A I fp n P St) (J : Nat → Shared → Prop)
    (hJ : ∀ i s s', J i s → Like s s' → (∀ b o, b ≠ I → s.heap.get? b = some o → s'.heap.get? b = some o) → J i s')
    (hst : St 0 s.heap) (h0 : J 0 s)
    (turn : ∀ i v s₁, i < n → P i v → St (i + 1) s₁.heap → J i s₁ →
      Wp prog w A (assign target env v) (fun _ s₂ => Wp prog w A (execs body env) (fun f s₃ => match f with
        | .next | .cont => St (i + 1) s₃.heap ∧ J (i + 1) s₃
        | .brk => Q .next s₃
        | .ret v => Q (.ret v) s₃) s₂) s₁)
    (hend : ∀ s', J n s' → Q .next s')
    (ht : ∀ v, letOwnedTupleGo target (.ref I) v = pure () := by intro _; rfl) :
    ForW prog w A target (.ref I) body env Q s := ⟨fun E => by
  refine codeAny_forLoop (fun k s' => ∃ i, i ≤ n ∧ k = n + 1 - i ∧ St i s'.heap ∧ J i s') ?_ (n + 1) ⟨0, Nat.zero_le _, rfl, hst, h0⟩ ht
  rintro k s' ⟨i, hi, rfl, hst', hj⟩
  by_cases hlt : i < n
  · refine W.item i s' _ _ hlt hst' fun v h' tk hp hst₁ hk => ?_
    have hj' : J i { s' with heap := h', toks := tk } := hJ i s' _ hj ⟨rfl, rfl, rfl⟩ hk
    refine wpAny_mono ((turn i v _ hlt hp hst₁ hj').out (fun _ _ => False)) (fun _ s₂ h₂ => ?_) fun _ _ x => x.elim
    refine wpAny_mono (h₂.out (fun _ _ => False)) (fun f s₃ h₃ => ?_) fun _ _ x => x.elim
    cases f with
    | next => exact ⟨n + 1 - (i + 1), by omega, i + 1, hlt, rfl, h₃⟩
    | cont => exact ⟨n + 1 - (i + 1), by omega, i + 1, hlt, rfl, h₃⟩
    | brk => exact h₃
    | ret v => exact h₃
  · have hin : i = n := by omega
    subst hin
    refine W.done s' _ _ hst' fun h' tk hk => wpAny_execs_nil (hend { s' with heap := h', toks := tk } (hJ i s' _ hj ⟨rfl, rfl, rfl⟩ hk))⟩

theorem SetIt.at {h h' : Heap} {I a first i n ep} (x : SetIt h I a first i n ep) (k : ∀ o, h.get? I = some o → h'.get? I = some o) : SetIt h' I a first i n ep := let ⟨o, e, r⟩ := x; ⟨o, k _ e, r⟩
theorem SetAt.at {h h' : Heap} {a es ep t} (x : SetAt h a es ep t) (k : ∀ o, h.get? a = some o → h'.get? a = some o) : SetAt h' a es ep t := let ⟨o, e, r⟩ := x; ⟨o, k _ e, r⟩

theorem steps_text {I a : Addr} {ep : Nat} {es : Array (Int × Value)} {t : SetTable} (hh : A.handled = none) (hne : a ≠ I) (hb : w.params.followText "set-order" = true) :
    Steps prog w A I [I, a] es.size (fun i v => (((pickOrder (w.params.setOrder a ep) es)[i]?).map (·.2)) = some v) (fun i h => SetIt h I a (.int (0 : Nat) 0) i es.size ep ∧ SetAt h a es ep t) where
  frame := fun _ _ _ st hk => ⟨st.1.at fun o e => hk I (by simp) o e, st.2.at fun o e => hk a (by simp) o e⟩
  item := fun i s Q E hi st hQ => by
    have hlen : (pickOrder (w.params.setOrder a ep) es).size = es.size := by simpa using (pickOrder_perm (w.params.setOrder a ep) es).length_eq
    have hg : (pickOrder (w.params.setOrder a ep) es)[i]? = some ((pickOrder (w.params.setOrder a ep) es)[i]'(by omega)) := by simp [hlen, hi]
    refine setit_item (x := ((pickOrder (w.params.setOrder a ep) es)[i]'(by omega)).2) (next := 0) st.1 st.2 rfl (fun hq => setNext_text st.2 hb ?_) fun h' hit' hs' => ?_
    · rw [hg]; exact hq
    · exact hQ _ h' s.toks (by rw [hg]; rfl) ⟨hit', st.2.at fun o e => hs'.extBut _ _ hne e⟩ fun b o hb e => hs'.extBut b o hb e
  done := fun s Q E st hQ => by
    have hlen : (pickOrder (w.params.setOrder a ep) es).size = es.size := by simpa using (pickOrder_perm (w.params.setOrder a ep) es).length_eq
    refine setit_end hh st.1 st.2 rfl (fun hq => setNext_text st.2 hb ?_) fun h' he' => hQ h' s.toks fun b o hb e => he' b o hb e
    rw [Array.getElem?_eq_none (by omega)]; exact hq

theorem one_of_size : ∀ {xs : Array Nat}, xs.size = 1 → ∃ j, xs = #[j]
  | ⟨[j]⟩, _ => ⟨j, rfl⟩
theorem below_one (j k : Nat) : SetTable.below #[j] k = if j < k then 1 else 0 := by
  unfold SetTable.below
  simp [SetTable.below.go]

theorem steps_one {I a : Addr} {ep : Nat} {es : Array (Int × Value)} {t : SetTable} (hh : A.handled = none) (hne : a ≠ I) (hb : w.params.followText "set-order" = false) (h1 : es.size ≤ 1) (hl : t.led = true) :
    Steps prog w A I [I, a] es.size (fun i v => ((es[i]?).map (·.2)) = some v) (fun i h => SetIt h I a (.int ((if i = 0 then 0 else t.place.getD 0 0 + 1 : Nat)) 0) i es.size ep ∧ SetAt h a es ep t) where
  frame := fun _ _ _ st hk => ⟨st.1.at fun o e => hk I (by simp) o e, st.2.at fun o e => hk a (by simp) o e⟩
  item := fun i s Q E hi st hQ => by
    have hi0 : i = 0 := by omega
    subst hi0
    obtain ⟨os, hos, hds, hf⟩ := id st.2
    have hpl : t.place.size = 1 := by
      simp only [SetTable.fits, Bool.and_eq_true, beq_iff_eq, decide_eq_true_eq] at hf
      omega
    obtain ⟨pl, hplE⟩ : ∃ j, t.place = #[j] := one_of_size hpl
    have hg : es[0]? = some (es[0]) := by simp [hi]
    refine setit_item (x := (es[0]).2) (next := pl + 1) st.1 st.2 rfl (fun hq => setNext_one st.2 hb h1 hl ?_) fun h' hit' hs' => ?_
    · rw [hplE]
      simp only [below_one]
      simpa [hg] using hq
    · exact hQ _ h' s.toks (by rw [hg]; rfl) ⟨by simpa [hplE] using hit', st.2.at fun o e => hs'.extBut _ _ hne e⟩ fun b o hb e => hs'.extBut b o hb e
  done := fun s Q E st hQ => by
    refine setit_end hh st.1 st.2 rfl (fun hq => setNext_one st.2 hb h1 hl ?_) fun h' he' => hQ h' s.toks fun b o hb e => he' b o hb e
    obtain ⟨os, hos, hds, hf⟩ := id st.2
    have hpl : t.place.size = es.size := by
      simp only [SetTable.fits, Bool.and_eq_true, beq_iff_eq, decide_eq_true_eq] at hf
      omega
    by_cases h0 : es.size = 0
    · rw [Array.getElem?_eq_none (by omega)]; exact hq
    · have h1' : es.size = 1 := by omega
      obtain ⟨pl, hplE⟩ : ∃ j, t.place = #[j] := one_of_size (hpl.trans h1')
      rw [hplE]
      simp only [if_neg h0, below_one]
      simpa [h1'] using hq

theorem steps_drawn {I a T : Addr} {ep : Nat} {es : Array (Int × Value)} {t : SetTable} {ps : List Nat} (hh : A.handled = none) (hne : a ≠ I) (hTI : T ≠ I) (hps : ps.Perm (List.range es.size)) :
    Steps prog w A I [I, a, T] es.size (fun i v => ((ps[i]?).bind fun p => (es[p]?).map (·.2)) = some v) (fun i h => SetIt h I a (.ref T) i es.size ep ∧ SetAt h a es ep t ∧ h.IsTuple T (ps.map fun (i : Nat) => rawInt i).toArray) where
  frame := fun _ _ _ st hk => ⟨st.1.at fun o e => hk I (by simp) o e, st.2.1.at fun o e => hk a (by simp) o e, let ⟨o, e, r⟩ := st.2.2; ⟨o, hk T (by simp) o e, r⟩⟩
  item := fun i s Q E hi st hQ => by
    have hlen : ps.length = es.size := by simpa using hps.length_eq
    have hip : i < ps.length := by omega
    have hpm : ps[i] < es.size := by
      have := hps.mem_iff.mp (List.getElem_mem hip)
      simpa using this
    refine setit_drawn (p := ps[i]) (h0 := (es[ps[i]]).1) (x := (es[ps[i]]).2) st.1 st.2.1 rfl st.2.2 (by simp [hip, rawInt]) (by simp [hpm]) fun h' hit' hs' => ?_
    exact hQ _ h' s.toks (by simp [hip, hpm]) ⟨hit', st.2.1.at fun o e => hs'.extBut _ _ hne e, let ⟨o, e, r⟩ := st.2.2; ⟨o, hs'.extBut _ _ hTI e, r⟩⟩ fun b o hb e => hs'.extBut b o hb e
  done := fun s Q E st hQ => by
    have hlen : ps.length = es.size := by simpa using hps.length_eq
    exact setit_drawn_end hh st.1 st.2.1 rfl st.2.2 (by simp [hlen]) fun h' he' => hQ h' s.toks fun b o hb e => he' b o hb e

theorem keys_of {es : Array (Int × Value)} {S : Str → Bool} (hel : ElemsOf (PySem.strKind prog w) es.toList) (hmem : ∀ k, S k = true ↔ ∃ e ∈ es.toList, (PySem.strKind prog w).is k e.2 = true)
    {vs : List Value} (hp : vs.Perm (es.toList.map (·.2))) : ∃ σ : List Str, StrsAre vs σ ∧ ∀ k, S k = true ↔ k ∈ σ := by
  have all : ∀ v ∈ vs, ∃ k t, v = .str k t := fun v hv => by
    obtain ⟨e, he, rfl⟩ := List.mem_map.mp (hp.mem_iff.mp hv)
    obtain ⟨⟨k, hk, _⟩, _⟩ := hel e he
    obtain ⟨t, ht⟩ := Value.isStrOf_shape hk
    exact ⟨k, t, ht⟩
  have mk : ∀ (vs : List Value), (∀ v ∈ vs, ∃ k t, v = .str k t) → ∃ σ : List Str, StrsAre vs σ := by
    intro vs
    induction vs with
    | nil => exact fun _ => ⟨[], .nil⟩
    | cons v vs ih =>
      intro h
      obtain ⟨σ, hσ⟩ := ih fun v hv => h v (List.mem_cons_of_mem _ hv)
      obtain ⟨k, t, rfl⟩ := h v (List.mem_cons_self ..)
      exact ⟨k :: σ, .cons k t hσ⟩
  obtain ⟨σ, hσ⟩ := mk vs all
  refine ⟨σ, hσ, fun k => (hmem k).trans ⟨fun ⟨e, he, hk⟩ => ?_, fun hk => ?_⟩⟩
  · obtain ⟨t, ht⟩ := Value.isStrOf_shape hk
    have : e.2 ∈ vs := hp.mem_iff.mpr (List.mem_map.mpr ⟨e, he, rfl⟩)
    obtain ⟨j, hj⟩ := List.getElem?_of_mem this
    obtain ⟨y, u, hy, hσj⟩ := strsAre_get' hσ hj
    rw [ht] at hy
    injection hy with hy
    subst hy
    exact List.mem_of_getElem? hσj
  · obtain ⟨j, hj⟩ := List.getElem?_of_mem hk
    obtain ⟨t, ht⟩ := strsAre_get hσ hj
    obtain ⟨e, he, h2⟩ := List.mem_map.mp (hp.mem_iff.mp (List.mem_of_getElem? ht))
    exact ⟨e, he, by rw [h2]; exact strKind_is prog w k t⟩

theorem Steps.congr {I : Addr} {fp : List Addr} {n n' : Nat} {P P' : Nat → Value → Prop} {St : Nat → Heap → Prop} (W : Steps prog w A I fp n P St) (hn : n' = n) (h : ∀ i v, i < n → P i v → P' i v) : Steps prog w A I fp n' P' St := by
  subst hn
  exact ⟨W.frame, fun i s Q E hi st hQ => W.item i s Q E hi st fun v h' tk hp => hQ v h' tk (h i v hi hp), W.done⟩

theorem SetX.typeIs {s : Shared} {a : Addr} {S : Str → Bool} {n : Nat} (x : SetX prog w s.heap a S n) : s.TypeIs (.ref a) "set" := x.setOf.typeIs

theorem filterMap_all {α β : Type} {f : α → Option β} {g : α → β} : ∀ {ps : List α}, (∀ p ∈ ps, f p = some (g p)) → ps.filterMap f = ps.map g
  | [], _ => rfl
  | p :: ps, h => by
    rw [List.filterMap_cons_some (h p (List.mem_cons_self ..)), List.map_cons, filterMap_all fun q hq => h q (List.mem_cons_of_mem _ hq)]
theorem range_pick {es : Array (Int × Value)} {ps : List Nat} (hps : ps.Perm (List.range es.size)) : (ps.filterMap fun p => (es[p]?).map (·.2)).Perm (es.toList.map (·.2)) ∧ ∀ i : Nat, (ps.filterMap fun p => (es[p]?).map (·.2))[i]? = (ps[i]?).bind fun p => (es[p]?).map (·.2) := by
  constructor
  · refine (hps.filterMap _).trans ?_
    have : (List.range es.size).filterMap (fun p => (es[p]?).map (·.2)) = es.toList.map (·.2) := by
      rw [filterMap_all (g := fun p => ((es[p]?).map (·.2)).getD .none) fun p hp => by
        have : p < es.size := by simpa using hp
        simp [this]]
      apply List.ext_getElem?
      intro i
      by_cases hi : i < es.size
      · simp [hi]
      · simp [hi]
    rw [this]
  · intro i
    have all : ∀ p ∈ ps, p < es.size := fun p hp => by simpa using hps.mem_iff.mp hp
    rw [filterMap_all (g := fun p => ((es[p]?).map (·.2)).getD .none) fun p hp => by simp [all p hp], List.getElem?_map]
    cases e : ps[i]? with
    | none => rfl
    | some p => simp [all p (List.mem_of_getElem? e)]

/-- a set of texts is walked, in whatever order -/
theorem iterSet {a : Addr} {S : Str → Bool} {n : Nat} {Q : Value → Shared → Prop} (hS : SetX prog w s.heap a S n) (hh : A.handled = none)
    (h : ∀ s' I fp St (σ : List Str), LikeO s s' → Kept s.heap s'.heap → s.heap.objs.size ≤ I → (∀ b ∈ fp, b = a ∨ s.heap.objs.size ≤ b) → (∀ k, S k = true ↔ k ∈ σ) →
      Steps prog w A I fp σ.length (fun i v => ∃ k t, σ[i]? = some k ∧ v = .str k t) St → St 0 s'.heap → Q (.ref I) s') :
    Wp prog w A (pyIter (.ref a)) Q s := ⟨fun E => by
  obtain ⟨o, es, ep, t, ho, hex, hd, hel, hmem, hb, hf, hn, hled, hplain⟩ := id hS
  have hat : SetAt s.heap a es ep t := ⟨o, ho, hd, hf⟩
  have hlt : @LT.lt Nat _ a s.heap.objs.size := Heap.lt_size ho
  refine wpAny_pyIter_slot hS.typeIs PySem.F.slot_set_iter (wpAny_call_entry PySem.F.slot_set_iter hS.typeIs entry_set_iter ?_ (PySem.F.args_set_iter_1 _))
  unfold Builtin.«frozenset.__iter__» Builtin.Frozenset.slot0 Builtin.Frozenset.sizeOf setEntries setDrawn setsByText setEpoch
  refine wpAny_bind (wpAny_bind (m := slotArgs "__iter__" 0 ⟨[.ref a], []⟩) (wpAny_of_eq (a := (.ref a, [])) rfl (wpAny_pure ?_)))
  refine wpAny_bind (wpAny_bind (wpAny_bind (wpAny_setState_of ho hd hf (wpAny_pure (wpAny_pure ?_)))))
  refine wpAny_bind (wpAny_bind (wpAny_setState_of ho hd hf ?_))
  dsimp only
  refine wpAny_bind (wpAny_bind (wpAny_askSetting (wpAny_pure (wpAny_pure ?_))))
  have hlk := slot_setiter_next.lookup
  by_cases hc : (!w.params.followText "set-order" && (!t.plain && decide (es.size > 1))) = true
  · refine wpAny_ifp hc ?_
    refine wpAny_bind (wpAny_drawOrder _ _ _ (by simp) fun ps d hps => ?_)
    have hlen : ps.length = es.size := by simpa using hps.length_eq
    refine wpAny_bind (wpAny_newTuple ?_ (by rw [List.length_map, hlen, sizeLine_eq]; have : scanBound = 4096 := rfl; omega))
    have ho' := Heap.get?_push_of_some { cls := .type "tuple", data := .seq (ps.map fun (i : Nat) => rawInt i).toArray } ho
    refine wpAny_bind (wpAny_bind (wpAny_setState_of ho' hd hf (wpAny_pure ?_)))
    dsimp only
    refine wpAny_bind (wpAny_newObj_type ?_)
    refine wpAny_pure ⟨_, rfl, "set_iterator", _, ⟨_, Heap.get?_push_size _ rfl, rfl⟩, hlk, ?_⟩
    obtain ⟨hp1, hp2⟩ := range_pick hps
    obtain ⟨σ, hσ, hm⟩ := keys_of hel hmem hp1
    have hl2 : σ.length = es.size := by
      rw [← strsAre_length hσ, hp1.length_eq]; simp
    refine h _ _ [_, a, s.heap.objs.size] _ σ ⟨rfl, rfl⟩ (fun b o e => Heap.get?_push_of_some _ (Heap.get?_push_of_some _ e)) (by simp) ?_ hm
      ((steps_drawn (I := (s.heap.push { cls := .type "tuple", data := .seq (ps.map fun (i : Nat) => rawInt i).toArray }).objs.size) (T := s.heap.objs.size) (ep := ep) (t := t) hh (neN (by rw [Heap.size_push]; omega)) (neN (by rw [Heap.size_push]; omega)) hps).congr hl2 fun i v hi hv => ?_) ?_
    rotate_left
    · rw [← hp2] at hv
      obtain ⟨y, u, hy, hy2⟩ := strsAre_get' hσ hv
      exact ⟨y, u, hy2, hy⟩
    rotate_right
    · intro b hb
      simp only [List.mem_cons, List.not_mem_nil, or_false] at hb
      rcases hb with rfl | rfl | rfl
      · right; simp
      · left; rfl
      · right; exact Nat.le_refl _
    · exact ⟨⟨_, Heap.get?_push_size _ rfl, rfl, rfl⟩, hat.at fun o e => Heap.get?_push_of_some _ (Heap.get?_push_of_some _ e), ⟨_, Heap.get?_push_of_some _ (Heap.get?_push_size _ rfl), rfl, _, rfl⟩⟩
  · refine wpAny_ifn hc ?_
    refine wpAny_bind (wpAny_pure ?_)
    refine wpAny_bind (wpAny_bind (wpAny_setState_of ho hd hf (wpAny_pure ?_)))
    dsimp only
    refine wpAny_bind (wpAny_newObj_type ?_)
    refine wpAny_pure ⟨_, rfl, "set_iterator", _, ⟨_, Heap.get?_push_size _ rfl, rfl⟩, hlk, ?_⟩
    have hfp : ∀ b ∈ [s.heap.objs.size, a], b = a ∨ s.heap.objs.size ≤ b := by
      intro b hb
      simp only [List.mem_cons, List.not_mem_nil, or_false] at hb
      rcases hb with rfl | rfl
      · right; exact Nat.le_refl _
      · left; rfl
    cases hbt : w.params.followText "set-order" with
    | true =>
      have hp1 : ((pickOrder (w.params.setOrder a ep) es).toList.map (·.2)).Perm (es.toList.map (·.2)) := (pickOrder_perm _ _).map _
      obtain ⟨σ, hσ, hm⟩ := keys_of hel hmem hp1
      have hl2 : σ.length = es.size := by
        rw [← strsAre_length hσ, hp1.length_eq]; simp
      refine h _ _ [_, a] _ σ ⟨rfl, rfl⟩ (fun b o e => Heap.get?_push_of_some _ e) (Nat.le_refl _) hfp hm
        ((steps_text (I := s.heap.objs.size) (ep := ep) (es := es) (t := t) hh (neN (by omega)) hbt).congr hl2 fun i v hi hv => ?_) ⟨⟨_, Heap.get?_push_size _ rfl, rfl, rfl⟩, hat.at fun o e => Heap.get?_push_of_some _ e⟩
      obtain ⟨y, u, hy, hy2⟩ := strsAre_get' hσ (j := i) (v := v) (by simpa using hv)
      exact ⟨y, u, hy2, hy⟩
    | false =>
      have h1 : es.size ≤ 1 := by
        rcases hplain with h0 | h0
        · omega
        · rw [hbt, h0] at hc; simp at hc; omega
      have hl : t.led = true := by rcases hled with h0 | h0; (rw [hbt] at h0; cases h0); exact h0
      obtain ⟨σ, hσ, hm⟩ := keys_of hel hmem (.refl _)
      have hl2 : σ.length = es.size := by
        rw [← strsAre_length hσ]; simp
      refine h _ _ [_, a] _ σ ⟨rfl, rfl⟩ (fun b o e => Heap.get?_push_of_some _ e) (Nat.le_refl _) hfp hm
        ((steps_one (I := s.heap.objs.size) (ep := ep) (es := es) (t := t) hh (neN (by omega)) hbt h1 hl).congr hl2 fun i v hi hv => ?_) ⟨⟨_, Heap.get?_push_size _ rfl, rfl, rfl⟩, hat.at fun o e => Heap.get?_push_of_some _ e⟩
      obtain ⟨y, u, hy, hy2⟩ := strsAre_get' hσ (j := i) (v := v) (by simpa using hv)
      exact ⟨y, u, hy2, hy⟩⟩
end

/-- an _Ignore at X, its dict at D -/
def Ign (h : Heap) (X D : Addr) (m : Str → Option Value) : Prop := h.get? X = some (instObj 79 D) ∧ D ≠ X ∧ h.Ns1 D m
theorem Ign.inst {h : Heap} {X D m} (x : Ign h X D m) : h.Inst X 79 m := ⟨_, x.1, rfl, (fun _ e => by cases e), .inr ⟨D, rfl, x.2.1, x.2.2⟩⟩
theorem Ign.at {h h' : Heap} {X D m} (x : Ign h X D m) (k1 : ∀ o, h.get? X = some o → h'.get? X = some o) (k2 : ∀ o, h.get? D = some o → h'.get? D = some o) : Ign h' X D m :=
  ⟨k1 _ x.1, x.2.1, x.2.2.at k2⟩

theorem lk_mods : typeLookup (.type "object") (Str.ofString "_mods") = pure none := by rw [typeLookup_type, builtinLookup_eq_fast]; kernel_rfl
theorem lk_dirs : typeLookup (.type "object") (Str.ofString "_dirs") = pure none := by rw [typeLookup_type, builtinLookup_eq_fast]; kernel_rfl
theorem lk_ignore : typeLookup (.type "object") (Str.ofString "_ignore") = pure none := by rw [typeLookup_type, builtinLookup_eq_fast]; kernel_rfl
theorem lk_names : typeLookup (.type "object") (Str.ofString "names") = pure none := by rw [typeLookup_type, builtinLookup_eq_fast]; kernel_rfl

/-- what the class's namespace holds -/
structure ClsNs (h : Heap) (mN : Str → Option Value) : Prop where
  at_ : ClsAt h 79 78 mN
  ga : mN "__getattribute__" = none
  gh : mN "__getattr__" = none
  sa : mN "__setattr__" = none
  mods : mN "_mods" = none
  dirs : mN "_dirs" = none
  ignore : mN "_ignore" = none
  names : mN "names" = some (.ref 76)
  init : mN "__init__" = some (.ref 69)

section
variable {prog : Program} {w : World} {mg mb : Str → Option Value} {A : Around} {s : Shared} {env : Env}

theorem Host.cls {h : Heap} (H : Host w mg mb h) : ∃ mN, ClsNs h mN := by
  have h79 := H.K 79 _ rfl
  have h78 := H.K 78 _ rfl
  refine ⟨_, ⟨⟨_, _, _, _, _, _, _, _, _, _, _, _, h79⟩, ⟨_, _, _, h78, rfl, ?_, fun _ => rfl⟩⟩, ?_, ?_, ?_, ?_, ?_, ?_, ?_, ?_⟩
  · intro e he
    simp only [List.mem_toArray, List.mem_cons, List.not_mem_nil, or_false] at he
    rcases he with rfl | rfl | rfl | rfl | rfl | rfl | rfl | rfl <;> exact ⟨_, _, rfl⟩
  all_goals rfl

/-- a field is read -/
theorem getA {X D : Addr} {m : Str → Option Value} {name : Str} {v : Value} {x : Str} {xp pos : Pos} {Q : Value → Shared → Prop}
    (h : Wp prog w A (eval (.Name x xp) env) (fun o s₁ => o = .ref X ∧ Host w mg mb s₁.heap ∧ Ign s₁.heap X D m ∧ Q v { s₁ with toks := s₁.toks + 1 }) s)
    (hv : m name = some v) (hh : handedOut v = pure v) (hB : typeLookup (.type "object") name = pure none) (hna : ∀ {h mN}, ClsNs h mN → mN name = none)
    (he : eval (.Attribute (.Name x xp) name pos) env = (do
      let o ← eval (.Name x xp) env
      standAt pos.atName
      let r ← holding [o] (getAttr o name true)
      letTemporaryGo (.Name x xp) o r
      pure r) := by with_unfolding_all rfl) :
    Wp prog w A (eval (.Attribute (.Name x xp) name pos) env) Q s := ⟨fun E => by
  refine Attribute_Name_ (wpAny_mono (h.out E) (fun o s₁ h₁ => ?_) fun _ _ e => e) he
  obtain ⟨rfl, H, I, q⟩ := h₁
  obtain ⟨mN, C⟩ := H.cls
  obtain ⟨nm, qn, bs, sn, sub, col, dd, k0, k1, k2, k3, k5, hC⟩ := C.at_.obj
  obtain ⟨hh', g, d, t, os⟩ := s₁
  exact load_attr hC C.at_.ns C.ga (hna C) hB I.inst hv hh q⟩

/-- a field is stored -/
theorem setA {X D : Addr} {m : Str → Option Value} {name : Str} {v : Value} {ns : List Str} {Q : Unit → Shared → Prop} (H : Host w mg mb s.heap) (I : Ign s.heap X D m) (hX : 79 ≠ X)
    (hB : typeLookup (.type "object") name = pure none) (hna : ∀ {h mN}, ClsNs h mN → mN name = none) (hw : Within m ns) (hsz : ns.length ≤ 100)
    (h : ∀ s', Like s s' → Ign s'.heap X D (fun y => if y = name then some v else m y) → (∀ b o, b ≠ X → b ≠ D → s.heap.get? b = some o → s'.heap.get? b = some o) → Q () s') :
    Wp prog w A (setAttr (.ref X) name v) Q s := ⟨fun E => by
  obtain ⟨mN, C⟩ := H.cls
  obtain ⟨nm, qn, bs, sn, sub, col, dd, k0, k1, k2, k3, k5, hC⟩ := C.at_.obj
  obtain ⟨hp, g, d, t, os⟩ := s
  refine store_attr PySem.F.store_object hC C.at_.ns C.sa (hna C) hB (Ne.symm hX) I.inst (fun h' tk' I' hk hsame => ?_) hw (by rw [sizeLine_eq]; omega)
  refine h ⟨h', g, d, tk', os⟩ ⟨rfl, rfl, rfl⟩ ?_ fun b o hb1 hb2 e => hk b o hb1 (fun o₀ dx e1 e2 => ?_) e
  · obtain ⟨o₁, e1, e2, e3, e4, e5⟩ := hsame _ I.1
    have e6 := e5 D rfl
    have : o₁ = instObj 79 D := by
      obtain ⟨c, dd, dt, sl⟩ := o₁
      cases e2; cases e3; cases e4; cases e6; rfl
    subst this
    obtain ⟨o₂, f1, f2, f3, f4⟩ := I'
    rw [e1] at f1
    cases f1
    rcases f4 with ⟨f, _⟩ | ⟨d', f, f5, f6⟩
    · cases f
    · cases f
      exact ⟨e1, I.2.1, f6⟩
  · have := I.1
    rw [this] at e1
    cases e1; cases e2
    exact hb2⟩
theorem wAssignA {x attr : Str} {xp pos' pos : Pos} {value : Expr} {Q : Flow → Shared → Prop}
    (h : Wp prog w A (eval value env) (fun v s₁ => Wp prog w A (eval (.Name x xp) env) (fun ov s₂ => Wp prog w A (setAttr ov attr v) (fun _ => Q .next) s₂) s₁) s)
    (hs : swapsWith value (some (.Attribute (.Name x xp) attr pos')) pos.line env = pure false := by rfl) :
    Wp prog w A (exec (.Assign [.Attribute (.Name x xp) attr pos'] value pos) env) Q s :=
  ⟨fun E => plainObj_wpAny_Assign_Attribute (wpAny_mono (h.out E) (fun _ _ x => wpAny_mono (x.out E) (fun _ _ y => y.out E) fun _ _ e => e) fun _ _ e => e) hs⟩

/-- its method names -/
theorem methA {X D : Addr} {m : Str → Option Value} {pl : Sem Bool} {Q : Value × List Value → Shared → Prop} (H : Host w mg mb s.heap) (I : Ign s.heap X D m) (hm : m "names" = none) (h : Q (.ref 76, [.ref X]) s) :
    Wp prog w A (getMethod (.ref X) (Str.ofString "names") pl) Q s := ⟨fun E => by
  obtain ⟨mN, C⟩ := H.cls
  obtain ⟨nm, qn, bs, sn, sub, col, dd, k0, k1, k2, k3, k5, hC⟩ := C.at_.obj
  obtain ⟨hp, g, d, t, os⟩ := s
  exact method_of hC C.at_.ns C.ga C.gh C.names (H.K 76 _ rfl) rfl lk_names I.inst hm h⟩

/-- the class is called -/
theorem wCls {pos : Pos} {e : Expr} {rest : List Expr} {Q : Value → Shared → Prop} (H : Host w mg mb s.heap)
    (h : Wp prog w A (spliced (backTo pos (starEach (e :: rest) env))) (fun vs s₁ => Kept s.heap s₁.heap ∧ Wp prog w A (call (.ref 79) vs) Q s₁) s)
    (he : starEach (e :: rest) env = (false, eval e env) :: starEach rest env := by rfl)
    (hplain : (backTo pos (starEach rest env)).any (·.1) = false := by rfl) :
    Wp prog w A (callWith pos (.ref 79) [] (backTo pos (starEach (e :: rest) env)) []) Q s := ⟨fun E => by
  obtain ⟨mN, C⟩ := H.cls
  exact callWith_cls C.at_ (wpAny_mono (h.out E) (fun _ _ x => ⟨x.1, x.2.out E⟩) fun _ _ e => e) he hplain⟩

theorem makes79 : makesIn (Mine.hd.heap_39 w.params) 79 = true := by rfl
theorem make_call {rest : List Value} {body : List Stmt} {fd : FuncData} {oc : Value} {od : Option Addr} {osl : Array (Option Value)} {binds : List (Str × Value)} {Q : Value → Shared → Prop} (H : Host w mg mb s.heap)
    (ho : (Mine.hd.heap_39 w.params).lookup 69 = some ⟨oc, od, .func fd, osl⟩) (hcd : codeIn (Mine.hd.heap_39 w.params) fd.code fd.qualname = true)
    (hbody : fd.body = .stmts body) (hroom : A.depth + 1 < recursionLimit) (hbind : ∀ s', Kept s.heap s'.heap → BindsTo s' fd ⟨.ref (s.heap.objs.size + 1) :: rest, []⟩ binds)
    (hcell : ∀ x ∈ fd.scope.names, x.2 ≠ .cell) (hloc : ∀ x ∈ binds, fd.scope.names.lookup x.1 = some .local)
    (h : ∀ (A' : Around) s₁ L D X, A'.depth = A.depth + 1 → A'.handled = A.handled → Like s s₁ → D = s.heap.objs.size → X = s.heap.objs.size + 1 → L = X + 1 → s₁.heap.Ns L (fun x => binds.reverse.lookup x) → Kept s.heap s₁.heap → Host w mg mb s₁.heap → Ign s₁.heap X D (fun _ => none) →
      Wp prog w (A'.deeper (callEnv fd L 69)) (execs body (callEnv fd L 69)) (fun f s' => (match f with | .ret v => v | _ => .none) = .none ∧ Q (.ref X) s') s₁)
    (hco : fd.scope.isCoroutine = false := by rfl) (hgen : fd.scope.isGenerator = false := by rfl) (hk : fd.scope.kind = .function := by rfl) :
    Wp prog w A (call (.ref 79) rest) Q s := ⟨fun E => wpAny_call (by
  obtain ⟨hp, g, d, t, os⟩ := s
  refine make_core (makes_of H.K makes79) (init := .ref 69) (looks_findIn H.K rfl) (fun self => bind_fn H.K self rfl) (.inl rfl) ?_
  have k1 : Kept hp ((hp.push emptyDict).push (instObj 79 hp.objs.size)) := fun b o e => Heap.get?_push_of_some _ (Heap.get?_push_of_some _ e)
  have H1 := H.keeps k1
  refine codeAny_call_def hroom (H1.K _ _ ho) rfl H1.nolimit (codeRec_of H1.K hcd) hbody (hbind _ k1) hcell hloc (fun h₀ N k => ?_) hco hgen hk
  have sz : ((hp.push emptyDict).push (instObj 79 hp.objs.size)).objs.size = hp.objs.size + 1 + 1 := by rw [Heap.size_push, Heap.size_push]
  have hX : ((hp.push emptyDict).push (instObj 79 hp.objs.size)).get? (hp.objs.size + 1) = some (instObj 79 hp.objs.size) := by
    rw [← Heap.size_push hp emptyDict]; exact Heap.get?_push_size _ rfl
  have hD : ((hp.push emptyDict).push (instObj 79 hp.objs.size)).get? hp.objs.size = some emptyDict := Heap.get?_push_of_some _ (Heap.get?_push_size _ rfl)
  refine wpAny_mono ((h (A.under (.builtin "type.__call__" ⟨.ref 79 :: rest, []⟩)) ⟨h₀, g, d, t + binds.length, os⟩ _ hp.objs.size (hp.objs.size + 1) rfl rfl ⟨rfl, rfl, rfl⟩ rfl rfl sz N (fun b o e => k _ _ (k1 _ _ e)) (H1.keeps k) ⟨k _ _ hX, Nat.ne_of_lt (Nat.lt_succ_self _), ?_⟩).out (fun _ _ => False)) (fun f s' x => ?_) fun _ _ x => x.elim
  · exact Heap.Ns1.of_empty ⟨_, #[], _, k _ _ hD, rfl, fun e he => absurd he (by simp), fun _ => rfl⟩
  · exact x)⟩
end

/-- an _Ignore that stands ready: its modules, its directories, its table -/
structure Rdy (prog : Program) (w : World) (h : Heap) (X D S0 P G : Addr) (mods dirs : List Str) (kvs : List (Str × Value)) : Prop where
  ign : ∃ m, Ign h X D m ∧ m "_mods" = some (.ref S0) ∧ m "_dirs" = some (.ref P) ∧ m "_ignore" = some (.ref G) ∧ m "names" = none
  set : ∃ n, SetX prog w h S0 (fun y => decide (y ∈ mods)) n
  dirs : Good h P dirs
  dict : h.DictOf (PySem.strKind prog w) G kvs
  g1 : G ≠ X
  g2 : G ≠ D
  g3 : G ≠ S0
  g4 : G ≠ P

section
variable {prog : Program} {w : World} {mg mb : Str → Option Value} {A : Around} {s : Shared} {env : Env}

theorem dictOf_at {K : Type} [DecidableEq K] {knd : KeyKind prog w K} {h h' : Heap} {a : Addr} {kvs : List (K × Value)} (x : h.DictOf knd a kvs) (k : ∀ o, h.get? a = some o → h'.get? a = some o) : h'.DictOf knd a kvs :=
  let ⟨o, es, ep, ho, r⟩ := x; ⟨o, es, ep, k _ ho, r⟩
theorem dictOf_lt {K : Type} [DecidableEq K] {knd : KeyKind prog w K} {h : Heap} {a : Addr} {kvs : List (K × Value)} (x : h.DictOf knd a kvs) : @LT.lt Nat _ a h.objs.size :=
  let ⟨_, _, _, ho, _⟩ := x; Heap.lt_size ho
theorem SetX.lt {h : Heap} {a : Addr} {S n} (x : SetX prog w h a S n) : @LT.lt Nat _ a h.objs.size := let ⟨_, _, _, _, ho, _⟩ := x; Heap.lt_size ho
theorem Rdy.at {h h' : Heap} {X D S0 P G : Addr} {mods dirs kvs} (r : Rdy prog w h X D S0 P G mods dirs kvs) (k : ∀ b o, b = X ∨ b = D ∨ b = S0 ∨ b = P ∨ b = G → h.get? b = some o → h'.get? b = some o) : Rdy prog w h' X D S0 P G mods dirs kvs :=
  let ⟨m, I, q⟩ := r.ign
  let ⟨n, S⟩ := r.set
  ⟨⟨m, I.at (fun o => k X o (.inl rfl)) (fun o => k D o (.inr (.inl rfl))), q⟩, ⟨n, S.at fun o => k S0 o (.inr (.inr (.inl rfl)))⟩, r.dirs.at fun o => k P o (.inr (.inr (.inr (.inl rfl)))), dictOf_at r.dict fun o => k G o (.inr (.inr (.inr (.inr rfl)))), r.g1, r.g2, r.g3, r.g4⟩
theorem Rdy.lt {h : Heap} {X D S0 P G : Addr} {mods dirs kvs} (r : Rdy prog w h X D S0 P G mods dirs kvs) : ∀ b, b = X ∨ b = D ∨ b = S0 ∨ b = P ∨ b = G → @LT.lt Nat _ b h.objs.size := by
  obtain ⟨m, I, _⟩ := r.ign
  obtain ⟨n, S⟩ := r.set
  rintro b (rfl | rfl | rfl | rfl | rfl)
  · exact Heap.lt_size I.1
  · exact I.2.2.ns.lt
  · exact S.lt
  · exact r.dirs.lt
  · exact dictOf_lt r.dict

/-- a dict display of one text and one int -/
theorem wDict1 {x : Str} {i : Int} {k1 k2 : Nat} {p1 p2 pos : Pos} {Q : Value → Shared → Prop}
    (h : ∀ s' t G, Like s s' → Kept s.heap s'.heap → G = s.heap.objs.size → s'.heap.DictOf (PySem.strKind prog w) G [(x, .int i t)] → Q (.ref G) s') :
    Wp prog w A (eval (.Dict [some (.Constant (.str x) k1 p1)] [.Constant (.int i) k2 p2] pos) env) Q s := ⟨fun E => by
  refine wpAny_Dict_pairs (knd := PySem.strKind prog w) (pairs := [(eval (.Constant (.str x) k1 p1) env, do let x ← eval (.Constant (.int i) k2 p2) env; standAt pos; pure x)]) rfl (by simp) (by simp) ?_
  refine evalPairs_cons (wpAny_Constant_str (wpAny_bind (wpAny_Constant_int (wpAny_bind (wpAny_standAt (wpAny_pure (evalPairs_nil ?_)))))))
  refine ⟨[(x, .int i _)], ⟨strKind_is _ _ _ _, rfl, trivial⟩, Heap.DictOf.new _, fun h' hd hs => ?_⟩
  refine h _ _ _ ⟨rfl, rfl, rfl⟩ (fun b o e => ?_) rfl hd
  exact hs.extBut b o (Nat.ne_of_lt (Heap.lt_size e)) (Heap.get?_push_of_some _ e)⟩

def normV (v y : Value) : Prop := ∃ p t t', v = .str p t ∧ y = .str (normF p) t'
theorem paired_norm : ∀ {vs ys : List Value} {ps : List Str}, StrsAre vs ps → Paired normV vs ys → StrsAre ys (ps.map normF)
  | _, _, _, .nil, .nil => .nil
  | _, _, _, .cons p t r, .cons ⟨p', t0, t', e, e2⟩ q => by
    cases e; subst e2
    exact .cons _ _ (paired_norm r q)

set_option maxHeartbeats 8000000 in
/-- _Ignore(modules, dirs), neither of them empty -/
theorem ignore_call {rm rd : Addr} {ms ds : List Str} {Q : Value → Shared → Prop} (H : Host w mg mb s.heap) (hroom : A.depth + 10 < recursionLimit) (hh : A.handled = none)
    (gm : Good s.heap rm ms) (gd : Good s.heap rd ds) (hm : ms ≠ []) (hd : ds ≠ []) (hml : ms.length ≤ 100) (hdl : ds.length ≤ 100) (hok : ∀ p ∈ ds, NormOk p)
    (h : ∀ s' X D S0 P G t, Like s s' → Kept s.heap s'.heap → (∀ b, b = X ∨ b = D ∨ b = S0 ∨ b = P ∨ b = G → s.heap.get? b = none) → 121 < G → Rdy prog w s'.heap X D S0 P G ms (ds.map normF) [("<string>", .int 1 t)] → Q (.ref X) s') :
    Wp prog w A (call (.ref 79) [.ref rm, .ref rd]) Q s := by
  refine make_call (binds := [("self", .ref (s.heap.objs.size + 1)), ("modules", .ref rm), ("dirs", .ref rd)]) H rfl rfl rfl (by omega)
    (fun s' k => .of_defaults rfl (k _ _ (H.K 64 _ rfl)) rfl rfl rfl) (by decide) (locs rfl) ?_
  intro A' s₁ L D X hA1 hA2 l₁ eD eX eL N k H0 I
  have hlow := H.low
  obtain ⟨vm, pm, im⟩ := gm.at fun o e => k _ _ e
  obtain ⟨vd, pd, id⟩ := gd.at fun o e => k _ _ e
  have lm := strsAre_length im
  have ld := strsAre_length id
  have hvm : vm ≠ [] := fun e => by rw [e] at lm; exact hm (List.length_eq_zero_iff.mp lm.symm)
  have hvd : vd ≠ [] := fun e => by rw [e] at ld; exact hd (List.length_eq_zero_iff.mp ld.symm)
  have hhA : A'.handled = none := hA2.trans hh
  subst eX
  refine wCons <| wAssignA <| wIfExp <| wIsNot <| wIsValue <| ldL N rfl <| wTruthL pm (by omega) ?_
  rw [show (!vm.isEmpty) = true by simpa using hvm]
  refine wCall <| ldB (s := { s₁ with toks := _ }) H0 rfl boot_set (by decide) <| wT1 <| wICons <| ldL (s := { s₁ with toks := _ }) N rfl <| wINil <| call_set_strs (s := { s₁ with toks := _ }) hhA ⟨vm, pm, im⟩ (by rw [show scanBound = 4096 from rfl]; omega) ?_
  intro s₂ n l₂ k₂ hn hS
  change Kept s₁.heap s₂.heap at k₂
  change SetX prog w s₂.heap s₁.heap.objs.size _ n at hS
  have l₂' : Like s₁ s₂ := Like.trans ⟨rfl, rfl, rfl⟩ l₂
  have hLlt : @LT.lt Nat _ L s₁.heap.objs.size := N.lt
  have H₂ := H0.keeps k₂
  have I₂ := I.at (fun o e => k₂ _ _ e) (fun o e => k₂ _ _ e)
  refine ldL (N.keeps k₂) rfl <| setA H₂ I₂ (neN (by omega)) lk_mods (fun c => c.mods) Within.nil (by decide) ?_
  intro s₃ l₃ I₃ u₃
  have N₃ := (N.keeps k₂).at' fun o e => u₃ L o (neN (by omega)) (neN (by omega)) e
  have kb : Kept s.heap s₃.heap := fun b o e => u₃ b o (neN (by have := ltN (Heap.lt_size e); omega)) (neN (by have := ltN (Heap.lt_size e); omega)) (k₂ _ _ (k _ _ e))
  have H₃ := H.keeps kb
  have hS₃ := hS.at fun o e => u₃ s₁.heap.objs.size o (neN (by omega)) (neN (by omega)) e
  obtain ⟨vd, pd, id⟩ := gd.at fun o e => kb _ _ e
  have ld := strsAre_length id
  have hvd : vd ≠ [] := fun e => by rw [e] at ld; exact hd (List.length_eq_zero_iff.mp ld.symm)
  refine wCons <| wAssignA <| wIfExp <| wIsNot <| wIsValue <| ldL N₃ rfl <| wTruthL pd (by omega) ?_
  rw [show (!vd.isEmpty) = true by simpa using hvd]
  refine wComp (fun _ => true) normV rfl <| ldE (s := { s₃ with toks := _ }) N₃ rfl <| iterL pd.isList ?_
  intro s₄ It l₄ eI k₄ z₄ hit
  change Kept s₃.heap s₄.heap at k₄
  change It = s₃.heap.objs.size at eI
  have hrd : @LT.lt Nat _ rd s₃.heap.objs.size := plist_lt pd
  refine ⟨It, [It, rd], [It], vd.toArray.size, _, _, rfl, Walks.list (A := A'.deeper _) hhA It rd (neN (by omega)) vd.toArray, by simp; omega, ⟨hit, (pd.at fun o e => k₄ _ _ e).isList⟩, ?_, quiet_of (.inl ⟨rfl, fun _ => rfl⟩) ?_, ?_⟩
  · intro b hb
    rcases List.mem_cons.mp hb with rfl | hb
    · exact ltN (by omega)
    · rw [List.mem_singleton] at hb; subst hb; exact ltN (by omega)
  · intro C i v a m₃ hC hv _ Na hma ka
    obtain ⟨p, tp, rfl, hp⟩ := strsAre_get' id (by simpa using hv)
    have up : ∀ b o, s₃.heap.get? b = some o → a.heap.get? b = some o := fun b o e => ka b o (by
      have := ltN (Heap.lt_size e)
      simp only [List.mem_singleton]
      exact neN (by omega)) (k₄ _ _ e)
    have Ha := H₃.keeps up
    refine wCall <| ldG Ha rfl <| wF1 rfl <| wICons <| ldE Na hma <| wINil ⟨Ha, normpath_call Ha (by show A'.depth + 1 + 3 < _; omega) hhA (hok p (List.mem_of_getElem? hp)) ?_⟩
    intro b t' lb kb
    exact ⟨⟨p, tp, t', rfl, rfl⟩, lb, kb⟩
  · intro P a ys vs hP pP hvn hPv hF la ka
    have up : ∀ b o, s₃.heap.get? b = some o → a.heap.get? b = some o := fun b o e => ka b o (by
      have := ltN (Heap.lt_size e)
      simp only [List.mem_singleton]
      exact neN (by omega)) (k₄ _ _ e)
    have evs : vs = vd := by
      apply List.ext_getElem?
      intro j
      cases e : vs[j]? with
      | some v => have := hPv j v e; simpa using this.symm
      | none =>
        have := List.getElem?_eq_none_iff.mp e
        exact (List.getElem?_eq_none (by simp at hvn; omega)).symm
    subst evs
    have gP : Good a.heap P (ds.map normF) := by
      obtain ⟨yl⟩ := ys
      rw [List.filter_eq_self.mpr (fun _ _ => rfl)] at hF
      exact ⟨yl, pP, paired_norm id hF⟩
    have hPn : ∀ b o, s₃.heap.get? b = some o → b ≠ P := fun b o e e' => by
      subst e'; rw [k₄ _ _ e] at hP; cases hP
    have hPX : s.heap.objs.size + 1 ≠ P := hPn _ _ I₃.1
    have hPD : D ≠ P := by obtain ⟨_, _, _, e, _⟩ := I₃.2.2; exact hPn _ _ e
    have hPL : L ≠ P := by obtain ⟨_, _, _, e, _⟩ := N₃; exact hPn _ _ e
    have hPS : s₁.heap.objs.size ≠ P := by obtain ⟨_, _, _, _, e, _⟩ := hS₃; exact hPn _ _ e
    have Ha := H₃.keeps up
    have Na := N₃.keeps up
    have Ia := I₃.at (fun o e => up _ _ e) (fun o e => up _ _ e)
    refine ldL Na rfl <| setA Ha Ia (neN (by omega)) lk_dirs (fun c => c.dirs) (Within.cons _ _ Within.nil) (by decide) ?_
    intro s₅ l₅ I₅ u₅
    have k35 : ∀ b o, b ≠ s.heap.objs.size + 1 → b ≠ D → s₃.heap.get? b = some o → s₅.heap.get? b = some o := fun b o h1 h2 e => u₅ b o h1 h2 (up _ _ e)
    have kb5 : Kept s.heap s₅.heap := fun b o e => k35 b o (neN (by have := ltN (Heap.lt_size e); omega)) (neN (by have := ltN (Heap.lt_size e); omega)) (kb _ _ e)
    have N₅ := Na.at' fun o e => u₅ L o (neN (by omega)) (neN (by omega)) e
    have H₅ := H.keeps kb5
    have hS₅ := hS₃.at fun o e => k35 _ o (neN (by omega)) (neN (by omega)) e
    have gP₅ := gP.at fun o e => u₅ P o (Ne.symm hPX) (Ne.symm hPD) e
    refine wCons <| wAssignA <| wDict1 ?_
    intro s₆ t G l₆ k₆ eG hG
    have N₆ := N₅.keeps k₆
    have I₆ := I₅.at (fun o e => k₆ _ _ e) (fun o e => k₆ _ _ e)
    refine ldL N₆ rfl <| setA (H₅.keeps k₆) I₆ (neN (by omega)) lk_ignore (fun c => c.ignore) (Within.cons _ _ (Within.cons _ _ Within.nil)) (by decide) ?_
    intro s₇ l₇ I₇ u₇
    have hsz5 : ∀ b o, s₅.heap.get? b = some o → b ≠ G := fun b o e => neN (by have := ltN (Heap.lt_size e); omega)
    have hGX : s.heap.objs.size + 1 ≠ G := hsz5 _ _ I₅.1
    have hGD : D ≠ G := by obtain ⟨_, _, _, e, _⟩ := I₅.2.2; exact hsz5 _ _ e
    have hGS : s₁.heap.objs.size ≠ G := by obtain ⟨_, _, _, _, e, _⟩ := hS₅; exact hsz5 _ _ e
    have hGP : P ≠ G := by obtain ⟨_, ⟨_, e⟩, _⟩ := gP₅; exact hsz5 _ _ e
    have k57 : ∀ b o, b ≠ s.heap.objs.size + 1 → b ≠ D → s₅.heap.get? b = some o → s₇.heap.get? b = some o := fun b o h1 h2 e => u₇ b o h1 h2 (k₆ _ _ e)
    have kb7 : Kept s.heap s₇.heap := fun b o e => k57 b o (neN (by have := ltN (Heap.lt_size e); omega)) (neN (by have := ltN (Heap.lt_size e); omega)) (kb5 _ _ e)
    have fresh : ∀ b, s.heap.objs.size ≤ b → s.heap.get? b = none := fun b hb => by
      cases e : s.heap.get? b with
      | none => rfl
      | some o => exact absurd (Heap.lt_size e) (Nat.not_lt.mpr hb)
    have ln := ltN (Heap.lt_size I₅.1)
    refine wNil ⟨rfl, h s₇ _ D s₁.heap.objs.size P G t (l₁.trans (l₂'.trans (l₃.trans (Like.trans (Like.trans ⟨rfl, rfl, rfl⟩ l₄) (la.trans (l₅.trans (l₆.trans l₇))))))) kb7 ?_ (ltN (by omega))
      ⟨⟨_, I₇, rfl, rfl, rfl, rfl⟩, ⟨n, hS₅.at fun o e => k57 _ o (neN (by omega)) (neN (by omega)) e⟩, gP₅.at fun o e => k57 _ o (Ne.symm hPX) (Ne.symm hPD) e, dictOf_at hG fun o e => u₇ G o (Ne.symm hGX) (Ne.symm hGD) e, Ne.symm hGX, Ne.symm hGD, Ne.symm hGS, Ne.symm hGP⟩⟩
    rintro b (rfl | rfl | rfl | rfl | rfl)
    · exact fresh _ (Nat.le_succ _)
    · exact fresh _ (by omega)
    · exact fresh _ (by omega)
    · cases e : s.heap.get? b with
      | none => rfl
      | some o => rw [k₄ _ _ (kb _ _ e)] at hP; cases hP
    · exact fresh _ (by omega)
end

def ansN (mods dirs : List Str) (fo : Option Str) (m : Str) : Int :=
  if (decide (m ∈ mods) || (mods.any (fun k => Txt.startswith m (k ++ ".")) || (match fo with | none => true | some f => dirs.any fun d => Txt.startswith f (d ++ "/")))) = true then 1 else 0
theorem ansN_some (mods dirs : List Str) (f m : Str) : ansN mods dirs (some f) m =
  if (decide (m ∈ mods) || (mods.any (fun k => Txt.startswith m (k ++ ".")) || dirs.any fun d => Txt.startswith f (d ++ "/"))) = true then 1 else 0 := rfl
def tellN (kn : Str → Option Int) (m : Str) (a : Int) : Int := (kn m).getD a
def knowN (kn : Str → Option Int) (m : Str) (a : Int) : Str → Option Int := match kn m with | some _ => kn | none => fun x => if x = m then some a else kn x
def FileIs (f : Value) : Option Str → Prop
  | none => f = .none
  | some x => ∃ t, f = .str x t

section
variable {prog : Program} {w : World} {mg mb : Str → Option Value} {A : Around} {s : Shared} {env : Env}

theorem mStarts {x : Str} {t : Tok} {pl : Sem Bool} {Q : Value × List Value → Shared → Prop} (h : Q (.builtin "str.startswith", [.str x t]) s) : Wp prog w A (getMethod (.str x t) (Str.ofString "startswith") pl) Q s := ⟨fun _ => GM.startswith h⟩
theorem cStarts {x y : Str} {t u : Tok} {Q : Value → Shared → Prop} (h : Q (.bool (Txt.startswith x y)) s) : Wp prog w A (call (.builtin "str.startswith") [.str x t, .str y u]) Q s := ⟨fun _ => SC.startswith h⟩
theorem wInSet {a : Addr} {S : Str → Bool} {n : Nat} {k : Str} {t : Tok} {Q : Value → Shared → Prop} (hS : SetX prog w s.heap a S n) (h : Q (.bool (S k)) { s with toks := s.toks + 1 }) : Wp prog w A (compareOp .In (.str k t) (.ref a)) Q s :=
  ⟨fun _ => wpAny_inSet_of (strKind_is _ _ _ _) rfl hS.setOf h⟩
theorem wIsNoneS {x : Str} {t : Tok} {Q : Value → Shared → Prop} (h : Q (.bool false) s) : Wp prog w A (compareOp .Is (.str x t) .none) Q s := ⟨fun _ => is_str_none h⟩
theorem wIsNoneN {Q : Value → Shared → Prop} (h : Q (.bool true) s) : Wp prog w A (compareOp .Is .none .none) Q s := ⟨fun _ => wpAny_is_self rfl h⟩

/-- what stands of the call: its locals, the object -/
structure NmJ (prog : Program) (w : World) (mg mb : Str → Option Value) (s₀ : Shared) (L X D S0 P G : Addr) (mods dirs : List Str) (kvs : List (Str × Value)) (f : Value) (m : Str) (t : Tok) (s : Shared) : Prop where
  keep : Kept s₀.heap s.heap
  host : Host w mg mb s.heap
  ns : ∃ mm, s.heap.Ns L mm ∧ mm "self" = some (.ref X) ∧ mm "filename" = some f ∧ mm "modulename" = some (.str m t)
  rdy : Rdy prog w s.heap X D S0 P G mods dirs kvs

/-- self._ignore -/
theorem ldIgn {s₀ : Shared} {L X D S0 P G : Addr} {mods dirs : List Str} {kvs : List (Str × Value)} {f : Value} {m : Str} {t : Tok} {xp pos : Pos} {Q : Value → Shared → Prop} (j : NmJ prog w mg mb s₀ L X D S0 P G mods dirs kvs f m t s)
    (h : Q (.ref G) { s with toks := s.toks + 1 }) (hL : env.locals = L) (hk : env.scope.kind = .function) (hl : env.kindOf "self" = some .local)
    (he : eval (.Attribute (.Name "self" xp) "_ignore" pos) env = (do
      let o ← eval (.Name "self" xp) env
      standAt pos.atName
      let r ← holding [o] (getAttr o "_ignore" true)
      letTemporaryGo (.Name "self" xp) o r
      pure r)) :
    Wp prog w A (eval (.Attribute (.Name "self" xp) "_ignore" pos) env) Q s := by
  obtain ⟨mm, N, n1, n2, n3⟩ := j.ns
  obtain ⟨mo, I, i1, i2, i3, i4⟩ := j.rdy.ign
  subst hL
  exact getA (X := X) (D := D) (ldE N n1 ⟨rfl, j.host, I, h⟩ hk hl) i3 rfl lk_ignore (fun c => c.ignore) he

/-- self._mods -/
theorem ldMods {s₀ : Shared} {L X D S0 P G : Addr} {mods dirs : List Str} {kvs : List (Str × Value)} {f : Value} {m : Str} {t : Tok} {xp pos : Pos} {Q : Value → Shared → Prop} (j : NmJ prog w mg mb s₀ L X D S0 P G mods dirs kvs f m t s)
    (h : Q (.ref S0) { s with toks := s.toks + 1 }) (hL : env.locals = L) (hk : env.scope.kind = .function) (hl : env.kindOf "self" = some .local)
    (he : eval (.Attribute (.Name "self" xp) "_mods" pos) env = (do
      let o ← eval (.Name "self" xp) env
      standAt pos.atName
      let r ← holding [o] (getAttr o "_mods" true)
      letTemporaryGo (.Name "self" xp) o r
      pure r)) :
    Wp prog w A (eval (.Attribute (.Name "self" xp) "_mods" pos) env) Q s := by
  obtain ⟨mm, N, n1, n2, n3⟩ := j.ns
  obtain ⟨mo, I, i1, i2, i3, i4⟩ := j.rdy.ign
  subst hL
  exact getA (X := X) (D := D) (ldE N n1 ⟨rfl, j.host, I, h⟩ hk hl) i1 rfl lk_mods (fun c => c.mods) he

/-- self._dirs -/
theorem ldDirs {s₀ : Shared} {L X D S0 P G : Addr} {mods dirs : List Str} {kvs : List (Str × Value)} {f : Value} {m : Str} {t : Tok} {xp pos : Pos} {Q : Value → Shared → Prop} (j : NmJ prog w mg mb s₀ L X D S0 P G mods dirs kvs f m t s)
    (h : Q (.ref P) { s with toks := s.toks + 1 }) (hL : env.locals = L) (hk : env.scope.kind = .function) (hl : env.kindOf "self" = some .local)
    (he : eval (.Attribute (.Name "self" xp) "_dirs" pos) env = (do
      let o ← eval (.Name "self" xp) env
      standAt pos.atName
      let r ← holding [o] (getAttr o "_dirs" true)
      letTemporaryGo (.Name "self" xp) o r
      pure r)) :
    Wp prog w A (eval (.Attribute (.Name "self" xp) "_dirs" pos) env) Q s := by
  obtain ⟨mm, N, n1, n2, n3⟩ := j.ns
  obtain ⟨mo, I, i1, i2, i3, i4⟩ := j.rdy.ign
  subst hL
  exact getA (X := X) (D := D) (ldE N n1 ⟨rfl, j.host, I, h⟩ hk hl) i2 rfl lk_dirs (fun c => c.dirs) he

/-- the answer is noted and given back -/
theorem store_ret {s₀ : Shared} {L X D S0 P G : Addr} {mods dirs : List Str} {kvs : List (Str × Value)} {f : Value} {m : Str} {t : Tok} {p1 p2 p3 p4 p5 p6 p7 p8 : Pos} {k k' : Nat} {i : Int} {Q : Flow → Shared → Prop} (j : NmJ prog w mg mb s₀ L X D S0 P G mods dirs kvs f m t s)
    (hlen : kvs.length ≤ 1000) (hLG : L ≠ G)
    (h : ∀ s' t₁ t₂, Like s s' → (∀ b o, b ≠ G → s₀.heap.get? b = some o → s'.heap.get? b = some o) → Rdy prog w s'.heap X D S0 P G mods dirs (stored kvs m (.int i t₁)) → Q (.ret (.int i t₂)) s')
    (hL : env.locals = L := by rfl) (hk : env.scope.kind = .function := by rfl) (hl : env.kindOf "self" = some .local := by rfl) (hl2 : env.kindOf "modulename" = some .local := by rfl)
    (hs : swapsWith (.Constant (.int i) k p5) (some (.Subscript (.Attribute (.Name "self" p1) "_ignore" p2) (.Name "modulename" p3) p4)) p6.line env = pure false := by rfl)
    (he : eval (.Attribute (.Name "self" p1) "_ignore" p2) env = (do
      let o ← eval (.Name "self" p1) env
      standAt p2.atName
      let r ← holding [o] (getAttr o "_ignore" true)
      letTemporaryGo (.Name "self" p1) o r
      pure r) := by with_unfolding_all rfl) :
    Wp prog w A (execs [.Assign [.Subscript (.Attribute (.Name "self" p1) "_ignore" p2) (.Name "modulename" p3) p4] (.Constant (.int i) k p5) p6, .Return (some (.Constant (.int i) k' p7)) p8] env) Q s := by
  have j' : ∀ tk, NmJ prog w mg mb s₀ L X D S0 P G mods dirs kvs f m t { s with toks := tk } := fun _ => ⟨j.keep, j.host, j.ns, j.rdy⟩
  refine wCons <| wAssignS (wInt <| ldIgn (j' _) ?_ hL hk hl he) hs
  obtain ⟨mm, N, n1, n2, n3⟩ := j.ns
  subst hL
  refine ldE (s := { s with toks := _ }) N n3 (wSetD (strKind_is _ _ _ _) j.rdy.dict (by omega) ?_) hk hl2
  intro s₁ l₁ d₁ S₁
  refine wCons <| wReturn <| wInt <| h _ s.toks _ (Like.trans ⟨rfl, rfl, rfl⟩ l₁) (fun b o hb e => S₁.extBut b o hb (j.keep b o e)) ?_
  have r := j.rdy
  obtain ⟨mo, I, q⟩ := r.ign
  obtain ⟨n, S⟩ := r.set
  exact ⟨⟨mo, I.at (fun o e => S₁.extBut _ o (Ne.symm r.g1) e) (fun o e => S₁.extBut _ o (Ne.symm r.g2) e), q⟩, ⟨n, S.at fun o e => S₁.extBut _ o (Ne.symm r.g3) e⟩, r.dirs.at fun o e => S₁.extBut _ o (Ne.symm r.g4) e, d₁, r.g1, r.g2, r.g3, r.g4⟩

theorem NmJ.over {s₀ s₁ s₂ : Shared} {L X D S0 P G : Addr} {mods dirs : List Str} {kvs : List (Str × Value)} {f : Value} {m : Str} {t : Tok} (j : NmJ prog w mg mb s₀ L X D S0 P G mods dirs kvs f m t s₁) (k : Kept s₁.heap s₂.heap) : NmJ prog w mg mb s₀ L X D S0 P G mods dirs kvs f m t s₂ :=
  let ⟨mm, N, n⟩ := j.ns
  ⟨fun b o e => k _ _ (j.keep b o e), j.host.keeps k, ⟨mm, N.keeps k, n⟩, j.rdy.at fun b o _ e => k _ _ e⟩
/-- something that the call made is changed -/
theorem NmJ.but {s₀ s₁ s₂ : Shared} {L X D S0 P G I : Addr} {mods dirs : List Str} {kvs : List (Str × Value)} {f : Value} {m : Str} {t : Tok} (H : Host w mg mb s₀.heap) (r : Rdy prog w s₀.heap X D S0 P G mods dirs kvs) (j : NmJ prog w mg mb s₀ L X D S0 P G mods dirs kvs f m t s₁)
    (hI : s₀.heap.objs.size ≤ I) (hIL : L ≠ I) (k : ∀ b o, b ≠ I → s₁.heap.get? b = some o → s₂.heap.get? b = some o) : NmJ prog w mg mb s₀ L X D S0 P G mods dirs kvs f m t s₂ :=
  let ⟨mm, N, n⟩ := j.ns
  have kk : Kept s₀.heap s₂.heap := fun b o e => k b o (neN (by have := ltN (Heap.lt_size e); omega)) (j.keep b o e)
  ⟨kk, H.keeps kk, ⟨mm, N.at' fun o e => k L o hIL e, n⟩, j.rdy.at fun b o hb e => k b o (neN (by have := r.lt b hb; omega)) e⟩
/-- a local is stored -/
theorem NmJ.loc {s₀ s₁ s₂ : Shared} {L X D S0 P G : Addr} {mods dirs : List Str} {kvs : List (Str × Value)} {f : Value} {m : Str} {t : Tok} {mm mm' : Str → Option Value} (H : Host w mg mb s₀.heap) (r : Rdy prog w s₀.heap X D S0 P G mods dirs kvs) (j : NmJ prog w mg mb s₀ L X D S0 P G mods dirs kvs f m t s₁)
    (hL : s₀.heap.objs.size ≤ L) (S : Heap.SameBut L s₁.heap s₂.heap) (N : s₂.heap.Ns L mm') (n : mm' "self" = some (.ref X) ∧ mm' "filename" = some f ∧ mm' "modulename" = some (.str m t)) : NmJ prog w mg mb s₀ L X D S0 P G mods dirs kvs f m t s₂ :=
  have kk : Kept s₀.heap s₂.heap := fun b o e => S.extBut b o (neN (by have := ltN (Heap.lt_size e); omega)) (j.keep b o e)
  ⟨kk, H.keeps kk, ⟨mm', N, n⟩, j.rdy.at fun b o hb e => S.extBut b o (neN (by have := r.lt b hb; omega)) e⟩

set_option maxHeartbeats 16000000 in
theorem names_call {X D S0 P G : Addr} {mods dirs : List Str} {kvs : List (Str × Value)} {kn : Str → Option Int} {f : Value} {fo : Option Str} {m : Str} {t : Tok} {Q : Value → Shared → Prop} (H : Host w mg mb s.heap) (hroom : A.depth < recursionLimit) (hh : A.handled = none)
    (r : Rdy prog w s.heap X D S0 P G mods dirs kvs) (hG : 121 < G) (te : Tells' kvs kn) (hf : FileIs f fo) (hlen : kvs.length ≤ 1000) (hml : ∀ k ∈ mods, k.length ≤ 1000) (hdl : ∀ k ∈ dirs, k.length ≤ 1000) (hdn : dirs.length ≤ 1000)
    (h : ∀ s' kvs' t', LikeO s s' → (∀ b o, b ≠ G → s.heap.get? b = some o → s'.heap.get? b = some o) → Rdy prog w s'.heap X D S0 P G mods dirs kvs' → Tells' kvs' (knowN kn m (ansN mods dirs fo m)) → kvs'.length ≤ kvs.length + 1 →
      Q (.int (tellN kn m (ansN mods dirs fo m)) t') s') :
    Wp prog w A (call (.ref 76) [.ref X, f, .str m t]) Q s := by
  refine enter (args := ⟨[.ref X, f, .str m t], []⟩) (binds := [("self", .ref X), ("filename", f), ("modulename", .str m t)]) H rfl rfl rfl hroom (.of_eq rfl) (by decide) (locs rfl) ?_
  intro s₁ L l₁ hL N k H0
  have j₁ : NmJ prog w mg mb s L X D S0 P G mods dirs kvs f m t s₁ := ⟨k, H0, ⟨_, N, rfl, rfl, rfl⟩, r.at fun b o _ e => k _ _ e⟩
  have hLG : L ≠ G := neN (by have := r.lt G (.inr (.inr (.inr (.inr rfl)))); omega)
  have hGs : (G == sysModules) = false := beq_eq_false_iff_ne.mpr (by unfold sysModules; intro e; subst e; exact absurd hG (by decide))
  refine wCons <| wIf <| wIsCmp <| ldL N rfl <| ldIgn j₁ (wInD (strKind_is _ _ _ _) hGs j₁.rdy.dict <| wTruthB ?_) rfl rfl rfl (by with_unfolding_all rfl)
  cases hkn : kn m with
  | some v =>
    obtain ⟨tv, hv⟩ : ∃ t, valueAt kvs m = some (.int v t) := by have := te m; rw [hkn] at this; exact this
    rw [hv]
    have j₂ : NmJ prog w mg mb s L X D S0 P G mods dirs kvs f m t { s₁ with toks := s₁.toks + 1 + 1 } := j₁.over fun _ _ e => e
    refine wCons <| wReturn <| wSub <| ldIgn j₂ (ldL (s := { s₁ with toks := _ }) N rfl <| itemD (strKind_is _ _ _ _) j₁.rdy.dict hv ?_) rfl rfl rfl (by with_unfolding_all rfl)
    have := h { s₁ with toks := s₁.toks + 1 + 1 + 1 + 1 } kvs tv (LikeO.trans l₁.o ⟨rfl, rfl⟩) (fun b o _ e => k _ _ e) j₁.rdy (by unfold knowN; rw [hkn]; exact te) (by omega)
    unfold tellN at this
    rw [hkn] at this
    exact this
  | none =>
    have hv : valueAt kvs m = none := by have := te m; rw [hkn] at this; exact this
    rw [hv]
    have fin : ∀ i, i = ansN mods dirs fo m → ∀ s' t₁ t₂, LikeO s s' → (∀ b o, b ≠ G → s.heap.get? b = some o → s'.heap.get? b = some o) → Rdy prog w s'.heap X D S0 P G mods dirs (stored kvs m (.int i t₁)) → Q (.int i t₂) s' := by
      rintro i rfl s' t₁ t₂ q1 q2 q3
      have := h s' _ t₂ q1 q2 q3 (by unfold knowN; rw [hkn]; exact te.store _ _ _) (stored_length_le kvs _ _)
      unfold tellN at this
      rw [hkn] at this
      exact this
    clear h te
    refine wNil ?_
    obtain ⟨n, hS⟩ := j₁.rdy.set
    have j₂ : ∀ tk, NmJ prog w mg mb s L X D S0 P G mods dirs kvs f m t { s₁ with toks := tk } := fun tk => j₁.over fun _ _ e => e
    refine wCons <| wIf <| wIsCmp <| ldL (s := { s₁ with toks := _ }) N rfl <| ldMods (j₂ _) (wInSet hS <| wTruthB ?_) rfl rfl rfl (by with_unfolding_all rfl)
    by_cases hm : m ∈ mods
    · rw [decide_eq_true hm]
      refine store_ret (j₂ _) hlen hLG fun s' t₁ t₂ q1 q2 q3 => fin 1 ?_ s' t₁ t₂ (l₁.o.trans (LikeO.trans ⟨rfl, rfl⟩ q1.o)) q2 q3
      unfold ansN; rw [decide_eq_true hm]; rfl
    · rw [decide_eq_false hm]
      refine wNil ?_
      have hLs : s.heap.objs.size ≤ L := by omega
      have hLlt : @LT.lt Nat _ L s₁.heap.objs.size := N.lt
      refine wCons <| wFor <| ldMods (j₂ _) (iterSet (s := { s₁ with toks := _ }) hS hh ?_) rfl rfl rfl (by with_unfolding_all rfl)
      intro s₃ I fp St σ lo₃ k₃ hI hfp hσ W hst
      change Kept s₁.heap s₃.heap at k₃
      change s₁.heap.objs.size ≤ I at hI
      change ∀ b ∈ fp, b = S0 ∨ s₁.heap.objs.size ≤ b at hfp
      have hz : ∀ b o, s.heap.get? b = some o → @LT.lt Nat _ b s₁.heap.objs.size := fun b o e => Heap.lt_size (k _ _ e)
      have hs1 : s.heap.objs.size ≤ s₁.heap.objs.size := by omega
      have hS0 := r.lt S0 (.inr (.inr (.inl rfl)))
      have hfpL : L ∉ fp := fun hb => (hfp L hb).elim (fun e => absurd e (neN (by omega))) (fun e => absurd hLlt (Nat.not_lt.mpr e))
      refine for_steps W (fun i a => NmJ prog w mg mb s L X D S0 P G mods dirs kvs f m t a ∧ LikeO s a ∧ ∀ j k, j < i → σ[j]? = some k → Txt.startswith m (k ++ ".") = false) ?_ hst
        ⟨j₁.over k₃, l₁.o.trans (LikeO.trans ⟨rfl, rfl⟩ lo₃), fun j k hj => absurd hj (Nat.not_lt_zero _)⟩ ?_ ?_
      · rintro i a b ⟨q1, q2, q3⟩ lb kb
        exact ⟨q1.but H r (by omega) (neN (by omega)) kb, q2.trans lb.o, q3⟩
      · rintro i v a hi ⟨key, tk, hkey, rfl⟩ hsta ⟨q1, q2, q3⟩
        obtain ⟨mm, Na, n1, n2, n3⟩ := q1.ns
        refine wAssignN <| stL Na ?_
        intro b lb Sb Nb
        have v1 := upd_ne (x := "mod") (v := .str key tk) n1 (by decide)
        have v2 := upd_ne (x := "mod") (v := .str key tk) n2 (by decide)
        have v3 := upd_ne (x := "mod") (v := .str key tk) n3 (by decide)
        have jb := q1.loc (mm := mm) H r hLs Sb Nb ⟨v1, v2, v3⟩
        have hkm : key ∈ mods := by
          have := (hσ key).mpr (List.mem_of_getElem? hkey)
          simpa using this
        refine wCons <| wIf <| wIsValue <| wMeth <| ldL Nb v3 <| mStarts <| wB1 <| wICons <| wBinOp <| ldL Nb rfl <| wStr <| wCat (by have := hml key hkm; rw [show (Str.ofString ".").length = 1 by decide]; omega) ?_
        intro t' tk'
        refine wINil <| cStarts <| wTruthB ?_
        have jb' : ∀ x, NmJ prog w mg mb s L X D S0 P G mods dirs kvs f m t { b with toks := x } := fun _ => jb.over fun _ _ e => e
        cases hst' : Txt.startswith m (key ++ ".") with
        | true =>
          refine store_ret (jb' _) hlen hLG fun s' t₁ t₂ w1 w2 w3 => fin 1 ?_ s' t₁ t₂ (q2.trans (lb.o.trans (LikeO.trans ⟨rfl, rfl⟩ w1.o))) w2 w3
          have : mods.any (fun k => Txt.startswith m (k ++ ".")) = true := List.any_eq_true.mpr ⟨key, hkm, hst'⟩
          unfold ansN; rw [this]; simp
        | false =>
          refine wNil <| wNil ⟨W.frame _ _ _ hsta fun c hc o e => Sb.extBut c o (fun e' => hfpL (e' ▸ hc)) e, jb' _, q2.trans (lb.o.trans ⟨rfl, rfl⟩), fun j k' hj hk' => ?_⟩
          rcases Nat.lt_succ_iff_lt_or_eq.mp hj with hj | rfl
          · exact q3 j k' hj hk'
          · rw [hkey] at hk'; cases hk'; exact hst'
      · rintro a ⟨q1, q2, q3⟩
        have hno : mods.any (fun k => Txt.startswith m (k ++ ".")) = false := by
          rw [List.any_eq_false]
          intro k' hk'
          have : k' ∈ σ := (hσ k').mp (by simpa using hk')
          obtain ⟨j, hj⟩ := List.getElem?_of_mem this
          rw [q3 j k' (List.getElem?_eq_some_iff.mp hj).1 hj]
          exact Bool.false_ne_true
        obtain ⟨mm, Na, n1, n2, n3⟩ := q1.ns
        cases fo with
        | none =>
          change f = .none at hf
          subst hf
          refine wCons <| wIf <| wIsCmp <| ldL Na n2 <| wNone <| wIsNoneN <| wTruthB ?_
          refine store_ret q1 hlen hLG fun s' t₁ t₂ w1 w2 w3 => fin 1 ?_ s' t₁ t₂ (q2.trans w1.o) w2 w3
          unfold ansN; simp
        | some x =>
          obtain ⟨tx, rfl⟩ := hf
          refine wCons <| wIf <| wIsCmp <| ldL Na n2 <| wNone <| wIsNoneS <| wTruthB ?_
          refine wNil ?_
          obtain ⟨vd, pd, id⟩ := q1.rdy.dirs
          refine wCons <| wFor <| ldDirs q1 (iterL (s := { a with toks := _ }) pd.isList ?_) rfl rfl rfl (by with_unfolding_all rfl)
          intro s₄ I' l₄ eI k₄ z₄ hit
          change Kept a.heap s₄.heap at k₄
          change I' = a.heap.objs.size at eI
          have hLa : @LT.lt Nat _ L a.heap.objs.size := Na.lt
          have hPa : @LT.lt Nat _ P a.heap.objs.size := plist_lt pd
          have hsa : s.heap.objs.size ≤ a.heap.objs.size := by omega
          refine for_list hh (neN (by omega)) (fun i b => NmJ prog w mg mb s L X D S0 P G mods dirs kvs (.str x tx) m t b ∧ LikeO s b ∧ ∀ j k, j < i → dirs[j]? = some k → Txt.startswith x (k ++ "/") = false) ?_ ⟨hit, (pd.at fun o e => k₄ _ _ e).isList⟩
            ⟨q1.over k₄, q2.trans (LikeO.trans ⟨rfl, rfl⟩ l₄.o), fun j k hj => absurd hj (Nat.not_lt_zero _)⟩ ?_ ?_
          · rintro i b c ⟨w1, w2, w3⟩ lb kb
            exact ⟨w1.but H r (by omega) (neN (by omega)) kb, w2.trans lb.o, w3⟩
          · rintro i v b hi hv hsta ⟨w1, w2, w3⟩
            obtain ⟨key, tk, rfl, hkey⟩ := strsAre_get' id (by simpa using hv)
            obtain ⟨mm, Nb, n1, n2, n3⟩ := w1.ns
            refine wAssignN <| stL Nb ?_
            intro c lc Sc Nc
            have v1 := upd_ne (x := "d") (v := .str key tk) n1 (by decide)
            have v2 := upd_ne (x := "d") (v := .str key tk) n2 (by decide)
            have v3 := upd_ne (x := "d") (v := .str key tk) n3 (by decide)
            have jc := w1.loc (mm := mm) H r hLs Sc Nc ⟨v1, v2, v3⟩
            have hkm : key ∈ dirs := List.mem_of_getElem? hkey
            refine wCons <| wIf <| wIsValue <| wMeth <| ldL Nc v2 <| mStarts <| wB1 <| wICons <| wBinOp <| ldL Nc rfl <| ldG jc.host rfl <| wCat (by have := hdl key hkm; rw [show (Str.ofString "/").length = 1 by decide]; omega) ?_
            intro t' tk'
            refine wINil <| cStarts <| wTruthB ?_
            have jc' : ∀ y, NmJ prog w mg mb s L X D S0 P G mods dirs kvs (.str x tx) m t { c with toks := y } := fun _ => jc.over fun _ _ e => e
            cases hst' : Txt.startswith x (key ++ "/") with
            | true =>
              refine store_ret (jc' _) hlen hLG fun s' t₁ t₂ y1 y2 y3 => fin 1 ?_ s' t₁ t₂ (w2.trans (lc.o.trans (LikeO.trans ⟨rfl, rfl⟩ y1.o))) y2 y3
              have : dirs.any (fun d => Txt.startswith x (d ++ "/")) = true := List.any_eq_true.mpr ⟨key, hkm, hst'⟩
              rw [ansN_some, this]; simp
            | false =>
              refine wNil <| wNil ⟨⟨hsta.1.at fun o e => Sc.extBut _ o (neN (by omega)) e, hsta.2.at fun o e => Sc.extBut _ o (neN (by have := r.lt P (.inr (.inr (.inr (.inl rfl)))); omega)) e⟩, jc' _, w2.trans (lc.o.trans ⟨rfl, rfl⟩), fun j k' hj hk' => ?_⟩
              rcases Nat.lt_succ_iff_lt_or_eq.mp hj with hj | rfl
              · exact w3 j k' hj hk'
              · rw [hkey] at hk'; cases hk'; exact hst'
          · rintro b ⟨w1, w2, w3⟩
            have hno2 : dirs.any (fun d => Txt.startswith x (d ++ "/")) = false := by
              rw [List.any_eq_false]
              intro k' hk'
              obtain ⟨j, hj⟩ := List.getElem?_of_mem hk'
              have hl := (List.getElem?_eq_some_iff.mp hj).1
              rw [w3 j k' (by rw [List.size_toArray, strsAre_length id]; exact hl) hj]
              exact Bool.false_ne_true
            refine store_ret w1 hlen hLG fun s' t₁ t₂ y1 y2 y3 => fin 0 ?_ s' t₁ t₂ (w2.trans y1.o) y2 y3
            rw [ansN_some, hno, hno2, decide_eq_false hm]; rfl
end

section
variable {prog : Program} {w : World} {mg mb : Str → Option Value} {A : Around} {s : Shared} {env : Env}

/-- a comprehension's loop is proved by an invariant over the state -/
structure CompOk (prog : Program) (w : World) (A : Around) (target elt : Expr) (cenv : Env) (I D : Addr) (s : Shared) (fin : Shared → Prop) : Prop where
  out : ∃ (fp : List Addr) (n : Nat) (P : Nat → Value → Prop) (St : Nat → Heap → Prop) (J : Nat → Shared → Prop), Walks prog w A I fp [I] n P St ∧
    (∀ i v s (Q : Unit → Shared → Prop) E, St (i + 1) s.heap → Q () s → wpAny (model prog w) A (letOwnedTupleGo target (.ref I) v) Q E s) ∧
    (∀ i s s', J i s → Like s s' → (∀ b o, b ≠ I → s.heap.get? b = some o → s'.heap.get? b = some o) → J i s') ∧ St 0 s.heap ∧ J 0 s ∧
    (∀ i v s₁, i < n → P i v → St (i + 1) s₁.heap → J i s₁ → Wp prog w A (assign target cenv v) (fun _ s₂ => Wp prog w A (eval elt cenv) (fun y s₃ =>
      Wp prog w A (call (.builtin "list.append") [.ref D, y]) (fun _ s₄ => St (i + 1) s₄.heap ∧ J (i + 1) s₄) s₃) s₂) s₁) ∧
    ∀ s', J n s' → fin s'

theorem comp_loop {target elt iter : Expr} {scope : Scope} {pos : Pos} {cenv : Env} {I D : Addr} {fin : Shared → Prop} {R : Result → Shared → Prop} (c : CompOk prog w A target elt cenv I D s fin) (hR : ∀ s', fin s' → R (.ok .next) s') :
    codeAny (model prog w) A (.compLoop (.ListComp elt [⟨target, iter, [], 0⟩] scope pos) 0 (.ref I) (.ref D) cenv) R s := by
  obtain ⟨fp, n, P, St, J, W, go, hJ, hst, h0, turn, hend⟩ := c.out
  refine codeAny_loop rfl (fun k s' => ∃ i, i ≤ n ∧ k = n + 1 - i ∧ St i s'.heap ∧ J i s') (fun k s hI => ?_) (n + 1) ⟨0, Nat.zero_le _, rfl, hst, h0⟩
  obtain ⟨i, hi, rfl, hst', hj⟩ := hI
  show wpAny _ A ((compTurn (.ListComp elt [⟨target, iter, [], 0⟩] scope pos) 0 (.ref I) (.ref D) cenv).onRaise (fun x => do noteFrame x cenv; theTreesLotGoes x)) _ _ s
  refine wpAny_noted ?_
  rw [compTurn_list1]
  refine wpAny_bind (wpAny_standAt (wpAny_bind ?_))
  by_cases hlt : i < n
  · refine W.item i s _ _ hlt hst' fun v h' tk hp hst₁ hk => ?_
    have hj' : J i { s with heap := h', toks := tk } := hJ i s _ hj ⟨rfl, rfl, rfl⟩ fun b o hb e => hk b o (by simpa using hb) e
    refine wpAny_bind (go i v _ _ _ hst₁ ?_)
    refine wpAny_bind (wpAny_mono ((turn i v _ hlt hp hst₁ hj').out _) (fun _ s₂ h₂ => ?_) fun _ _ e => e)
    refine wpAny_bind (wpAny_bind (wpAny_mono (h₂.out _) (fun y s₃ h₃ => ?_) fun _ _ e => e))
    refine wpAny_bind (wpAny_mono (h₃.out _) (fun _ s₄ h₄ => wpAny_pure (wpAny_pure ⟨rfl, n + 1 - (i + 1), by omega, i + 1, hlt, rfl, h₄.1, h₄.2⟩)) fun _ _ e => e)
  · have hin : i = n := by omega
    subst hin
    refine W.done s _ _ hst' fun h' tk hk => ?_
    exact wpAny_pure (hR _ (hend _ (hJ i s _ hj ⟨rfl, rfl, rfl⟩ fun b o hb e => hk b o (by simpa using hb) e)))

theorem CompOk.self {target elt : Expr} {cenv : Env} {I D : Addr} {fin : Shared → Prop} {Q : Value → Shared → Prop} {E} (c : CompOk prog w A target elt cenv I D s fin) (hq : Q (.ref I) s) : wpAny (model prog w) A (pyIter (.ref I)) Q E s := by
  obtain ⟨fp, n, P, St, J, W, _, _, hst, _⟩ := c.out
  exact W.self 0 s Q E hst hq

theorem comp_block {target elt iter : Expr} {scope : Scope} {cl : List (Str × Addr)} {pos : Pos} {I : Addr} {RR : Value → Addr → Result → Shared → Prop} {E : Value → Shared → Prop}
    (hcell : ∀ y ∈ scope.names, y.2 ≠ .cell) (hkind : scope.kind = .function)
    (h : ∀ s₃ D C, Like s s₃ → D = s.heap.objs.size → C = s.heap.objs.size + 1 → Kept s.heap s₃.heap → s₃.heap.PlainList D #[] → s₃.heap.Ns C (fun _ => none) →
      CompOk prog w A target elt (compEnvC scope cl C env) I D s₃ (fun s' => RR (.ref D) C (.ok .next) s')) :
    wpAny (model prog w) A (newList []) (fun acc s₃ => wpAny (model prog w) A (newFunctionEnv scope env.globals cl [] env.qual none .none (some env)) (fun cenv s₄ =>
      codeAny (model prog w) A (.compStart (.ListComp elt [⟨target, iter, [], 0⟩] scope pos) 0 (.ref I) acc { cenv with scope := relabel scope env }) (RR acc cenv.locals) s₄) E s₃) E s := by
  refine wpAny_newObj_type (wpAny_newFunctionEnv hcell (by intro y hy; simp at hy) (fun h₁ hns₁ hsb₁ => ?_) hkind)
  dsimp only at hns₁ hsb₁ ⊢
  have hC : (s.heap.push { cls := .type "list", dict := none, data := .seq ([] : List Value).toArray }).objs.size = s.heap.objs.size + 1 := Heap.size_push _ _
  have old : Kept s.heap h₁ := fun b o e => hsb₁.extBut b o (by rw [hC]; exact Nat.ne_of_lt (Nat.lt_succ_of_lt (Heap.lt_size e))) (Heap.get?_push_of_some _ (Heap.get?_push_of_some _ e))
  have hacc : h₁.PlainList s.heap.objs.size #[] := ⟨_, hsb₁.extBut _ _ (by rw [hC]; exact Nat.ne_of_lt (Nat.lt_succ_self _)) (Heap.get?_push_of_some _ (Heap.get?_push_size _ rfl))⟩
  have c := h { s with heap := h₁, toks := s.toks + ([] : List (Str × Value)).length } s.heap.objs.size _ ⟨rfl, rfl, rfl⟩ rfl hC old hacc hns₁
  exact codeAny_compStart_list (comp_loop c fun _ q => q) (c.self (comp_loop c fun _ q => q))

/-- a comprehension's value -/
theorem wCompJ {elt iter target : Expr} {scope : Scope} {cl : List (Str × Addr)} {pos : Pos} {Q : Value → Shared → Prop} (hclos : closureFor scope env = pure cl)
    (h : Wp prog w A (eval iter env) (fun xv s₁ => Wp prog w A (pyIter xv) (fun it s₂ => ∃ I, it = .ref I ∧ ∀ s₃ D C, Like s₂ s₃ → D = s₂.heap.objs.size → C = s₂.heap.objs.size + 1 → Kept s₂.heap s₃.heap → s₃.heap.PlainList D #[] → s₃.heap.Ns C (fun _ => none) →
      CompOk prog w A target elt (compEnvC scope cl C env) I D s₃ (fun s' => (∃ m, s'.heap.Ns C m) ∧ ∀ s'', Like s' s'' → Heap.SameBut C s'.heap s''.heap → Q (.ref D) s'')) s₁) s)
    (hcell : ∀ y ∈ scope.names, y.2 ≠ .cell := by decide) (hkind : scope.kind = .function := by rfl)
    (hnames : ∀ y ∈ scope.names, y.2 = .local → scope.names.lookup y.1 = some .local := by decide)
    (hs : ∀ x, foldedSetIterable iter env x = pure x := by intro _; rfl) :
    Wp prog w A (eval (.ListComp elt [⟨target, iter, [], 0⟩] scope pos) env) Q s := ⟨fun E => by
  rw [eval_ListComp]
  refine wpAny_comprehension_free (use := none) rfl hs hclos hkind hnames (wpAny_mono (h.out E) (fun xv s₁ h₁ => wpAny_mono (h₁.out E) (fun it s₂ h₂ => ?_) fun _ _ e => e) fun _ _ e => e)
  obtain ⟨I, rfl, h₂⟩ := h₂
  refine comp_block (RR := fun acc C => compPost (model prog w) A E none Q acc C) hcell hkind fun s₃ D C a1 a2 a3 a4 a5 a6 => ?_
  obtain ⟨fp, n, P, St, J, b1, b2, b3, b4, b5, b6, b7⟩ := (h₂ s₃ D C a1 a2 a3 a4 a5 a6).out
  refine ⟨fp, n, P, St, J, b1, b2, b3, b4, b5, b6, fun s' hj => ?_⟩
  obtain ⟨⟨m, hn⟩, q⟩ := b7 s' hj
  exact ⟨m, hn, fun h' hs => q { s' with heap := h' } ⟨rfl, rfl, rfl⟩ hs⟩⟩

/-- a comprehension's value, stored to a local name -/
theorem wAssignCompJ {elt iter target : Expr} {y : Str} {py : Pos} {scope : Scope} {cl : List (Str × Addr)} {pos spos : Pos} {Q : Flow → Shared → Prop} (hclos : closureFor scope env = pure cl)
    (h : Wp prog w A (eval iter env) (fun xv s₁ => Wp prog w A (pyIter xv) (fun it s₂ => ∃ I, it = .ref I ∧ ∀ s₃ D C, Like s₂ s₃ → D = s₂.heap.objs.size → C = s₂.heap.objs.size + 1 → Kept s₂.heap s₃.heap → s₃.heap.PlainList D #[] → s₃.heap.Ns C (fun _ => none) →
      CompOk prog w A target elt (compEnvC scope cl C env) I D s₃ (fun s' => (∃ m, s'.heap.Ns C m) ∧ C ≠ env.locals ∧ ∃ mL, s'.heap.Ns env.locals mL ∧ ∀ s'', Like s' s'' → (∀ b o, b ≠ C → b ≠ env.locals → s'.heap.get? b = some o → s''.heap.get? b = some o) →
        s''.heap.Ns env.locals (fun z => if z = y then some (.ref D) else mL z) → Q .next s'')) s₁) s)
    (hsw : swapsWith (.ListComp elt [⟨target, iter, [], 0⟩] scope pos) (some (.Name y py)) spos.line env = pure true := by rfl)
    (hcell : ∀ y ∈ scope.names, y.2 ≠ .cell := by decide) (hkind : scope.kind = .function := by rfl)
    (hnames : ∀ y ∈ scope.names, y.2 = .local → scope.names.lookup y.1 = some .local := by decide)
    (hy : env.kindOf y = some .local := by rfl) (hp : (env.scope.kind == .class || (env.scope.kind == .module && env.locals != env.globals)) = false := by rfl)
    (hs : ∀ x, foldedSetIterable iter env x = pure x := by intro _; rfl) :
    Wp prog w A (exec (.Assign [.Name y py] (.ListComp elt [⟨target, iter, [], 0⟩] scope pos) spos) env) Q s := ⟨fun E => by
  rw [exec_Assign_Name_used _ _ _ _ hsw]
  refine wpAny_bind (wpAny_standAt (wpAny_bind ?_))
  show wpAny _ A (do let _ ← comprehension (.ListComp elt [⟨target, iter, [], 0⟩] scope pos) scope env _ (newList []) false (eval iter env) (some (assign (.Name y py) env))) _ _ s
  refine wpAny_bind (wpAny_mono (wpAny_comprehension_free (use := some (assign (.Name y py) env)) (Q := fun _ s' => Q .next s') rfl hs hclos hkind hnames
    (wpAny_mono (h.out E) (fun xv s₁ h₁ => wpAny_mono (h₁.out E) (fun it s₂ h₂ => ?_) fun _ _ e => e) fun _ _ e => e)) (fun _ s' hq => wpAny_pure (wpAny_pure hq)) fun _ _ e => e)
  obtain ⟨I, rfl, h₂⟩ := h₂
  refine comp_block (RR := fun acc C => compPost (model prog w) A E (some (assign (.Name y py) env)) (fun _ s' => Q .next s') acc C) hcell hkind fun s₃ D C a1 a2 a3 a4 a5 a6 => ?_
  obtain ⟨fp, n, P, St, J, b1, b2, b3, b4, b5, b6, b7⟩ := (h₂ s₃ D C a1 a2 a3 a4 a5 a6).out
  refine ⟨fp, n, P, St, J, b1, b2, b3, b4, b5, b6, fun s' hj => ?_⟩
  obtain ⟨⟨m, hn⟩, hCL, mL, nL, q⟩ := b7 s' hj
  show wpAny _ A (assign (.Name y py) env (.ref D)) _ _ _
  refine wpAny_assign_Name (wpAny_storeName_local hy nL (fun h₂ hn₂ hs₂ => ?_) hp)
  refine ⟨m, hn.sameBut hs₂ hCL, fun h' hs => ?_⟩
  exact q { s' with heap := h', toks := _ } ⟨rfl, rfl, rfl⟩ (fun b o h1 h2 e => hs.extBut b o h1 (hs₂.extBut b o h2 e)) (hn₂.sameBut hs (Ne.symm hCL))⟩

/-- a list iterator lets no tuple go -/
theorem go_list {target : Expr} {I Dl : Addr} {items : Array Value} : ∀ (i : Nat) (v : Value) (s : Shared) (Q : Unit → Shared → Prop) E, (s.heap.IsListIter I Dl (i + 1) ∧ s.heap.IsList Dl items) → Q () s → wpAny (model prog w) A (letOwnedTupleGo target (.ref I) v) Q E s := by
  intro i v s Q E hst hq
  obtain ⟨o, ho, hc, hd⟩ := hst.1
  unfold letOwnedTupleGo
  split
  · split
    · rename_i r a e
      cases e
      refine wpAny_bind (wpAny_load ho ?_)
      rw [hc, hd]
      exact wpAny_pure hq
    · exact wpAny_pure hq
  · split
    · rename_i r a e
      cases e
      refine wpAny_bind (wpAny_load ho ?_)
      rw [hc, hd]
      exact wpAny_pure hq
    · exact wpAny_pure hq
  · exact wpAny_pure hq

/-- a quiet comprehension, stored to a local name -/
theorem wAssignComp {elt iter : Expr} {x y : Str} {px py : Pos} {ifs : List Expr} {scope : Scope} {cl : List (Str × Addr)} {pos spos : Pos} {Q : Flow → Shared → Prop} (p : Value → Bool) (F : Value → Value → Prop)
    (hclos : closureFor scope env = pure cl)
    (h : Wp prog w A (eval iter env) (fun xv s₁ => Wp prog w A (pyIter xv) (fun it s₂ => ∃ I fp wr n P St m, it = .ref I ∧ Walks prog w A I fp wr n P St ∧ n ≤ 100000 ∧ St 0 s₂.heap ∧ (∀ b ∈ fp, b < s₂.heap.objs.size) ∧
      env.locals ∉ wr ∧ s₂.heap.Ns env.locals m ∧ QuietOnC prog w A env scope cl x ifs elt wr P p F s₂ ∧
      (∀ D s' ys (vs : List Value), s₂.heap.get? D = none → s'.heap.PlainList D ys → vs.length = n → (∀ j v, vs[j]? = some v → P j v) → Paired F (vs.filter p) ys.toList →
        Like s₂ s' → s'.heap.Ns env.locals (fun z => if z = y then some (.ref D) else m z) → (∀ b o, b ≠ env.locals → b ∉ wr → s₂.heap.get? b = some o → s'.heap.get? b = some o) → Q .next s')) s₁) s)
    (hsw : swapsWith (.ListComp elt [⟨.Name x px, iter, ifs, 0⟩] scope pos) (some (.Name y py)) spos.line env = pure true := by rfl)
    (hcell : ∀ y ∈ scope.names, y.2 ≠ .cell := by decide) (hkind : scope.kind = .function := by rfl)
    (hnames : ∀ y ∈ scope.names, y.2 = .local → scope.names.lookup y.1 = some .local := by decide) (hx : scope.names.lookup x = some .local := by rfl)
    (hy : env.kindOf y = some .local := by rfl) (hp : (env.scope.kind == .class || (env.scope.kind == .module && env.locals != env.globals)) = false := by rfl)
    (hs : ∀ x, foldedSetIterable iter env x = pure x := by intro _; rfl) :
    Wp prog w A (exec (.Assign [.Name y py] (.ListComp elt [⟨.Name x px, iter, ifs, 0⟩] scope pos) spos) env) Q s :=
  ⟨fun E => wpAny_Assign_ListComp_free p F hsw hclos hcell hkind hnames hx hy hp (wpAny_mono (h.out E) (fun xv s₁ h₁ => wpAny_mono (h₁.out E) (fun it s₂ h₂ => by
    obtain ⟨I, fp, wr, n, P, St, m, e, W, hsz, hst, hfp, hL, hN, hq, hc⟩ := h₂
    exact ⟨I, fp, wr, n, P, St, m, e, W, by rw [sizeLine_eq]; omega, hst, hfp, hL, hN, hq, fun D h' tk ys vs q1 _ q3 q4 q5 q6 q7 q8 => hc D { s₂ with heap := h', toks := tk } ys vs q1 q3 q4 q5 q6 ⟨rfl, rfl, rfl⟩ q7 q8⟩) fun _ _ e => e) fun _ _ e => e) hs⟩
end

def Sm (n : Int) : Prop := -1 ≤ n ∧ n ≤ 4
theorem Sm.cases {n : Int} (h : Sm n) : n = -1 ∨ n = 0 ∨ n = 1 ∨ n = 2 ∨ n = 3 ∨ n = 4 := by unfold Sm at h; omega
theorem sm_all : ∀ (ns : List Int), (∀ n ∈ ns, Sm n) → PyData.showableAll (ns.map .int) = true ∧ PyData.hasDictAll (ns.map .int) = false ∧ PyData.leavesShortAll 13 (ns.map .int) = true ∧ PyData.depthAll (ns.map .int) = 0 ∧ PyData.weightAll (ns.map .int) ≤ 4 * ns.length
  | [], _ => by simp [PyData.showableAll, PyData.hasDictAll, PyData.leavesShortAll, PyData.depthAll, PyData.weightAll]
  | n :: ns, h => by
    obtain ⟨h1, h2, h3, h4, h5⟩ := sm_all ns fun m hm => h m (List.mem_cons_of_mem _ hm)
    have hn := h n (List.mem_cons_self ..)
    have e1 : PyData.showable (.int n) = true := by rcases hn.cases with rfl | rfl | rfl | rfl | rfl | rfl <;> decide +kernel
    have e2 : PyData.leavesShort 13 (.int n) = true := by rcases hn.cases with rfl | rfl | rfl | rfl | rfl | rfl <;> decide +kernel
    have e3 : PyData.weight (.int n) ≤ 3 := by rcases hn.cases with rfl | rfl | rfl | rfl | rfl | rfl <;> decide +kernel
    simp only [List.map_cons, PyData.showableAll, PyData.hasDictAll, PyData.hasDict, PyData.leavesShortAll, PyData.depthAll, PyData.depth, PyData.weightAll, e1, e2, h1, h2, h3, h4, List.length_cons]
    refine ⟨rfl, rfl, rfl, rfl, by omega⟩

def shownI (ns : List Int) : Str := (PyData.list (ns.map .int)).shown

section
variable {prog : Program} {w : World} {mg mb : Str → Option Value} {A : Around} {s : Shared} {env : Env}

/-- str() of a list of small ints -/
theorem wStrIL {r : Addr} {ns : List Int} {Q : Value → Shared → Prop} (g : GoodI s.heap r ns) (hs : ∀ n ∈ ns, Sm n) (hl : ns.length ≤ 1000) (hg : A.guards = some []) (hu : A.units + 100 < cLine)
    (h : ∀ s' t, Like s s' → Kept s.heap s'.heap → Q (.str (shownI ns) t) s') : Wp prog w A (call (.type "str") [.ref r]) Q s := ⟨fun E => by
  obtain ⟨vs, p, i⟩ := g
  obtain ⟨h1, h2, h3, h4, h5⟩ := sm_all ns hs
  obtain ⟨nn, e⟩ := p
  have rd : Reads s.heap (.ref r) (.list (ns.map .int)) (r :: []) := .list e rfl rfl (by simpa using i.reads s.heap)
  have dd : (PyData.list (ns.map .int)).depth = 1 := by simp only [PyData.depth, h4]
  have hsz := PyData.shown_le 13 (by decide) (.list (ns.map .int)) (by simpa only [PyData.leavesShort] using h3)
  have hw : (PyData.list (ns.map .int)).weight ≤ 4 * ns.length := by simpa only [PyData.weight] using h5
  refine str_of_reads rd (by simpa only [PyData.showable] using h1) (PyData.noDict_hsm (by simpa only [PyData.hasDict] using h2)) hg (by rw [dd]; omega) (fun _ _ e => e) (fun h' u tk hk => h { s with heap := h', toks := tk } u ⟨rfl, rfl, rfl⟩ hk) ?_
  rw [sizeLine_eq]
  have : (13 + 2) * (PyData.list (ns.map .int)).weight ≤ 60000 := by omega
  omega⟩
theorem wStrI {a : Int} {t : Tok} {Q : Value → Shared → Prop} (ha : Sm a) (h : Q (.str (toString a) s.toks) { s with toks := s.toks + 1 }) : Wp prog w A (call (.type "str") [.int a t]) Q s :=
  ⟨fun _ => PySem.P.str_of_int (by rcases ha.cases with rfl | rfl | rfl | rfl | rfl | rfl <;> decide +kernel) h⟩

theorem wSliceL {value : Expr} {lower upper : Option Expr} {p pos : Pos} {Q : Value → Shared → Prop}
    (h : Wp prog w A (eval value env) (fun o s₁ => Wp prog w A (evalPart lower env) (fun vl s₂ => Wp prog w A (evalPart upper env) (fun vu s₃ =>
      ∃ l items lo hi, o = .ref l ∧ s₃.heap.IsList l items ∧ items.size ≤ 100000 ∧ IsPart vl lo ∧ IsPart vu hi ∧
        ∀ s', Like s₃ s' → Kept s₃.heap s'.heap → s'.heap.PlainList (s₃.heap.objs.size + 1) (slicePick items lo hi none) → s'.heap.objs.size = s₃.heap.objs.size + 2 → Q (.ref (s₃.heap.objs.size + 1)) s') s₂) s₁) s)
    (ht : ∀ o r, letTemporaryGo value o r = pure () := by intro _ _; rfl) :
    Wp prog w A (eval (.Subscript value (.Slice lower upper none p) pos) env) Q s :=
  ⟨fun E => wpAny_Subscript_list_slice (wpAny_mono (h.out E) (fun o s₁ h₁ => wpAny_mono (h₁.out E) (fun vl s₂ h₂ => wpAny_mono (h₂.out E) (fun vu s₃ h₃ => by
    obtain ⟨l, items, lo, hi, e1, e2, e3, e4, e5, hq⟩ := h₃
    refine ⟨l, items, lo, hi, e1, e2, by rw [sizeLine_eq]; omega, e4, e5, hq _ ⟨rfl, rfl, rfl⟩ (fun b o e => Heap.get?_push_of_some _ (Heap.get?_push_of_some _ e)) ?_ (by simp)⟩
    refine ⟨0, ?_⟩
    have : s₃.heap.objs.size + 1 = (s₃.heap.push { cls := .type "slice", data := .fields #[vl, vu, .none] }).objs.size := by rw [Heap.size_push]
    rw [this]
    exact Heap.get?_push_size _ rfl) fun _ _ e => e) fun _ _ e => e) fun _ _ e => e) ht⟩
theorem wPart0 {Q : Value → Shared → Prop} (h : Q .none s) : Wp prog w A (evalPart none env) Q s := ⟨fun _ => by rw [evalPart_none]; exact wpAny_pure h⟩
theorem wPart1 {e : Expr} {Q : Value → Shared → Prop} (h : Wp prog w A (eval e env) Q s) : Wp prog w A (evalPart (some e) env) Q s := ⟨fun E => h.out E⟩

/-- range(b), small: its iterator -/
theorem range1_iter {x : Str} {p pos p2 : Pos} {b : Int} {k2 : Nat} {Q : Value → Shared → Prop} (H : Host w mg mb s.heap)
    (hab : 0 ≤ b) (hb : b < 2 ^ 62)
    (h : ∀ s' I, Like s s' → Kept s.heap s'.heap → s.heap.objs.size < I → IsRangeIter s'.heap I (0 + (0 : Nat) * 1) (((b - 0).toNat : Int) - (0 : Nat)) 1 → s'.heap.objs.size = I + 1 → Q (.ref I) s')
    (hx : x = "range" := by rfl) (hk : env.scope.kind = .function := by rfl) (hl : env.kindOf "range" = some .globalImplicit := by rfl)
    (hg : env.globals = mainGlobals := by rfl) (hbl : env.builtins = builtinsNs := by rfl) :
    Wp prog w A (eval (.Call (.Name x p) [.Constant (.int b) k2 p2] [] pos) env) (fun v s' => Wp prog w A (pyIter v) Q s') s := by
  subst hx
  refine wCall (ldB H rfl boot_range (by decide) ?_ hk hl (by decide) hg hbl)
  refine wT1 (wICons (wInt (wINil ⟨fun E => call_range_1 ?_⟩)))
  refine ⟨fun E => wpAny_pyIter_range (IsRange.new ..) (small_one (by decide) (by decide) (by omega) hb) ?_⟩
  refine h _ _ ⟨rfl, rfl, rfl⟩ (fun b o e => Heap.get?_push_of_some _ (Heap.get?_push_of_some _ e)) (by simp) ?_ (by simp)
  have e : Builtin.Range.rangeSize 0 b 1 = ((b - 0).toNat : Int) - (0 : Nat) := by rw [rangeSize_one]; split <;> omega
  have e2 : 0 + ((0 : Nat) : Int) * 1 = 0 := by simp
  rw [← e, e2]
  exact Heap.get?_push_size _ rfl
end

def tr (n : Int) : List Str := (trailsL 31).getD n.toNat []
def modN (n : Int) : Str := Txt.join "." (tr n)
def fileN (n : Int) : Str := ("/" : Str) ++ Txt.join "/" (tr n)

theorem F1b : ((List.range 31).all fun i => (List.range 31).all fun j => (decide (modN ((i : Int) + 1) = modN ((j : Int) + 1))) == decide (i = j)) = true := by decide +kernel
theorem F2b : ((List.range 31).all fun i => (List.range 31).all fun j => (decide (modN ((i : Int) + 1) = modN ((j : Int) + 1)) || Txt.startswith (modN ((i : Int) + 1)) (modN ((j : Int) + 1) ++ ".")) == under ((i : Int) + 1) ((j : Int) + 1)) = true := by decide +kernel
theorem F3b : ((List.range 31).all fun i => (List.range 31).all fun j => (Txt.startswith (fileN ((i : Int) + 1)) (fileN ((j : Int) + 1) ++ "/")) == under (((i : Int) + 1).fdiv 2) ((j : Int) + 1)) = true := by decide +kernel

theorem F4b : ((List.range 31).all fun i => !decide (modN ((i : Int) + 1) = "<string>") && decide ((modN ((i : Int) + 1)).length ≤ 100) && decide ((fileN ((i : Int) + 1)).length ≤ 100)) = true := by decide +kernel

theorem rng {n : Int} (h1 : 1 ≤ n) (h2 : n ≤ 31) : ∃ i : Nat, i ∈ List.range 31 ∧ n = (i : Int) + 1 := ⟨(n - 1).toNat, by simp; omega, by omega⟩
theorem all2 {p : Int → Int → Bool} (h : ((List.range 31).all fun i => (List.range 31).all fun j => p ((i : Int) + 1) ((j : Int) + 1)) = true) {n m : Int} (h1 : 1 ≤ n) (h2 : n ≤ 31) (h3 : 1 ≤ m) (h4 : m ≤ 31) : p n m = true := by
  obtain ⟨i, hi, rfl⟩ := rng h1 h2
  obtain ⟨j, hj, rfl⟩ := rng h3 h4
  exact List.all_eq_true.mp (List.all_eq_true.mp h i hi) j hj
theorem all1 {p : Int → Bool} (h : ((List.range 31).all fun i => p ((i : Int) + 1)) = true) {n : Int} (h1 : 1 ≤ n) (h2 : n ≤ 31) : p n = true := by
  obtain ⟨i, hi, rfl⟩ := rng h1 h2
  exact List.all_eq_true.mp h i hi
theorem modN_inj {n m : Int} (h1 : 1 ≤ n) (h2 : n ≤ 31) (h3 : 1 ≤ m) (h4 : m ≤ 31) (e : modN n = modN m) : n = m := by
  obtain ⟨i, hi, rfl⟩ := rng h1 h2
  obtain ⟨j, hj, rfl⟩ := rng h3 h4
  have := List.all_eq_true.mp (List.all_eq_true.mp F1b i hi) j hj
  rw [beq_iff_eq, decide_eq_true e] at this
  have : i = j := of_decide_eq_true this.symm
  rw [this]
theorem mod_under {n m : Int} (h1 : 1 ≤ n) (h2 : n ≤ 31) (h3 : 1 ≤ m) (h4 : m ≤ 31) : (decide (modN n = modN m) || Txt.startswith (modN n) (modN m ++ ".")) = under n m :=
  beq_iff_eq.mp (all2 (p := fun n m => (decide (modN n = modN m) || Txt.startswith (modN n) (modN m ++ ".")) == under n m) F2b h1 h2 h3 h4)
theorem file_under {n m : Int} (h1 : 1 ≤ n) (h2 : n ≤ 31) (h3 : 1 ≤ m) (h4 : m ≤ 31) : Txt.startswith (fileN n) (fileN m ++ "/") = under (n.fdiv 2) m :=
  beq_iff_eq.mp (all2 (p := fun n m => Txt.startswith (fileN n) (fileN m ++ "/") == under (n.fdiv 2) m) F3b h1 h2 h3 h4)
theorem modN_facts {n : Int} (h1 : 1 ≤ n) (h2 : n ≤ 31) : modN n ≠ "<string>" ∧ (modN n).length ≤ 100 ∧ (fileN n).length ≤ 100 := by
  have := all1 (p := fun n => !decide (modN n = "<string>") && decide ((modN n).length ≤ 100) && decide ((fileN n).length ≤ 100)) F4b h1 h2
  simpa [and_assoc] using this

theorem any_or {α : Type} (l : List α) (p q : α → Bool) : (l.any p || l.any q) = l.any fun x => p x || q x := by
  induction l with
  | nil => rfl
  | cons a l ih =>
    simp only [List.any_cons, ← ih]
    cases p a <;> cases q a <;> cases l.any p <;> rfl
theorem any_congr {l : List Int} {p q : Int → Bool} (h : ∀ m ∈ l, p m = q m) : l.any p = l.any q := by
  induction l with
  | nil => rfl
  | cons a l ih => simp only [List.any_cons]; rw [h a (List.mem_cons_self ..), ih fun m hm => h m (List.mem_cons_of_mem _ hm)]
def fileOf (d : Int) : Option Str := if 0 < d then some (fileN d) else none

theorem ans_eq {shut closed : List Int} (hs : ∀ m ∈ shut, 1 ≤ m ∧ m ≤ 31) (hc : ∀ m ∈ closed, 1 ≤ m ∧ m ≤ 31) {n d : Int} (h1 : 1 ≤ n) (h2 : n ≤ 31) (h3 : 0 ≤ d) (h4 : d ≤ 31) :
    ansN (shut.map modN) (closed.map fileN) (fileOf d) (modN n) = ansD shut closed n d := by
  have e1 : (decide (modN n ∈ shut.map modN) || (shut.map modN).any fun k => Txt.startswith (modN n) (k ++ ".")) = shut.any (under n) := by
    have : decide (modN n ∈ shut.map modN) = shut.any fun m => decide (modN n = modN m) := by
      rw [Bool.eq_iff_iff]
      simp only [decide_eq_true_eq, List.mem_map, List.any_eq_true]
      exact ⟨fun ⟨m, a, b⟩ => ⟨m, a, b.symm⟩, fun ⟨m, a, b⟩ => ⟨m, a, b.symm⟩⟩
    rw [this, List.any_map, any_or]
    exact any_congr fun m hm => mod_under h1 h2 (hs m hm).1 (hs m hm).2
  by_cases hd : 0 < d
  · have hf : fileOf d = some (fileN d) := if_pos hd
    rw [hf, ansN_some]
    have e2 : (closed.map fileN).any (fun k => Txt.startswith (fileN d) (k ++ "/")) = closed.any (under (d.fdiv 2)) := by
      rw [List.any_map]
      exact any_congr fun m hm => file_under (by omega) h4 (hc m hm).1 (hc m hm).2
    have ed : (d == 0) = false := beq_eq_false_iff_ne.mpr (by omega)
    unfold ansD
    rw [← Bool.or_assoc, e1, e2, ed, Bool.false_or]
  · have hf : fileOf d = none := if_neg hd
    have ed : d = 0 := by omega
    subst ed
    rw [hf]
    unfold ansN ansD
    simp

def SameK (kn : Int → Option Int) (f : Str → Option Int) : Prop := ∀ n, 1 ≤ n → n ≤ 31 → f (modN n) = kn n
theorem told_step {ans : Int → Int → Int} {R : (Int → Option Int) × List Int} {f : Str → Option Int} (h : SameK R.1 f) {n d a : Int} (h1 : 1 ≤ n) (h2 : n ≤ 31) (ha : a = ans n d) :
    SameK (stepA ans R (n, d)).1 (knowN f (modN n) a) ∧ (stepA ans R (n, d)).2 = R.2 ++ [tellN f (modN n) a] := by
  have hn := h n h1 h2
  unfold stepA knowN tellN
  dsimp only
  cases e : R.1 n with
  | some v =>
    rw [e] at hn
    rw [hn]
    exact ⟨h, rfl⟩
  | none =>
    rw [e] at hn
    rw [hn]
    refine ⟨fun m q1 q2 => ?_, by rw [ha]; rfl⟩
    dsimp only
    by_cases hm : m = n
    · subst hm; rw [if_pos rfl, if_pos rfl, ha]
    · rw [if_neg hm, if_neg fun e => hm (modN_inj q1 q2 h1 h2 e)]
      exact h m q1 q2
def inter (sep : Str) : List Str → List Str
  | [] => []
  | [x] => [x]
  | x :: y :: r => x :: sep :: inter sep (y :: r)
def parts0 (ws : List Str) : List Str := ws
def parts1 (ws : List Str) : List Str := "" :: "" :: (inter "." ws ++ ([""] : List Str))
def parts2 (ws : List Str) : List Str := "ab" :: ".." :: (inter "" ws ++ (["."] : List Str))
def parts3 (ws : List Str) : List Str := ".." :: (ws ++ (["a", ".."] : List Str))
theorem cut0 : ((List.range 31).all fun i => decide (partsOf (written (tr ((i : Int) + 1)) 0) = parts0 (tr ((i : Int) + 1)))) = true := by decide +kernel
theorem cut1 : ((List.range 31).all fun i => decide (partsOf (written (tr ((i : Int) + 1)) 1) = parts1 (tr ((i : Int) + 1)))) = true := by decide +kernel
theorem cut2 : ((List.range 31).all fun i => decide (partsOf (written (tr ((i : Int) + 1)) 2) = parts2 (tr ((i : Int) + 1)))) = true := by decide +kernel
theorem cut3 : ((List.range 31).all fun i => decide (partsOf (written (tr ((i : Int) + 1)) 3) = parts3 (tr ((i : Int) + 1)))) = true := by decide +kernel
theorem goodW : ((List.range 31).all fun i => !(tr ((i : Int) + 1)).isEmpty && (tr ((i : Int) + 1)).all fun c => decide (c = "a") || decide (c = "ab")) = true := by decide +kernel
theorem lens (j : Nat) (hj : j ∈ List.range 4) : ((List.range 31).all fun i => decide ((written (tr ((i : Int) + 1)) (j : Int)).length ≤ 1000) && decide ((written (tr ((i : Int) + 1)) (j : Int)).length ≠ 0)) = true := by
  have : ((List.range 4).all fun j => (List.range 31).all fun i => decide ((written (tr ((i : Int) + 1)) (j : Int)).length ≤ 1000) && decide ((written (tr ((i : Int) + 1)) (j : Int)).length ≠ 0)) = true := by decide +kernel
  exact List.all_eq_true.mp this j hj
theorem roots (j : Nat) (hj : j ∈ List.range 4) : ((List.range 31).all fun i => (fun p : Str => decide (Txt.slice p none (some 1) = "/") && (!decide (Txt.slice p (some 1) (some 2) = "/") || decide (Txt.slice p (some 2) (some 3) = "/"))) (written (tr ((i : Int) + 1)) (j : Int))) = true := by
  have : ((List.range 4).all fun j => (List.range 31).all fun i => (fun p : Str => decide (Txt.slice p none (some 1) = "/") && (!decide (Txt.slice p (some 1) (some 2) = "/") || decide (Txt.slice p (some 2) (some 3) = "/"))) (written (tr ((i : Int) + 1)) (j : Int))) = true := by decide +kernel
  exact List.all_eq_true.mp this j hj

def Word (c : Str) : Prop := c = "a" ∨ c = "ab"
theorem nstep_word {acc : List Str} {c : Str} (h : Word c) : nstep acc c = acc ++ [c] := by
  unfold nstep
  rcases h with rfl | rfl
  · rw [if_neg (by decide), if_pos (.inl (by decide))]
  · rw [if_neg (by decide), if_pos (.inl (by decide))]
theorem nstep_none {acc : List Str} {c : Str} (h : c = "" ∨ c = ".") : nstep acc c = acc := by
  unfold nstep
  rcases h with rfl | rfl
  · rw [if_pos (.inl (by decide))]
  · rw [if_pos (.inr rfl)]
theorem nstep_up {acc : List Str} (h : acc.getLast? ≠ some "..") : nstep acc ".." = acc.dropLast := by
  unfold nstep
  rw [if_neg (by decide), if_neg (fun q => q.elim (fun e => e rfl) h)]
theorem fold_words : ∀ (ws acc : List Str), (∀ c ∈ ws, Word c) → ws.foldl nstep acc = acc ++ ws
  | [], acc, _ => by simp
  | c :: r, acc, h => by
    rw [List.foldl_cons, nstep_word (h c (List.mem_cons_self ..)), fold_words r _ fun d hd => h d (List.mem_cons_of_mem _ hd)]
    simp
theorem fold_inter {sep : Str} (hs : sep = "" ∨ sep = ".") : ∀ (ws acc : List Str), (∀ c ∈ ws, Word c) → (inter sep ws).foldl nstep acc = acc ++ ws
  | [], acc, _ => by simp [inter]
  | [x], acc, h => by rw [inter, List.foldl_cons, List.foldl_nil, nstep_word (h x (List.mem_cons_self ..))]
  | x :: y :: r, acc, h => by
    rw [inter, List.foldl_cons, List.foldl_cons, nstep_word (h x (List.mem_cons_self ..)), nstep_none hs, fold_inter hs (y :: r) _ fun d hd => h d (List.mem_cons_of_mem _ hd)]
    simp
theorem inter_len {sep : Str} : ∀ (ws : List Str), (inter sep ws).length ≤ 2 * ws.length
  | [] => by simp [inter]
  | [x] => by simp [inter]
  | x :: y :: r => by
    have := inter_len (sep := sep) (y :: r)
    rw [inter, List.length_cons, List.length_cons]
    simp only [List.length_cons] at this ⊢
    omega
theorem inter_mem {sep : Str} : ∀ {ws : List Str} {c : Str}, c ∈ inter sep ws → c = sep ∨ c ∈ ws
  | [x], c, h => .inr h
  | x :: y :: r, c, h => by
    rw [inter] at h
    rcases List.mem_cons.mp h with rfl | h
    · exact .inr (List.mem_cons_self ..)
    · rcases List.mem_cons.mp h with rfl | h
      · exact .inl rfl
      · rcases inter_mem h with h | h
        · exact .inl h
        · exact .inr (List.mem_cons_of_mem _ h)
theorem Word.short {c : Str} (h : Word c) : c.length ≤ 2 := by rcases h with rfl | rfl <;> decide
theorem fold0 {ws : List Str} (h : ∀ c ∈ ws, Word c) : (parts0 ws).foldl nstep [] = ws := by unfold parts0; rw [fold_words _ _ h]; rfl
theorem fold1 {ws : List Str} (h : ∀ c ∈ ws, Word c) : (parts1 ws).foldl nstep [] = ws := by
  unfold parts1
  rw [List.foldl_cons, nstep_none (.inl rfl), List.foldl_cons, nstep_none (.inl rfl), List.foldl_append, fold_inter (.inr rfl) _ _ h, List.foldl_cons, nstep_none (.inl rfl)]; rfl
theorem fold2 {ws : List Str} (h : ∀ c ∈ ws, Word c) : (parts2 ws).foldl nstep [] = ws := by
  unfold parts2
  rw [List.foldl_cons, nstep_word (.inr rfl), List.foldl_cons, nstep_up (by decide), List.foldl_append, fold_inter (.inl rfl) _ _ h, List.foldl_cons, nstep_none (.inr rfl)]; rfl
theorem fold3 {ws : List Str} (h : ∀ c ∈ ws, Word c) : (parts3 ws).foldl nstep [] = ws := by
  unfold parts3
  rw [List.foldl_cons, nstep_up (by decide), List.foldl_append, fold_words _ _ h, List.foldl_cons, nstep_word (.inl rfl), List.foldl_cons, nstep_up (by rw [List.getLast?_append]; show some (Str.ofString "a") ≠ some (Str.ofString ".."); decide)]
  simp

theorem norm_written {n way : Int} (h1 : 1 ≤ n) (h2 : n ≤ 31) (h3 : 0 ≤ way) (h4 : way < 4) : NormOk (written (tr n) way) ∧ normF (written (tr n) way) = fileN n := by
  obtain ⟨i, hi, rfl⟩ := rng h1 h2
  obtain ⟨j, hj, rfl⟩ : ∃ j : Nat, j ∈ List.range 4 ∧ way = (j : Int) := ⟨way.toNat, by simp; omega, by omega⟩
  have hg := List.all_eq_true.mp goodW i hi
  simp only [Bool.and_eq_true, List.all_eq_true, Bool.or_eq_true, decide_eq_true_eq] at hg
  have hw : ∀ c ∈ tr ((i : Int) + 1), Word c := hg.2
  have hsm : Small (tr ((i : Int) + 1)) := trails_small _ (by
    have : ((i : Int) + 1).toNat < (trailsL 31).length := by rw [trailsL_length]; have := List.mem_range.mp hi; omega
    unfold tr
    rw [List.getD_eq_getElem?_getD, List.getElem?_eq_getElem this]
    exact List.getElem_mem this)
  have hlw : (tr ((i : Int) + 1)).length ≤ 100 := by unfold Small at hsm; omega
  have hl := List.all_eq_true.mp (lens j hj) i hi
  have hr := List.all_eq_true.mp (roots j hj) i hi
  dsimp only at hr
  simp only [Bool.and_eq_true, Bool.or_eq_true, Bool.not_eq_true', decide_eq_true_eq, decide_eq_false_iff_not] at hl hr
  have key : ∀ ps : List Str, partsOf (written (tr ((i : Int) + 1)) (j : Int)) = ps → ps.foldl nstep [] = tr ((i : Int) + 1) → (∀ c ∈ ps, c.length ≤ 1000) → ps.length ≤ 1000 →
      NormOk (written (tr ((i : Int) + 1)) (j : Int)) ∧ normF (written (tr ((i : Int) + 1)) (j : Int)) = fileN ((i : Int) + 1) := by
    rintro ps rfl e1 e2 e3
    exact ⟨⟨⟨hr.1, hr.2⟩, hl.1, hl.2, e2, e3, by rw [e1]; exact hsm⟩, by unfold normF fileN; rw [e1]⟩
  have hj4 := List.mem_range.mp hj
  have shortW : ∀ c ∈ tr ((i : Int) + 1), c.length ≤ 1000 := fun c hc => Nat.le_trans (hw c hc).short (by decide)
  have shortI : ∀ sep : Str, sep.length ≤ 1000 → ∀ c ∈ inter sep (tr ((i : Int) + 1)), c.length ≤ 1000 := fun sep hs c hc => (inter_mem hc).elim (fun e => e ▸ hs) (shortW c)
  have il1 := inter_len (sep := ".") (tr ((i : Int) + 1))
  have il2 := inter_len (sep := "") (tr ((i : Int) + 1))
  obtain rfl | rfl | rfl | rfl : j = 0 ∨ j = 1 ∨ j = 2 ∨ j = 3 := by omega
  · exact key _ (of_decide_eq_true (List.all_eq_true.mp cut0 i hi)) (fold0 hw) shortW (by unfold parts0; omega)
  · refine key _ (of_decide_eq_true (List.all_eq_true.mp cut1 i hi)) (fold1 hw) ?_ (by unfold parts1; simp only [List.length_cons, List.length_append, List.length_nil]; omega)
    intro c hc
    unfold parts1 at hc
    rcases List.mem_cons.mp hc with rfl | hc
    · decide
    rcases List.mem_cons.mp hc with rfl | hc
    · decide
    rcases List.mem_append.mp hc with hc | hc
    · exact shortI _ (by decide) c hc
    · rw [List.mem_singleton] at hc; subst hc; decide
  · refine key _ (of_decide_eq_true (List.all_eq_true.mp cut2 i hi)) (fold2 hw) ?_ (by unfold parts2; simp only [List.length_cons, List.length_append, List.length_nil]; omega)
    intro c hc
    unfold parts2 at hc
    rcases List.mem_cons.mp hc with rfl | hc
    · decide
    rcases List.mem_cons.mp hc with rfl | hc
    · decide
    rcases List.mem_append.mp hc with hc | hc
    · exact shortI _ (by decide) c hc
    · rw [List.mem_singleton] at hc; subst hc; decide
  · refine key _ (of_decide_eq_true (List.all_eq_true.mp cut3 i hi)) (fold3 hw) ?_ (by unfold parts3; simp only [List.length_cons, List.length_append, List.length_nil]; omega)
    intro c hc
    unfold parts3 at hc
    rcases List.mem_cons.mp hc with rfl | hc
    · decide
    rcases List.mem_append.mp hc with hc | hc
    · exact shortW c hc
    · rcases List.mem_cons.mp hc with rfl | hc
      · decide
      · rw [List.mem_singleton] at hc; subst hc; decide
section
variable {prog : Program} {w : World} {mg mb : Str → Option Value} {A : Around} {s : Shared} {env : Env}

structure TuJ (s₃ : Shared) (C D I : Addr) (g : Int → Int × Int) (a : Int) (i : Nat) (x : Shared) : Prop where
  like : Like s₃ x
  old : ∀ c o, c ≠ C → c ≠ D → c ≠ I → s₃.heap.get? c = some o → x.heap.get? c = some o
  ns : ∃ m, x.heap.Ns C m
  acc : ∃ va, x.heap.PlainList D va.toArray ∧ TupsAre x.heap va ((List.range i).map fun (k : Nat) => g (a + (k : Int))) ∧ ∀ t, .ref t ∈ va → @LT.lt Nat _ C t

set_option maxHeartbeats 8000000 in
/-- a list of pairs of ints, one for each number of a range -/
theorem tup_comp {elt : Expr} {px p pos0 p1 p2 : Pos} {k1 k2 : Nat} {a b : Int} {scope : Scope} {pos : Pos} {g : Int → Int × Int} {Q : Value → Shared → Prop} (H : Host w mg mb s.heap) (hh : A.handled = none) (hab : a ≤ b) (ha : -(2 ^ 62) ≤ a) (hb : b < 2 ^ 62) (hsz : (b - a).toNat ≤ 1000)
    (hclos : closureFor scope env = pure [])
    (helt : ∀ C n t m (y : Shared), y.heap.Ns C m → m "n" = some (.int n t) → Wp prog w A (eval elt (compEnvC scope [] C env)) (fun v y' => ∃ t1 t2, v = .ref y.heap.objs.size ∧ Like y y' ∧ y'.heap = y.heap.push { cls := .type "tuple", data := .seq [.int (g n).1 t1, .int (g n).2 t2].toArray }) y)
    (h : ∀ s' D va, Like s s' → Kept s.heap s'.heap → s'.heap.PlainList D va.toArray → TupsAre s'.heap va ((List.range (b - a).toNat).map fun (k : Nat) => g (a + (k : Int))) → s.heap.objs.size ≤ D → (∀ t, .ref t ∈ va → s.heap.objs.size ≤ t) → Q (.ref D) s')
    (hcell : ∀ y ∈ scope.names, y.2 ≠ .cell := by decide) (hkind : scope.kind = .function := by rfl)
    (hnames : ∀ y ∈ scope.names, y.2 = .local → scope.names.lookup y.1 = some .local := by decide) (hx : scope.names.lookup (Str.ofString "n") = some .local := by rfl)
    (hk : env.scope.kind = .function := by rfl) (hl : env.kindOf "range" = some .globalImplicit := by rfl)
    (hg : env.globals = mainGlobals := by rfl) (hbl : env.builtins = builtinsNs := by rfl)
    (hs : ∀ x, foldedSetIterable (.Call (.Name "range" p) [.Constant (.int a) k1 p1, .Constant (.int b) k2 p2] [] pos0) env x = pure x := by intro _; rfl) :
    Wp prog w A (eval (.ListComp elt [⟨.Name "n" px, .Call (.Name "range" p) [.Constant (.int a) k1 p1, .Constant (.int b) k2 p2] [] pos0, [], 0⟩] scope pos) env) Q s := by
  refine wCompJ hclos (range2_iter H hab ha hb ?_ rfl hk hl hg hbl) hcell hkind hnames hs
  intro s₂ I l₂ k₂ hI hit z₂
  refine ⟨I, rfl, ?_⟩
  intro s₃ D C l₃ eD eC k₃ pD nC
  have W := Walks.range (prog := prog) (w := w) (A := A) hh I a 1 (b - a).toNat
  refine ⟨[I], (b - a).toNat, _, _, TuJ s₃ C D I g a, W, ?_, ?_, k₃ _ _ hit, ⟨⟨rfl, rfl, rfl⟩, fun _ _ _ _ _ e => e, ⟨_, nC⟩, ⟨[], pD, TupsAre.nil _, fun t ht => nomatch ht⟩⟩, ?_, ?_⟩
  · intro i v y Q E _ hq; exact wpAny_pure hq
  · rintro i x y ⟨j1, j2, ⟨m, j3⟩, ⟨va, j4, j5, j6⟩⟩ ly ky
    exact ⟨j1.trans ly, fun c o h1 h2 h3 e => ky c o h3 (j2 c o h1 h2 h3 e), ⟨m, j3.at' fun o e => ky _ o (neN (by omega)) e⟩, ⟨va, j4.at fun o e => ky _ o (neN (by omega)) e, j5.keep fun t o ht e => ky t o (neN (by have := j6 t ht; omega)) e, j6⟩⟩
  · rintro i v x hi ⟨t, rfl⟩ hst ⟨j1, j2, ⟨m, j3⟩, ⟨va, j4, j5, j6⟩⟩
    have hst' : IsRangeIter x.heap I (a + ((i + 1 : Nat) : Int) * 1) (((b - a).toNat : Int) - ((i + 1 : Nat) : Int)) 1 := hst
    refine wAssignN <| stE (env := compEnvC scope [] C env) j3 ?_ hkind (lookup_relabel_local hx)
    intro y ly Sy Ny
    change Heap.SameBut C x.heap y.heap at Sy
    change y.heap.Ns C _ at Ny
    have hCx : @LT.lt Nat _ C x.heap.objs.size := j3.lt
    refine Wp.mono (helt C (a + (i : Int) * 1) t _ y Ny rfl) ?_
    rintro v z ⟨t1, t2, rfl, lz, ez⟩
    have kz : Kept y.heap z.heap := by rw [ez]; exact kept_push _ _
    have uz : ∀ c o, c ≠ C → x.heap.get? c = some o → z.heap.get? c = some o := fun c o hc e => kz _ _ (Sy.extBut c o hc e)
    have zy : y.heap.objs.size = x.heap.objs.size := Sy.1
    have p4 := j4.at fun o e => uz _ o (neN (by omega)) e
    have hDx : @LT.lt Nat _ D x.heap.objs.size := plist_lt j4
    have hva : va.length ≤ 1000 := by rw [j5.len]; simp; omega
    refine cAppend p4 ?_ (by omega)
    intro q lq pq Sq
    have uq : ∀ c o, c ≠ C → c ≠ D → x.heap.get? c = some o → q.heap.get? c = some o := fun c o h1 h2 e => Sq.extBut c o h2 (uz c o h1 e)
    have tq : IsTup q.heap y.heap.objs.size [.int (g (a + (i : Int) * 1)).1 t1, .int (g (a + (i : Int) * 1)).2 t2].toArray := isTup_at (h := z.heap) (by rw [ez]; exact isTup_new _ _) fun o e => Sq.extBut _ o (neN (by omega)) e
    have hIx : @LT.lt Nat _ I x.heap.objs.size := Heap.lt_size hst'
    refine ⟨?_, j1.trans (ly.trans (lz.trans lq)), fun c o h1 h2 h3 e => uq c o h1 h2 (j2 c o h1 h2 h3 e), ⟨_, (Ny.keeps kz).sameBut Sq (neN (by omega))⟩, ⟨va ++ [.ref y.heap.objs.size], pq, ?_, ?_⟩⟩
    · exact W.frame _ _ _ hst fun c hc o e => by rw [List.mem_singleton] at hc; subst hc; exact uq _ o (neN (by omega)) (neN (by omega)) e
    · rw [List.range_succ, List.map_append]
      refine (j5.keep fun t o ht e => uq t o (neN (by have := j6 t ht; omega)) (neN (by have := j6 t ht; omega)) e).append ?_
      have : a + (i : Int) * 1 = a + (i : Int) := by omega
      rw [this] at tq
      exact .one tq
    · intro t ht
      rcases List.mem_append.mp ht with ht | ht
      · exact j6 t ht
      · rw [List.mem_singleton] at ht; cases ht; omega
  · rintro x ⟨j1, j2, ⟨m, j3⟩, ⟨va, j4, j5, j6⟩⟩
    refine ⟨⟨m, j3⟩, fun y ly Sy => h y D va (l₂.trans (l₃.trans (j1.trans ly))) (fun c o e => ?_) (j4.extBut Sy.extBut (neN (by omega))) (j5.keep fun t o ht e => Sy.extBut t o (neN (by have := j6 t ht; omega)) e) (by omega) fun t ht => by have := j6 t ht; omega⟩
    have := ltN (Heap.lt_size e)
    exact Sy.extBut c o (neN (by omega)) (j2 c o (neN (by omega)) (neN (by omega)) (neN (by omega)) (k₃ _ _ (k₂ _ _ e)))
end

def nOf (x : Int) : Int := (x.fdiv 4).fmod 31 + 1
def restOf (x : Int) : Int := x.fdiv 124
def shutL (xs : List Int) : List Int := (xs.filter fun x => x.fmod 4 == 0).map nOf
def closedL (xs : List Int) : List Int := (xs.filter fun x => x.fmod 4 == 1).map nOf
def writtenL (xs : List Int) : List Str := (xs.filter fun x => x.fmod 4 == 1).map fun x => written (tr (nOf x)) ((restOf x).fmod 4)
def askedL (xs : List Int) : List (Int × Int) := (xs.filter fun x => !(x.fmod 4 == 0) && !(x.fmod 4 == 1)).map fun x => (nOf x, (restOf x).fmod 32)
theorem nOf_bd (x : Int) : 1 ≤ nOf x ∧ nOf x ≤ 31 := by
  unfold nOf
  rw [Int.fmod_eq_emod_of_nonneg _ (by decide)]
  have h1 := Int.emod_nonneg (x.fdiv 4) (show (31 : Int) ≠ 0 by decide)
  have h2 := Int.emod_lt_of_pos (x.fdiv 4) (show (0 : Int) < 31 by decide)
  omega
theorem mod_bd (x m : Int) (hm : 0 < m) : 0 ≤ x.fmod m ∧ x.fmod m < m := by
  rw [Int.fmod_eq_emod_of_nonneg _ (by omega)]
  exact ⟨Int.emod_nonneg _ (by omega), Int.emod_lt_of_pos _ hm⟩
theorem tr_get {n : Int} (h1 : 1 ≤ n) (h2 : n ≤ 31) : (trailsL 31)[n.toNat]? = some (tr n) := by
  have : n.toNat < (trailsL 31).length := by rw [trailsL_length]; omega
  unfold tr
  rw [List.getD_eq_getElem?_getD, List.getElem?_eq_getElem this]; rfl
theorem tr_get0 {n : Int} (h1 : 0 ≤ n) (h2 : n ≤ 31) : (trailsL 31)[n.toNat]? = some (tr n) := by
  have : n.toNat < (trailsL 31).length := by rw [trailsL_length]; omega
  unfold tr
  rw [List.getD_eq_getElem?_getD, List.getElem?_eq_getElem this]; rfl
theorem tr_small {n : Int} (h1 : 0 ≤ n) (h2 : n ≤ 31) : Small (tr n) := trails_small _ (List.mem_of_getElem? (tr_get0 h1 h2))

theorem shutL_snoc (l : List Int) (x : Int) : shutL (l ++ [x]) = shutL l ++ (if x.fmod 4 == 0 then [nOf x] else []) := by
  unfold shutL; rw [List.filter_append, List.map_append]; cases h : (x.fmod 4 == 0) <;> simp [h]
theorem closedL_snoc (l : List Int) (x : Int) : closedL (l ++ [x]) = closedL l ++ (if x.fmod 4 == 1 then [nOf x] else []) := by
  unfold closedL; rw [List.filter_append, List.map_append]; cases h : (x.fmod 4 == 1) <;> simp [h]
theorem writtenL_snoc (l : List Int) (x : Int) : writtenL (l ++ [x]) = writtenL l ++ (if x.fmod 4 == 1 then [written (tr (nOf x)) ((restOf x).fmod 4)] else []) := by
  unfold writtenL; rw [List.filter_append, List.map_append]; cases h : (x.fmod 4 == 1) <;> simp [h]
theorem askedL_snoc (l : List Int) (x : Int) : askedL (l ++ [x]) = askedL l ++ (if !(x.fmod 4 == 0) && !(x.fmod 4 == 1) then [(nOf x, (restOf x).fmod 32)] else []) := by
  unfold askedL; rw [List.filter_append, List.map_append]; cases h : (!(x.fmod 4 == 0) && !(x.fmod 4 == 1)) <;> simp_all
theorem shutL_len (l : List Int) : (shutL l).length ≤ l.length := by unfold shutL; rw [List.length_map]; exact List.length_filter_le ..
theorem closedL_len (l : List Int) : (closedL l).length ≤ l.length := by unfold closedL; rw [List.length_map]; exact List.length_filter_le ..
theorem writtenL_len (l : List Int) : (writtenL l).length ≤ l.length := by unfold writtenL; rw [List.length_map]; exact List.length_filter_le ..
theorem askedL_len (l : List Int) : (askedL l).length ≤ l.length := by unfold askedL; rw [List.length_map]; exact List.length_filter_le ..
theorem upd3 {m : Str → Option Value} {a b c z : Str} {va vb vc v : Value} (e : m z = some v) (h1 : z ≠ a) (h2 : z ≠ b) (h3 : z ≠ c) : (if z = c then some vc else if z = b then some vb else if z = a then some va else m z) = some v := by
  rw [if_neg h3, if_neg h2, if_neg h1]; exact e
theorem strsAre_snoc : ∀ {vs : List Value} {xs : List Str}, StrsAre vs xs → ∀ (x : Str) (t : Tok), StrsAre (vs ++ [.str x t]) (xs ++ [x])
  | _, _, .nil, x, t => .cons x t .nil
  | _, _, .cons y u r, x, t => .cons y u (strsAre_snoc r x t)

def g16 (n : Int) : Int × Int := (n, 16 + n)
def g0 (n : Int) : Int × Int := (n, 0)
def psL (xs : List Int) : List (Int × Int) := (askedL xs ++ (List.range ((16 : Int) - 1).toNat).map fun (k : Nat) => g16 (1 + (k : Int))) ++ (List.range ((32 : Int) - 1).toNat).map fun (k : Nat) => g0 (1 + (k : Int))
theorem psL_len (xs : List Int) : (psL xs).length ≤ xs.length + 46 := by
  have := askedL_len xs
  have e1 : ((16 : Int) - 1).toNat = 15 := by decide
  have e2 : ((32 : Int) - 1).toNat = 31 := by decide
  unfold psL
  rw [List.length_append, List.length_append, List.length_map, List.length_map, List.length_range, List.length_range, e1, e2]
  omega
theorem psL_bd (xs : List Int) : ∀ p ∈ psL xs, 1 ≤ p.1 ∧ p.1 ≤ 31 ∧ 0 ≤ p.2 ∧ p.2 ≤ 31 := by
  intro p hp
  have e1 : ((16 : Int) - 1).toNat = 15 := by decide
  have e2 : ((32 : Int) - 1).toNat = 31 := by decide
  unfold psL at hp
  rcases List.mem_append.mp hp with hp | hp
  · rcases List.mem_append.mp hp with hp | hp
    · unfold askedL at hp
      obtain ⟨x, _, rfl⟩ := List.mem_map.mp hp
      have h1 := nOf_bd x
      have h2 := mod_bd (restOf x) 32 (by decide)
      dsimp only; omega
    · obtain ⟨k, hk, rfl⟩ := List.mem_map.mp hp
      rw [e1] at hk
      have := List.mem_range.mp hk
      unfold g16; dsimp only; omega
  · obtain ⟨k, hk, rfl⟩ := List.mem_map.mp hp
    rw [e2] at hk
    have := List.mem_range.mp hk
    unfold g0; dsimp only; omega
theorem shutL_bd (xs : List Int) : ∀ m ∈ shutL xs, 1 ≤ m ∧ m ≤ 31 := by
  intro m hm; unfold shutL at hm; obtain ⟨x, _, rfl⟩ := List.mem_map.mp hm; exact nOf_bd x
theorem closedL_bd (xs : List Int) : ∀ m ∈ closedL xs, 1 ≤ m ∧ m ≤ 31 := by
  intro m hm; unfold closedL at hm; obtain ⟨x, _, rfl⟩ := List.mem_map.mp hm; exact nOf_bd x
theorem written_norm (xs : List Int) : (writtenL xs).map normF = (closedL xs).map fileN ∧ ∀ p ∈ writtenL xs, NormOk p := by
  constructor
  · unfold writtenL closedL
    rw [List.map_map, List.map_map]
    apply List.map_congr_left
    intro x _
    exact (norm_written (nOf_bd x).1 (nOf_bd x).2 (mod_bd _ 4 (by decide)).1 (mod_bd _ 4 (by decide)).2).2
  · intro p hp
    unfold writtenL at hp
    obtain ⟨x, _, rfl⟩ := List.mem_map.mp hp
    exact (norm_written (nOf_bd x).1 (nOf_bd x).2 (mod_bd _ 4 (by decide)).1 (mod_bd _ 4 (by decide)).2).1
theorem shutL_ne (l : List Int) : shutL ([20, 25] ++ l) ≠ [] := List.ne_nil_of_mem (a := nOf 20) (List.mem_map.mpr ⟨20, List.mem_filter.mpr ⟨by simp, by decide⟩, rfl⟩)
theorem writtenL_ne (l : List Int) : writtenL ([20, 25] ++ l) ≠ [] := List.ne_nil_of_mem (List.mem_map.mpr ⟨25, List.mem_filter.mpr ⟨by simp, by decide⟩, rfl⟩)
theorem ansD_01 (shut closed : List Int) (n d : Int) : Sm (ansD shut closed n d) := by unfold ansD Sm; split <;> omega
theorem runA_01 (shut closed : List Int) (ps : List (Int × Int)) : (∀ v ∈ (runA (ansD shut closed) ps).2, Sm v) ∧ ∀ n v, (runA (ansD shut closed) ps).1 n = some v → Sm v := by
  suffices h : ∀ (ps : List (Int × Int)) st, ((∀ v ∈ st.2, Sm v) ∧ ∀ n v, st.1 n = some v → Sm v) → ((∀ v ∈ (ps.foldl (stepA (ansD shut closed)) st).2, Sm v) ∧ ∀ n v, (ps.foldl (stepA (ansD shut closed)) st).1 n = some v → Sm v) by
    exact h ps (fun _ => none, []) ⟨fun v hv => (by cases hv), fun n v e => (by cases e)⟩
  intro ps
  induction ps with
  | nil => intro st h; exact h
  | cons p r ih =>
    intro st h
    refine ih _ ?_
    unfold stepA
    cases e : st.1 p.1 with
    | some v =>
      refine ⟨fun u hu => ?_, h.2⟩
      rcases List.mem_append.mp hu with hu | hu
      · exact h.1 u hu
      · rw [List.mem_singleton] at hu; subst hu; exact h.2 _ _ e
    | none =>
      refine ⟨fun u hu => ?_, fun n v q => ?_⟩
      · rcases List.mem_append.mp hu with hu | hu
        · exact h.1 u hu
        · rw [List.mem_singleton] at hu; subst hu; exact ansD_01 ..
      · dsimp only at q
        split at q
        · cases q; exact ansD_01 ..
        · exact h.2 _ _ q

def modV (v y : Value) : Prop := ∃ n t t', v = .int n t ∧ y = .str (modN n) t'
theorem paired_mod : ∀ {vs ys : List Value} {ps : List Int}, IntsAre vs ps → Paired modV vs ys → StrsAre ys (ps.map modN)
  | _, _, _, .nil, .nil => .nil
  | _, _, _, .cons p t r, .cons ⟨p', t0, t', e, e2⟩ q => by
    cases e; subst e2
    exact .cons _ _ (paired_mod r q)

/-- what stands in law ahead of the loop's turn i -/
structure LJ (s₉ : Shared) (L Hd r1 r2 r3 r4 I : Addr) (xs : List Int) (i : Nat) (x : Shared) : Prop where
  like : Like s₉ x
  old : ∀ c o, c ≠ L → c ≠ L + 2 → s₉.heap.get? c = some o → x.heap.get? c = some o
  cell : x.heap.IsCell (L + 2) none
  ns : ∃ m, x.heap.Ns L m ∧ m "highs" = some (.ref Hd) ∧ m "shut" = some (.ref r1) ∧ m "closed" = some (.ref r2) ∧ m "written" = some (.ref r3) ∧ m "asked" = some (.ref r4)
  g1 : GoodI x.heap r1 (shutL (xs.take i))
  g2 : GoodI x.heap r2 (closedL (xs.take i))
  g3 : Good x.heap r3 (writtenL (xs.take i))
  g4 : ∃ va, x.heap.PlainList r4 va.toArray ∧ TupsAre x.heap va (askedL (xs.take i)) ∧ ∀ t, .ref t ∈ va → @LT.lt Nat _ I t

/-- what stands in the told comprehension ahead of turn i -/
structure ToJ (prog : Program) (w : World) (sa : Shared) (C D I X Dd S0 P G : Addr) (mods dirs : List Str) (ans : Int → Int → Int) (ps : List (Int × Int)) (i : Nat) (x : Shared) : Prop where
  like : LikeO sa x
  old : ∀ c o, c ≠ C → c ≠ D → c ≠ I → c ≠ G → sa.heap.get? c = some o → x.heap.get? c = some o
  ns : ∃ m, x.heap.Ns C m
  acc : GoodI x.heap D (runA ans (ps.take i)).2
  rdy : ∃ kvs kn, Rdy prog w x.heap X Dd S0 P G mods dirs kvs ∧ Tells' kvs kn ∧ SameK (runA ans (ps.take i)).1 kn ∧ kvs.length ≤ i + 2

/-- what stands through all of law -/
structure LB (w : World) (mg mb : Str → Option Value) (s₀ : Shared) (L T : Addr) (rs : List Addr) (s : Shared) : Prop where
  like : LikeO s₀ s
  keep : Kept s₀.heap s.heap
  host : Host w mg mb s.heap
  tc : s.heap.IsCell (L + 1) (some (.ref T))
  ts : s.heap.PlainList T (rs.map Value.ref).toArray
  ls : Lists s.heap rs (trailsL 31)
/-- where its addresses lie -/
structure LA (s₀ : Shared) (L T B : Addr) (rs : List Addr) : Prop where
  l : s₀.heap.objs.size ≤ L
  t1 : @LT.lt Nat _ (L + 2) T
  t2 : @LT.lt Nat _ T B
  r : ∀ r ∈ rs, @LT.lt Nat _ (L + 2) r ∧ @LT.lt Nat _ r B

theorem isCell_at {h h' : Heap} {c : Addr} {v : Option Value} (x : h.IsCell c v) (k : ∀ o, h.get? c = some o → h'.get? c = some o) : h'.IsCell c v := let ⟨o, e, d⟩ := x; ⟨o, k _ e, d⟩
theorem intsAre_of_get : ∀ {ys : List Value} {ns : List Int}, ys.length = ns.length → (∀ (j : Nat) y n, ys[j]? = some y → ns[j]? = some n → ∃ t, y = .int n t) → IntsAre ys ns
  | [], [], _, _ => .nil
  | y :: ys, n :: ns, hl, h => by
    obtain ⟨t, rfl⟩ := h 0 y n rfl rfl
    exact .cons n t (intsAre_of_get (by simpa using hl) fun j y' n' e1 e2 => h (j + 1) y' n' (by simpa using e1) (by simpa using e2))
theorem strsAre_of_get : ∀ {ys : List Value} {ns : List Str}, ys.length = ns.length → (∀ (j : Nat) y n, ys[j]? = some y → ns[j]? = some n → ∃ t, y = .str n t) → StrsAre ys ns
  | [], [], _, _ => .nil
  | y :: ys, n :: ns, hl, h => by
    obtain ⟨t, rfl⟩ := h 0 y n rfl rfl
    exact .cons n t (strsAre_of_get (by simpa using hl) fun j y' n' e1 e2 => h (j + 1) y' n' (by simpa using e1) (by simpa using e2))
theorem paired_get {α β : Type} {F : α → β → Prop} : ∀ {vs : List α} {ys : List β}, Paired F vs ys → ∀ {j : Nat} {y : β}, ys[j]? = some y → ∃ v, vs[j]? = some v ∧ F v y
  | _, _, .cons f r, 0, y, e => ⟨_, rfl, by simp at e; exact e ▸ f⟩
  | _, _, .cons f r, j + 1, y, e => by simpa using paired_get r (by simpa using e)
theorem list_eq {vs ws : List Value} (hl : vs.length = ws.length) (h : ∀ (j : Nat) v, vs[j]? = some v → ws[j]? = some v) : vs = ws := by
  apply List.ext_getElem?
  intro j
  cases e : vs[j]? with
  | some v => exact (h j v e).symm
  | none =>
    have := List.getElem?_eq_none_iff.mp e
    exact (List.getElem?_eq_none (by omega)).symm

section
variable {prog : Program} {w : World} {mg mb : Str → Option Value} {A : Around} {s : Shared} {env : Env}

theorem LB.upd {s₀ s s' : Shared} {L T B : Addr} {rs : List Addr} (b : LB w mg mb s₀ L T rs s) (a : LA s₀ L T B rs) (l : LikeO s s') (k : ∀ c o, c ≠ L → c ≠ L + 2 → @LT.lt Nat _ c B → s.heap.get? c = some o → s'.heap.get? c = some o) (H : Host w mg mb s₀.heap) : LB w mg mb s₀ L T rs s' := by
  have h1 := a.l; have h2 := a.t1; have h3 := a.t2
  have kk : Kept s₀.heap s'.heap := fun c o e => by
    have := ltN (Heap.lt_size e)
    exact k c o (neN (by omega)) (neN (by omega)) (by omega) (b.keep c o e)
  exact ⟨b.like.trans l, kk, H.keeps kk, isCell_at b.tc fun o e => k _ o (neN (by omega)) (neN (by omega)) (by omega) e, b.ts.at fun o e => k _ o (neN (by omega)) (neN (by omega)) (by omega) e,
    b.ls.keep fun r hr o e => by have := a.r r hr; exact k _ o (neN (by omega)) (neN (by omega)) (by omega) e⟩
theorem LB.kept {s₀ s s' : Shared} {L T : Addr} {rs : List Addr} (b : LB w mg mb s₀ L T rs s) (l : LikeO s s') (k : Kept s.heap s'.heap) : LB w mg mb s₀ L T rs s' :=
  ⟨b.like.trans l, fun c o e => k _ _ (b.keep c o e), b.host.keeps k, b.tc.keeps k, b.ts.at fun o e => k _ _ e, b.ls.keep fun r _ o e => k _ _ e⟩

def highV (v y : Value) : Prop := ∃ n t t', v = .int n t ∧ y = .int ((Builtin.Int.intBits n : Int) - 1) t'
def lenV (rs : List Addr) (v y : Value) : Prop := ∃ (n : Nat) (t : Tok), y = .int ((n : Int) - 1) t ∧ ∀ (j : Nat) (xs : List Str), (rs.map Value.ref)[j]? = some v → (trailsL 31)[j]? = some xs → xs.length = n
theorem highs_trails : highsL = (trailsL 31).map fun xs => (xs.length : Int) - 1 := by decide +kernel
theorem highs_small : ∀ n ∈ highsL, Sm n := by
  have : (highsL.all fun n => decide (-1 ≤ n) && decide (n ≤ 4)) = true := by decide +kernel
  intro n hn
  have := List.all_eq_true.mp this n hn
  simpa [Sm] using this
theorem highsL_length : highsL.length = 32 := by decide +kernel

set_option maxHeartbeats 16000000 in
theorem law_call {ra : Addr} {vs : List Value} {ns : List Int} {Q : Value → Shared → Prop} (H : Host w mg mb s.heap) (hroom : A.depth + 100 < recursionLimit) (hh : A.handled = none) (hg : A.guards = some []) (hu : A.units + 1000 < cLine)
    (hl : s.heap.IsList ra vs.toArray) (hi : IntsAre vs ns) (hn : ns.length ≤ 63)
    (h : ∀ s', LikeO s s' → Kept s.heap s'.heap → Q (.bool true) s') : Wp prog w A (call (.ref 121) [.ref ra]) Q s := by
  refine enterC (vals := [.ref ra]) (binds := [("script", .ref ra)]) H rfl rfl rfl (by omega) rfl rfl rfl ?_
  intro s₁ L l₁ hL N k H0 hc
  have c1 : s₁.heap.IsCell (L + 1) none := (hc "trails" _ rfl).1
  have c2 : s₁.heap.IsCell (L + 2) none := (hc "ignore" _ rfl).1
  have hL2 : @LT.lt Nat _ (L + 2) s₁.heap.objs.size := by obtain ⟨o, e, _⟩ := c2; exact Heap.lt_size e
  refine wCons <| wAssign <| wCall <| ldG H0 rfl <| wF0 rfl H0 <| trails_call H0 (by show A.depth + 1 < _; omega) hh ?_
  intro s₂ T rs l₂ k₂ pT lT hT hrs
  refine stC (c1.keeps k₂) ?_
  intro s₃ l₃ S₃ c1'
  have a : LA s L T s₂.heap.objs.size rs := ⟨by omega, by omega, plist_lt pT, fun r hr => ⟨by have := hrs r hr; omega, lT.lt r hr⟩⟩
  have hT2 := a.t2
  have b₃ : LB w mg mb s L T rs s₃ := by
    have kk : Kept s.heap s₃.heap := fun c o e => S₃.extBut c o (neN (by have := ltN (Heap.lt_size e); omega)) (k₂ _ _ (k _ _ e))
    exact ⟨(l₁.trans (l₂.trans l₃)).o, kk, H.keeps kk, c1', pT.at fun o e => S₃.extBut _ o (neN (by omega)) e, lT.keep fun r hr o e => S₃.extBut _ o (neN (by have := hrs r hr; omega)) e⟩
  have N₃ := (N.keeps k₂).sameBut S₃ (neN (by omega))
  have d₃ := isCell_at (c2.keeps k₂) fun o e => S₃.extBut _ o (neN (by omega)) e
  have z₃ : s₃.heap.objs.size = s₂.heap.objs.size := S₃.1
  clear c1 c2 hc
  -- highs
  refine wCons <| wAssignComp (fun _ => true) highV rfl <| range1_iter b₃.host (by decide) (by decide) ?_
  intro s₄ I l₄ k₄ hI hit z₄
  have N₄ := N₃.keeps k₄
  have b₄ := b₃.kept l₄.o k₄
  refine ⟨I, [I], [I], 32, _, _, _, rfl, Walks.range (A := A.deeper _) hh I 0 1 32, by decide, hit, ?_, ?_, N₄, quiet_of (.inl ⟨rfl, fun _ => rfl⟩) ?_, ?_⟩
  · intro c hc; rw [List.mem_singleton] at hc; subst hc; exact ltN (by omega)
  · rw [List.mem_singleton]; exact neN (by show L ≠ I; omega)
  · intro C i v x m₃ hC hv _ Nx hmx kx
    obtain ⟨t, rfl⟩ := hv
    have up : ∀ c o, s₃.heap.get? c = some o → x.heap.get? c = some o := fun c o e => kx c o (by
      have := ltN (Heap.lt_size e)
      simp only [List.mem_singleton]
      exact neN (by omega)) (k₄ _ _ e)
    have Hx := b₃.host.keeps up
    refine wCall <| ldG Hx rfl <| wF1 rfl <| wICons <| ldE Nx hmx <| wINil ⟨Hx, high_bit_call Hx (by show A.depth + 1 < _; omega) ?_⟩
    intro y t' ly ky
    exact ⟨⟨_, _, _, rfl, rfl⟩, ly, ky⟩
  intro Hd s₅ ys vr hHd pHd hvr hPv hF l₅ N₅ k₅
  have gH : GoodI s₅.heap Hd highsL := by
    obtain ⟨yl⟩ := ys
    rw [List.filter_eq_self.mpr (fun _ _ => rfl)] at hF
    refine ⟨yl, pHd, intsAre_of_get ?_ ?_⟩
    · rw [← hF.length, hvr, highsL_length]
    · intro j y n e1 e2
      obtain ⟨v, ev, n', t, t', rfl, rfl⟩ := paired_get hF e1
      obtain ⟨t2, e3⟩ := hPv j _ ev
      have hn' : n' = (j : Int) := by injection e3 with e3; simpa using e3
      subst hn'
      have hj : j < 32 := by rw [← hvr]; exact (List.getElem?_eq_some_iff.mp ev).1
      have : highsL[j]? = some ((Builtin.Int.intBits (j : Int) : Int) - 1) := by simp [highsL, hj]
      rw [this] at e2
      cases e2
      exact ⟨_, rfl⟩
  have hne5 : ∀ c o, s₃.heap.get? c = some o → c ≠ L → s₅.heap.get? c = some o := fun c o e hcL => k₅ c o hcL (by
    have := ltN (Heap.lt_size e)
    simp only [List.mem_singleton]
    exact neN (by omega)) (k₄ _ _ e)
  have b₅ : LB w mg mb s L T rs s₅ := b₃.upd a (l₄.trans l₅).o (fun c o h1 _ _ e => hne5 c o e h1) H
  have d₅ := isCell_at d₃ fun o e => hne5 _ o e (neN (by omega))
  -- the two texts of the high bits
  refine wCons <| wIf <| wIsCmp <| wCall <| ldB b₅.host rfl boot_str (by decide) <| wT1 <| wICons <| ldE N₅ rfl <| wINil <| wStrIL gH highs_small (by rw [highsL_length]; omega) hg (by show A.units + 3 + 100 < _; omega) ?_
  intro s₆ t₆ l₆ k₆
  have b₆ := b₅.kept l₆.o k₆
  refine wCall <| ldB b₆.host rfl boot_str (by decide) <| wT1 <| wICons <| wComp (fun _ => true) (lenV rs) rfl <| ldC b₆.tc <| iterL b₆.ts.isList ?_
  intro s₇ I₂ l₇ eI₂ k₇ z₇ hit₂
  have b₇ := b₆.kept l₇.o k₇
  have hTs : @LT.lt Nat _ T s₆.heap.objs.size := plist_lt b₆.ts
  refine ⟨I₂, [I₂, T], [I₂], (rs.map Value.ref).toArray.size, _, _, rfl, Walks.list (A := A.deeper _) hh I₂ T (neN (by omega)) (rs.map Value.ref).toArray, ?_, ⟨hit₂, b₇.ts.isList⟩, ?_, quiet_of (.inl ⟨rfl, fun _ => rfl⟩) ?_, ?_⟩
  · simp [lT.len, trailsL_length]
  · intro c hc
    rcases List.mem_cons.mp hc with rfl | hc
    · exact ltN (by omega)
    · rw [List.mem_singleton] at hc; subst hc; exact ltN (by omega)
  · intro C i v x m₃ hC hv _ Nx hmx kx
    have up : ∀ c o, s₆.heap.get? c = some o → x.heap.get? c = some o := fun c o e => kx c o (by
      have := ltN (Heap.lt_size e)
      simp only [List.mem_singleton]
      exact neN (by omega)) (k₇ _ _ e)
    have Hx := b₆.host.keeps up
    have lx := b₆.ls.keep (h' := x.heap) fun r _ o e => up _ _ e
    have hv' : (rs.map Value.ref)[i]? = some v := by simpa using hv
    obtain ⟨r, hr, rfl⟩ : ∃ r, rs[i]? = some r ∧ v = .ref r := by
      rw [List.getElem?_map] at hv'
      cases e : rs[i]? with
      | none => rw [e] at hv'; cases hv'
      | some r => rw [e] at hv'; cases hv'; exact ⟨r, rfl, rfl⟩
    have hil : i < (trailsL 31).length := by rw [← lT.len]; exact (List.getElem?_eq_some_iff.mp hr).1
    obtain ⟨wv, ⟨nw, pw⟩, sw⟩ := lx.at_ i r _ hr (List.getElem?_eq_getElem hil)
    have hwl := strsAre_length sw
    have hsmall := trailsL_le 31 _ (List.getElem_mem hil)
    refine wBinOp <| wCall <| ldB Hx rfl boot_len (by decide) <| wB1 <| wICons <| ldE Nx hmx <| wINil <| wLenL ⟨nw, pw⟩ (by omega) <| wInt <| wSubI ⟨⟨wv.length, _, rfl, ?_⟩, ⟨rfl, rfl, rfl⟩, fun _ _ e => e⟩
    intro j xs hj hxs
    have hjr : rs[j]? = some r := by
      rw [List.getElem?_map] at hj
      cases e : rs[j]? with
      | none => rw [e] at hj; cases hj
      | some r' => rw [e] at hj; cases hj; rfl
    obtain ⟨wv', ⟨nw', pw'⟩, sw'⟩ := lx.at_ j r _ hjr hxs
    rw [pw] at pw'
    have : wv.toArray = wv'.toArray := by injection pw' with e; injection e with _ _ e; injection e
    have : wv = wv' := by simpa using congrArg Array.toList this
    rw [← strsAre_length sw', this]
  intro D₂ s₈ ys₂ vr₂ hD₂ pD₂ hvr₂ hPv₂ hF₂ l₈ k₈
  have up8 : ∀ c o, s₆.heap.get? c = some o → s₈.heap.get? c = some o := fun c o e => k₈ c o (by
      have := ltN (Heap.lt_size e)
      simp only [List.mem_singleton]
      exact neN (by omega)) (k₇ _ _ e)
  have b₈ := b₆.kept (l₇.trans l₈).o up8
  have gD₂ : GoodI s₈.heap D₂ highsL := by
    obtain ⟨yl⟩ := ys₂
    rw [List.filter_eq_self.mpr (fun _ _ => rfl)] at hF₂
    have hlen : vr₂.length = (trailsL 31).length := by rw [hvr₂]; simp [lT.len]
    refine ⟨yl, pD₂, intsAre_of_get ?_ ?_⟩
    · rw [← hF₂.length, hlen, highs_trails]; simp
    · intro j y n e1 e2
      obtain ⟨v, ev, n', t, rfl, q⟩ := paired_get hF₂ e1
      have e3 : (rs.map Value.ref)[j]? = some v := by simpa using hPv₂ j _ ev
      have hj : j < (trailsL 31).length := by rw [← hlen]; exact (List.getElem?_eq_some_iff.mp ev).1
      have e4 := q j _ e3 (List.getElem?_eq_getElem hj)
      rw [highs_trails, List.getElem?_map, List.getElem?_eq_getElem hj] at e2
      simp only [Option.map_some, Option.some.injEq] at e2
      subst e2
      exact ⟨t, by rw [e4]⟩
  refine wINil <| wStrIL gD₂ highs_small (by rw [highsL_length]; omega) hg (by show A.units + 3 + 100 < _; omega) ?_
  intro s₉ t₉ l₉ k₉
  refine wNeS <| wTruthB ?_
  rw [bne_self_eq_false]
  refine wNil ?_
  have k59 : Kept s₅.heap s₉.heap := fun c o e => k₉ _ _ (up8 _ _ (k₆ _ _ e))
  have b₉ := b₈.kept l₉.o k₉
  have d₉ := d₅.keeps k59
  have N₉ := N₅.keeps k59
  have gH₉ := gH.at fun o e => k59 _ _ e
  have hHd₉ : Hd ≠ L := fun e => by rw [e] at hHd; obtain ⟨_, _, _, q, _⟩ := N₄; rw [q] at hHd; cases hHd
  have hHd₂ : Hd ≠ L + 2 := fun e => by rw [e] at hHd; obtain ⟨_, q, _⟩ := d₃.keeps k₄; rw [q] at hHd; cases hHd
  have a₉ : LA s L T s₉.heap.objs.size rs := ⟨a.l, a.t1, plist_lt b₉.ts, fun r hr => ⟨(a.r r hr).1, b₉.ls.lt r hr⟩⟩
  have hL9 : @LT.lt Nat _ (L + 2) s₉.heap.objs.size := by have := a₉.t1; have := a₉.t2; omega
  clear hne5 b₃ b₄ b₅ b₆ b₇ b₈ gH hF hPv hF₂ hPv₂ gD₂ k₅ k₈ pHd pD₂ hit hit₂ up8 hT hrs lT pT
  -- the four lists
  refine wCons <| wAssignT <| dispT <| wICons <| dispL <| wINil ⟨by decide, ?_⟩
  intro q₁ lq₁ eq₁
  refine wICons <| dispL <| wINil ⟨by decide, ?_⟩
  intro q₂ lq₂ eq₂
  refine wICons <| dispL <| wINil ⟨by decide, ?_⟩
  intro q₃ lq₃ eq₃
  refine wICons <| dispL <| wINil ⟨by decide, ?_⟩
  intro q₄ lq₄ eq₄
  refine wINil ⟨by simp, ?_⟩
  intro q₅ lq₅ eq₅
  have zq₁ : q₁.heap.objs.size = s₉.heap.objs.size + 1 := by rw [eq₁, Heap.size_push]
  have zq₂ : q₂.heap.objs.size = s₉.heap.objs.size + 2 := by rw [eq₂, Heap.size_push, zq₁]
  have zq₃ : q₃.heap.objs.size = s₉.heap.objs.size + 3 := by rw [eq₃, Heap.size_push, zq₂]
  have kq₁ : Kept s₉.heap q₁.heap := by rw [eq₁]; exact kept_push _ _
  have kq₂ : Kept q₁.heap q₂.heap := by rw [eq₂]; exact kept_push _ _
  have kq₃ : Kept q₂.heap q₃.heap := by rw [eq₃]; exact kept_push _ _
  have kq₄ : Kept q₃.heap q₄.heap := by rw [eq₄]; exact kept_push _ _
  have kq₅ : Kept q₄.heap q₅.heap := by rw [eq₅]; exact kept_push _ _
  refine wUnpack hh (vs := [.ref s₉.heap.objs.size, .ref q₁.heap.objs.size, .ref q₂.heap.objs.size, .ref q₃.heap.objs.size]) (by rw [eq₅]; exact isTup_new _ _) ?_
  intro q₆ lq₆ kq₆
  have kq : Kept s₉.heap q₆.heap := fun c o e => kq₆ _ _ (kq₅ _ _ (kq₄ _ _ (kq₃ _ _ (kq₂ _ _ (kq₁ _ _ e)))))
  refine wAioCons <| wAssignN <| stE (N₉.keeps kq) ?_
  intro p₁ lp₁ Sp₁ Np₁
  refine wAioCons <| wAssignN <| stE Np₁ ?_
  intro p₂ lp₂ Sp₂ Np₂
  refine wAioCons <| wAssignN <| stE Np₂ ?_
  intro p₃ lp₃ Sp₃ Np₃
  refine wAioCons <| wAssignN <| stE Np₃ ?_
  intro p₄ lp₄ Sp₄ Np₄
  refine wAioNil ?_
  have up : ∀ c o, c ≠ L → q₆.heap.get? c = some o → p₄.heap.get? c = some o := fun c o hc e => Sp₄.extBut c o hc (Sp₃.extBut c o hc (Sp₂.extBut c o hc (Sp₁.extBut c o hc e)))
  have like4 : Like s₉ p₄ := lq₁.trans (lq₂.trans (lq₃.trans (lq₄.trans (lq₅.trans (lq₆.trans (lp₁.trans (lp₂.trans (lp₃.trans lp₄))))))))
  have old4 : ∀ c o, c ≠ L → c ≠ L + 2 → s₉.heap.get? c = some o → p₄.heap.get? c = some o := fun c o h1 _ e => up c o h1 (kq _ _ e)
  have g1 : GoodI p₄.heap s₉.heap.objs.size [] := ⟨[], Heap.PlainList.at (h := q₁.heap) (by rw [eq₁]; exact plist_new _ _) fun o e => up _ o (neN (by omega)) (kq₆ _ _ (kq₅ _ _ (kq₄ _ _ (kq₃ _ _ (kq₂ _ _ e))))), .nil⟩
  have g2 : GoodI p₄.heap q₁.heap.objs.size [] := ⟨[], Heap.PlainList.at (h := q₂.heap) (by rw [eq₂]; exact plist_new _ _) fun o e => up _ o (neN (by omega)) (kq₆ _ _ (kq₅ _ _ (kq₄ _ _ (kq₃ _ _ e)))), .nil⟩
  have g3 : Good p₄.heap q₂.heap.objs.size [] := ⟨[], Heap.PlainList.at (h := q₃.heap) (by rw [eq₃]; exact plist_new _ _) fun o e => up _ o (neN (by omega)) (kq₆ _ _ (kq₅ _ _ (kq₄ _ _ e))), .nil⟩
  have g4 : p₄.heap.PlainList q₃.heap.objs.size ([] : List Value).toArray := Heap.PlainList.at (h := q₄.heap) (by rw [eq₄]; exact plist_new _ _) fun o e => up _ o (neN (by omega)) (kq₆ _ _ (kq₅ _ _ e))
  have cell4 : p₄.heap.IsCell (L + 2) none := isCell_at (d₉.keeps kq) fun o e => up _ o (neN (by omega)) e
  have b4 : LB w mg mb s L T rs p₄ := b₉.upd a₉ like4.o (fun c o h1 h2 _ e => old4 c o h1 h2 e) H
  have zp : @LT.lt Nat _ q₃.heap.objs.size p₄.heap.objs.size := plist_lt g4
  -- the loop over the script
  refine wCons <| wFor <| wBinOp <| dispL <| wICons <| wInt <| wICons <| wInt <| wINil ⟨by simp, ?_⟩
  intro e₁ le₁ ee₁
  change e₁.heap = p₄.heap.push _ at ee₁
  have ke₁ : Kept p₄.heap e₁.heap := by rw [ee₁]; exact kept_push _ _
  have be₁ : LB w mg mb s L T rs e₁ := b4.kept (LikeO.trans ⟨rfl, rfl⟩ le₁.o) ke₁
  refine wSliceL <| ldE (Np₄.keeps ke₁) rfl <| wPartN <| wPartS <| wInt ⟨ra, vs.toArray, none, some 12, rfl, ?_, ?_, .none, .int _ _, ?_⟩
  · obtain ⟨o, ho, r⟩ := hl
    exact ⟨o, be₁.keep _ _ ho, r⟩
  · have := intsAre_length hi; simp; omega
  intro e₂ le₂ ke₂ pe₂ ze₂
  change Kept e₁.heap e₂.heap at ke₂
  change e₂.heap.PlainList (e₁.heap.objs.size + 1) _ at pe₂
  have isl : IntsAre (slicePick vs.toArray none (some 12) none).toList (ns.take 12) := slice_ints_uptoW hi (by decide)
  have lsl := intsAre_length isl
  have lsl2 : (ns.take 12).length ≤ 63 := by rw [List.length_take]; omega
  obtain ⟨sl, esl⟩ : ∃ sl : List Value, slicePick vs.toArray none (some 12) none = sl.toArray := ⟨(slicePick vs.toArray none (some 12) none).toList, by simp⟩
  rw [esl] at isl lsl pe₂
  simp only [List.toList_toArray] at isl lsl
  have pe₁ : e₂.heap.PlainList p₄.heap.objs.size [Value.int 20 p₄.toks, .int 25 (p₄.toks + 1)].toArray := Heap.PlainList.at (h := e₁.heap) (by rw [ee₁]; exact plist_new _ _) fun o e => ke₂ _ _ e
  refine addL pe₁ pe₂ ?_ (by simp; omega)
  intro e₃ le₃ ee₃
  have ke₃ : Kept e₂.heap e₃.heap := by rw [ee₃]; exact kept_push _ _
  have px : e₃.heap.PlainList e₂.heap.objs.size ([Value.int 20 p₄.toks, .int 25 (p₄.toks + 1)] ++ sl).toArray := by rw [ee₃]; exact plist_new _ _
  obtain ⟨xs, hxs⟩ : ∃ xs : List Int, xs = [20, 25] ++ ns.take 12 := ⟨_, rfl⟩
  have ix : IntsAre ([Value.int 20 p₄.toks, .int 25 (p₄.toks + 1)] ++ sl) xs := by rw [hxs]; exact .cons _ _ (.cons _ _ isl)
  have lx : xs.length ≤ 65 := by rw [hxs]; simp only [List.length_append, List.length_cons, List.length_nil]; omega
  generalize [Value.int 20 p₄.toks, .int 25 (p₄.toks + 1)] ++ sl = vx at px ix
  have lvx := intsAre_length ix
  refine iterL px.isList ?_
  intro e₄ I₃ le₄ eI₃ ke₄ ze₄ hit₃
  have ke : Kept p₄.heap e₄.heap := fun c o e => ke₄ _ _ (ke₃ _ _ (ke₂ _ _ (ke₁ _ _ e)))
  have lke : Like p₄ e₄ := Like.trans ⟨rfl, rfl, rfl⟩ (le₁.trans (Like.trans ⟨rfl, rfl, rfl⟩ (le₂.trans (le₃.trans le₄))))
  have hX2 : @LT.lt Nat _ e₂.heap.objs.size e₃.heap.objs.size := plist_lt px
  have hz2 : @LT.lt Nat _ p₄.heap.objs.size e₂.heap.objs.size := plist_lt pe₁
  refine for_list hh (neN (by omega)) (LJ s₉ L Hd s₉.heap.objs.size q₁.heap.objs.size q₂.heap.objs.size q₃.heap.objs.size I₃ xs) ?_ ⟨hit₃, (px.at fun o e => ke₄ _ _ e).isList⟩
    ⟨like4.trans lke, fun c o h1 h2 e => ke _ _ (old4 c o h1 h2 e), cell4.keeps ke, ⟨_, Np₄.keeps ke, rfl, rfl, rfl, rfl, rfl⟩, g1.at fun o e => ke _ _ e, g2.at fun o e => ke _ _ e, g3.at fun o e => ke _ _ e, ⟨[], g4.at fun o e => ke _ _ e, TupsAre.nil _, fun t ht => nomatch ht⟩⟩ ?_ ?_
  · intro i x y ⟨j1, j2, j3, ⟨m, j4, jr⟩, j5, j6, j7, ⟨va, j8, j9, j10⟩⟩ ly ky
    refine ⟨j1.trans ly, fun c o h1 h2 e => ky c o (neN (by have := ltN (Heap.lt_size e); omega)) (j2 c o h1 h2 e), isCell_at j3 fun o e => ky _ o (neN (by omega)) e, ⟨m, j4.at' fun o e => ky L o (neN (by omega)) e, jr⟩,
      j5.at fun o e => ky _ o (neN (by omega)) e, j6.at fun o e => ky _ o (neN (by omega)) e, j7.at fun o e => ky _ o (neN (by omega)) e, ⟨va, j8.at fun o e => ky _ o (neN (by omega)) e, j9.keep fun t o ht e => ky t o (neN (by have := j10 t ht; omega)) e, j10⟩⟩
  · rintro i v x hi' hv ⟨hst1, hst2⟩ ⟨j1, j2, j3, ⟨m, j4, n1, n2, n3, n4, n5⟩, j5, j6, j7, ⟨va, j8, j9, j10⟩⟩
    obtain ⟨xv, tx, rfl, hxv⟩ := intsAre_get' ix (by simpa using hv)
    have htake : xs.take (i + 1) = xs.take i ++ [xv] := by rw [List.take_add_one, hxv]; rfl
    refine wAssignN <| stE j4 ?_
    intro y₁ ly₁ Sy₁ Ny₁
    refine wCons <| wAssignTS (names := ["n", "rest"]) <| dispT <| wICons <| wBinOp <| wBinOp <| wBinOp <| ldE Ny₁ rfl <| wInt <| wDiv (by decide) (by decide) <| wInt <| wMod (by decide) <| wInt <| wAdd <| wICons <| wBinOp <| ldE Ny₁ rfl <| wInt <| wDiv (by decide) (by decide) <| wINil ⟨by simp, ?_⟩
    intro y₂ ly₂ ey₂
    have ky₂ : Kept y₁.heap y₂.heap := by rw [ey₂]; exact kept_push _ _
    refine wUnpackI hh (by rw [ey₂]; exact isTup_new _ _) rfl ?_
    intro y₃ ly₃ ky₃
    refine wAioCons <| wBindN <| stE (Ny₁.keeps fun c o e => ky₃ _ _ (ky₂ _ _ e)) ?_
    intro y₄ ly₄ Sy₄ Ny₄
    refine wAioCons <| wBindN <| stE Ny₄ ?_
    intro y ly₅ Sy Ny
    refine wAioNil ?_
    have ly : Like x y := ly₁.trans (Like.trans ⟨rfl, rfl, rfl⟩ (ly₂.trans (ly₃.trans (ly₄.trans ly₅))))
    have uy : ∀ c o, c ≠ L → x.heap.get? c = some o → y.heap.get? c = some o := fun c o hc e => Sy.extBut c o hc (Sy₄.extBut c o hc (ky₃ _ _ (ky₂ _ _ (Sy₁.extBut c o hc e))))
    have hnb := nOf_bd xv
    have oldy : ∀ c o, c ≠ L → c ≠ L + 2 → s₉.heap.get? c = some o → y.heap.get? c = some o := fun c o h1 h2 e => uy c o h1 (j2 c o h1 h2 e)
    have by_ : LB w mg mb s L T rs y := b₉.upd a₉ (j1.trans ly).o (fun c o h1 h2 _ e => oldy c o h1 h2 e) H
    have cy := isCell_at j3 fun o e => uy _ o (neN (by omega)) e
    obtain ⟨v1, p1, i1⟩ := j5.at fun o e => uy _ o (neN (by omega)) e
    obtain ⟨v2, p2, i2⟩ := j6.at fun o e => uy _ o (neN (by omega)) e
    obtain ⟨v3, p3, i3⟩ := j7.at fun o e => uy _ o (neN (by omega)) e
    have p4 := j8.at fun o e => uy _ o (neN (by omega)) e
    have t4 := j9.keep (h' := y.heap) fun t o ht e => uy t o (neN (by have := j10 t ht; omega)) e
    have b1 : v1.length ≤ 65 := by rw [intsAre_length i1]; exact Nat.le_trans (shutL_len _) (by rw [List.length_take]; omega)
    have b2 : v2.length ≤ 65 := by rw [intsAre_length i2]; exact Nat.le_trans (closedL_len _) (by rw [List.length_take]; omega)
    have b3 : v3.length ≤ 65 := by rw [strsAre_length i3]; exact Nat.le_trans (writtenL_len _) (by rw [List.length_take]; omega)
    have b4' : va.length ≤ 65 := by rw [t4.len]; exact Nat.le_trans (askedL_len _) (by rw [List.length_take]; omega)
    have st1 := hst1.at (h' := y.heap) fun o e => uy _ o (neN (by omega)) e
    have st2 := hst2.at (h' := y.heap) fun o e => uy _ o (neN (by omega)) e
    have e1 := shutL_snoc (xs.take i) xv
    have e2 := closedL_snoc (xs.take i) xv
    have e3 := writtenL_snoc (xs.take i) xv
    have e4 := askedL_snoc (xs.take i) xv
    rw [← htake] at e1 e2 e3 e4
    have nz : ∃ mz, y.heap.Ns L mz ∧ mz "highs" = some (.ref Hd) ∧ mz "shut" = some (.ref s₉.heap.objs.size) ∧ mz "closed" = some (.ref q₁.heap.objs.size) ∧ mz "written" = some (.ref q₂.heap.objs.size) ∧ mz "asked" = some (.ref q₃.heap.objs.size) ∧
        mz "x" = some (.int xv tx) ∧ (∃ t, mz "n" = some (.int (nOf xv) t)) ∧ (∃ t, mz "rest" = some (.int (restOf xv) t)) :=
      ⟨_, Ny, upd3 n1 (by decide) (by decide) (by decide), upd3 n2 (by decide) (by decide) (by decide), upd3 n3 (by decide) (by decide) (by decide), upd3 n4 (by decide) (by decide) (by decide), upd3 n5 (by decide) (by decide) (by decide), rfl, ⟨_, rfl⟩, ⟨_, rfl⟩⟩
    clear Ny Ny₄ Ny₁ Sy Sy₄ Sy₁ ky₂ ky₃ j5 j6 j7 j8 j9 uy j4 n1 n2 n3 n4 n5 j2 j3 hst1 hst2
    obtain ⟨mz, Nz, n1, n2, n3, n4, n5, nx, ⟨tn, nn⟩, ⟨tr', nr⟩⟩ := nz
    have jy : Like s₉ y := j1.trans ly
    refine wCons <| wIf <| wIsCmp <| wBinOp <| ldE Nz nx <| wInt <| wMod (by decide) <| wInt <| wEqI <| wTruthB ?_
    cases h0 : (xv.fmod 4 == 0) with
    | true =>
      have h1 : (xv.fmod 4 == 1) = false := by rw [beq_iff_eq] at h0; rw [h0]; rfl
      rw [h0] at e1 e4; rw [h1] at e2 e3
      refine wCons <| wExpr <| wMeth <| ldE Nz n2 <| mAppend p1 <| wB1 <| wICons <| ldE Nz nn <| wINil <| cAppend p1 ?_ (by omega)
      intro z lz pz Sz
      have uz : ∀ c o, c ≠ s₉.heap.objs.size → y.heap.get? c = some o → z.heap.get? c = some o := fun c o hc e => Sz.extBut c o hc e
      refine wNil <| wNil ⟨⟨st1.at fun o e => uz _ o (neN (by omega)) e, st2.at fun o e => uz _ o (neN (by omega)) e⟩, jy.trans (Like.trans ⟨rfl, rfl, rfl⟩ lz), fun c o q1 q2 e => uz c o (neN (by have := ltN (Heap.lt_size e); omega)) (oldy c o q1 q2 e), isCell_at cy fun o e => uz _ o (neN (by omega)) e,
        ⟨mz, Nz.at' fun o e => uz L o (neN (by omega)) e, n1, n2, n3, n4, n5⟩, ?_, ?_, ?_, ⟨va, p4.at fun o e => uz _ o (neN (by omega)) e, ?_, j10⟩⟩
      · rw [e1]; exact ⟨_, pz, i1.append (.cons _ tn .nil)⟩
      · rw [e2]; simp only [Bool.false_eq_true, if_false, List.append_nil]; exact ⟨v2, p2.at fun o e => uz _ o (neN (by omega)) e, i2⟩
      · rw [e3]; simp only [Bool.false_eq_true, if_false, List.append_nil]; exact ⟨v3, p3.at fun o e => uz _ o (neN (by omega)) e, i3⟩
      · rw [e4]; simp only [Bool.not_true, Bool.false_and, Bool.false_eq_true, if_false, List.append_nil]; exact t4.keep fun t o ht e => uz t o (neN (by have := j10 t ht; omega)) e
    | false =>
      rw [h0] at e1 e4
      simp only [Bool.false_eq_true, if_false, List.append_nil] at e1
      refine wCons <| wIf <| wIsCmp <| wBinOp <| ldE Nz nx <| wInt <| wMod (by decide) <| wInt <| wEqI <| wTruthB ?_
      cases h1 : (xv.fmod 4 == 1) with
      | true =>
        rw [h1] at e2 e3 e4
        simp only [Bool.not_false, Bool.not_true, Bool.and_false, Bool.false_eq_true, if_false, List.append_nil] at e4
        refine wCons <| wExpr <| wMeth <| ldE Nz n3 <| mAppend p2 <| wB1 <| wICons <| ldE Nz nn <| wINil <| cAppend p2 ?_ (by omega)
        intro z lz pz Sz
        have uz : ∀ c o, c ≠ q₁.heap.objs.size → y.heap.get? c = some o → z.heap.get? c = some o := fun c o hc e => Sz.extBut c o hc e
        have Nz' := Nz.at' (h' := z.heap) fun o e => uz L o (neN (by omega)) e
        have bz : LB w mg mb s L T rs z := by_.upd a₉ (Like.trans ⟨rfl, rfl, rfl⟩ lz).o (fun c o _ _ h3 e => uz c o (neN (by omega)) e) H
        have p3z := p3.at (h' := z.heap) fun o e => uz _ o (neN (by omega)) e
        obtain ⟨r, hr⟩ : ∃ r, rs[(nOf xv).toNat]? = some r := ⟨_, List.getElem?_eq_getElem (by rw [b₉.ls.len, trailsL_length]; omega)⟩
        have gr := bz.ls.at_ _ r _ hr (tr_get hnb.1 hnb.2)
        have mb4 := mod_bd (restOf xv) 4 (by decide)
        refine wCons <| wExpr <| wMeth <| ldE Nz' n4 <| mAppend p3z <| wB1 <| wICons <| wCall <| ldG bz.host rfl <| wF1 rfl <| wICons <| wSub <| ldC bz.tc <| ldE Nz' nn <| itemL bz.ts (by omega) (by omega) (v := .ref r) (by rw [List.getElem?_map, hr]; rfl) <| wICons <| wBinOp <| ldE Nz' nr <| wInt <| wMod (by decide) <| wINil ⟨bz.host, written_call bz.host (by show A.depth + 1 < _; omega) gr (tr_small (by omega) hnb.2) ?_⟩
        intro z₂ tw lz₂ kz₂
        change Kept z.heap z₂.heap at kz₂
        have p3w := p3z.at fun o e => kz₂ _ _ e
        refine wINil <| cAppend p3w ?_ (by omega)
        intro z₃ lz₃ pz₃ Sz₃
        have uw : ∀ c o, c ≠ q₁.heap.objs.size → c ≠ q₂.heap.objs.size → y.heap.get? c = some o → z₃.heap.get? c = some o := fun c o h1 h2 e => Sz₃.extBut c o h2 (kz₂ _ _ (uz c o h1 e))
        refine wNil <| wNil <| wNil ⟨⟨st1.at fun o e => uw _ o (neN (by omega)) (neN (by omega)) e, st2.at fun o e => uw _ o (neN (by omega)) (neN (by omega)) e⟩, jy.trans (Like.trans (Like.trans ⟨rfl, rfl, rfl⟩ lz) (Like.trans (Like.trans ⟨rfl, rfl, rfl⟩ lz₂) lz₃)),
          fun c o q1 q2 e => uw c o (neN (by have := ltN (Heap.lt_size e); omega)) (neN (by have := ltN (Heap.lt_size e); omega)) (oldy c o q1 q2 e), isCell_at cy fun o e => uw _ o (neN (by omega)) (neN (by omega)) e,
          ⟨mz, Nz.at' fun o e => uw L o (neN (by omega)) (neN (by omega)) e, n1, n2, n3, n4, n5⟩, ?_, ?_, ?_, ⟨va, p4.at fun o e => uw _ o (neN (by omega)) (neN (by omega)) e, ?_, j10⟩⟩
        · rw [e1]; exact ⟨v1, p1.at fun o e => uw _ o (neN (by omega)) (neN (by omega)) e, i1⟩
        · rw [e2]; exact ⟨_, Heap.PlainList.at pz fun o e => Sz₃.extBut _ o (neN (by omega)) (kz₂ _ _ e), i2.append (.cons _ tn .nil)⟩
        · rw [e3]; exact ⟨_, pz₃, strsAre_snoc i3 _ _⟩
        · rw [e4]; exact t4.keep fun t o ht e => uw t o (neN (by have := j10 t ht; omega)) (neN (by have := j10 t ht; omega)) e
      | false =>
        rw [h1] at e2 e3 e4
        simp only [Bool.false_eq_true, if_false, List.append_nil] at e2 e3
        simp only [Bool.not_false, Bool.and_true, if_true] at e4
        refine wCons <| wExpr <| wMeth <| ldE Nz n5 <| mAppend p4 <| wB1 <| wICons <| dispT <| wICons <| ldE Nz nn <| wICons <| wBinOp <| ldE Nz nr <| wInt <| wMod (by decide) <| wINil ⟨by simp, ?_⟩
        intro z lz ez
        change z.heap = y.heap.push _ at ez
        have kz : Kept y.heap z.heap := by rw [ez]; exact kept_push _ _
        have p4z := p4.at fun o e => kz _ _ e
        refine wINil <| cAppend p4z ?_ (by omega)
        intro z₂ lz₂ pz₂ Sz₂
        have uw : ∀ c o, c ≠ q₃.heap.objs.size → y.heap.get? c = some o → z₂.heap.get? c = some o := fun c o h1 e => Sz₂.extBut c o h1 (kz _ _ e)
        have hIy : @LT.lt Nat _ I₃ y.heap.objs.size := by obtain ⟨_, e, _⟩ := st1; exact Heap.lt_size e
        obtain ⟨tq, tz⟩ : ∃ tq, IsTup z₂.heap y.heap.objs.size [.int (nOf xv) tn, .int ((restOf xv).fmod 32) tq].toArray := ⟨_, isTup_at (h := z.heap) (by rw [ez]; exact isTup_new _ _) fun o e => Sz₂.extBut _ o (neN (by omega)) e⟩
        refine wNil <| wNil <| wNil ⟨⟨st1.at fun o e => uw _ o (neN (by omega)) e, st2.at fun o e => uw _ o (neN (by omega)) e⟩, jy.trans (Like.trans (Like.trans ⟨rfl, rfl, rfl⟩ lz) lz₂),
          fun c o q1 q2 e => uw c o (neN (by have := ltN (Heap.lt_size e); omega)) (oldy c o q1 q2 e), isCell_at cy fun o e => uw _ o (neN (by omega)) e,
          ⟨mz, Nz.at' fun o e => uw L o (neN (by omega)) e, n1, n2, n3, n4, n5⟩, ?_, ?_, ?_, ⟨va ++ [.ref y.heap.objs.size], pz₂, ?_, ?_⟩⟩
        · rw [e1]; exact ⟨v1, p1.at fun o e => uw _ o (neN (by omega)) e, i1⟩
        · rw [e2]; exact ⟨v2, p2.at fun o e => uw _ o (neN (by omega)) e, i2⟩
        · rw [e3]; exact ⟨v3, p3.at fun o e => uw _ o (neN (by omega)) e, i3⟩
        · rw [e4]; exact (t4.keep fun t o ht e => uw t o (neN (by have := j10 t ht; omega)) e).append (.one tz)
        · intro t ht
          rcases List.mem_append.mp ht with ht | ht
          · exact j10 t ht
          · rw [List.mem_singleton] at ht; cases ht; exact hIy
  · rintro x ⟨j1, j2, j3, ⟨m, j4, n1, n2, n3, n4, n5⟩, j5, j6, j7, ⟨va, j8, j9, j10⟩⟩
    have etk : xs.take vx.toArray.size = xs := by rw [List.size_toArray, lvx, List.take_length]
    rw [etk] at j5 j6 j7 j9
    have bx : LB w mg mb s L T rs x := b₉.upd a₉ j1.o (fun c o h1 h2 _ e => j2 c o h1 h2 e) H
    have hLx : @LT.lt Nat _ (L + 2) x.heap.objs.size := by obtain ⟨_, e, _⟩ := j3; exact Heap.lt_size e
    have lva : va.length ≤ 65 := by rw [j9.len]; exact Nat.le_trans (askedL_len _) lx
    -- all the questions
    refine wCons <| wAssign <| wBinOp <| wBinOp <| ldE j4 n5 <| tup_comp (g := g16) bx.host hh (by decide) (by decide) (by decide) (by decide) rfl ?_ ?_
    · intro C n t m y Ny hm
      exact dispT <| wICons <| ldE Ny hm <| wICons <| wBinOp <| wInt <| ldE Ny hm <| wAdd <| wINil ⟨by simp, fun s' l e => ⟨_, _, rfl, Like.trans ⟨rfl, rfl, rfl⟩ l, e⟩⟩
    intro f₁ D₁ va₁ lf₁ kf₁ pf₁ tf₁ hD₁ ht₁
    have lva₁ : va₁.length = 15 := by rw [tf₁.len]; decide
    refine addL (j8.at fun o e => kf₁ _ _ e) pf₁ ?_ (by omega)
    intro f₂ lf₂ ef₂
    have kf₂ : Kept f₁.heap f₂.heap := by rw [ef₂]; exact kept_push _ _
    have bf₂ : LB w mg mb s L T rs f₂ := bx.kept (lf₁.trans lf₂).o fun c o e => kf₂ _ _ (kf₁ _ _ e)
    have pf₂ : f₂.heap.PlainList f₁.heap.objs.size (va ++ va₁).toArray := by rw [ef₂]; exact plist_new _ _
    refine tup_comp (g := g0) bf₂.host hh (by decide) (by decide) (by decide) (by decide) rfl ?_ ?_
    · intro C n t m y Ny hm
      exact dispT <| wICons <| ldE Ny hm <| wICons <| wInt <| wINil ⟨by simp, fun s' l e => ⟨_, _, rfl, Like.trans ⟨rfl, rfl, rfl⟩ l, e⟩⟩
    intro f₃ D₃ va₃ lf₃ kf₃ pf₃ tf₃ hD₃ ht₃
    have lva₃ : va₃.length = 31 := by rw [tf₃.len]; decide
    refine addL (pf₂.at fun o e => kf₃ _ _ e) pf₃ ?_ (by simp; omega)
    intro f₄ lf₄ ef₄
    have kf₄ : Kept f₃.heap f₄.heap := by rw [ef₄]; exact kept_push _ _
    have kf : Kept x.heap f₄.heap := fun c o e => kf₄ _ _ (kf₃ _ _ (kf₂ _ _ (kf₁ _ _ e)))
    have pf₄ : f₄.heap.PlainList f₃.heap.objs.size (va ++ va₁ ++ va₃).toArray := by rw [ef₄]; exact plist_new _ _
    have tf₄ : TupsAre f₄.heap (va ++ va₁ ++ va₃) (psL xs) := ((j9.keep fun t o _ e => kf _ _ e).append (tf₁.keep fun t o _ e => kf₄ _ _ (kf₃ _ _ (kf₂ _ _ e)))).append (tf₃.keep fun t o _ e => kf₄ _ _ e)
    have hI₃x : @LT.lt Nat _ I₃ x.heap.objs.size ∨ True := .inr trivial
    have htL : ∀ t, .ref t ∈ va ++ va₁ ++ va₃ → @LT.lt Nat _ (L + 2) t := fun t ht => by
      rcases List.mem_append.mp ht with ht | ht
      · rcases List.mem_append.mp ht with ht | ht
        · have := j10 t ht; omega
        · have := ht₁ t ht; omega
      · have := ht₃ t ht
        have := bf₂.tc
        have : @LT.lt Nat _ (L + 2) f₂.heap.objs.size := by obtain ⟨_, e, _⟩ := j3; exact Heap.lt_size (kf₂ _ _ (kf₁ _ _ e))
        omega
    generalize va ++ va₁ ++ va₃ = vp at pf₄ tf₄ htL
    refine stE (j4.keeps kf) ?_
    intro x₁ lx₁ Sx₁ Nx₁
    change Heap.SameBut L f₄.heap x₁.heap at Sx₁
    change x₁.heap.Ns L _ at Nx₁
    have ux : ∀ c o, c ≠ L → x.heap.get? c = some o → x₁.heap.get? c = some o := fun c o hc e => Sx₁.extBut c o hc (kf _ _ e)
    have hA : @LT.lt Nat _ (L + 2) f₃.heap.objs.size := by obtain ⟨_, e, _⟩ := j3; exact Heap.lt_size (kf₃ _ _ (kf₂ _ _ (kf₁ _ _ e)))
    have px₁ := pf₄.at fun o e => Sx₁.extBut _ o (neN (by omega)) e
    have tx₁ := tf₄.keep (h' := x₁.heap) fun t o ht e => Sx₁.extBut t o (neN (by have := htL t ht; omega)) e
    have oldx : ∀ c o, c ≠ L → c ≠ L + 2 → s₉.heap.get? c = some o → x₁.heap.get? c = some o := fun c o h1 h2 e => ux c o h1 (j2 c o h1 h2 e)
    have lx₁' : Like s₉ x₁ := j1.trans (lf₁.trans (lf₂.trans (lf₃.trans (lf₄.trans lx₁))))
    have bx₁ : LB w mg mb s L T rs x₁ := b₉.upd a₉ lx₁'.o (fun c o h1 h2 _ e => oldx c o h1 h2 e) H
    have cx₁ := isCell_at j3 fun o e => ux _ o (neN (by omega)) e
    have gs := j5.at fun o e => ux _ o (neN (by omega)) e
    have gc := j6.at fun o e => ux _ o (neN (by omega)) e
    have gw := j7.at fun o e => ux _ o (neN (by omega)) e
    have gh := gH₉.at fun o e => oldx _ o hHd₉ hHd₂ e
    have u1 := upd_ne (x := "asked") (v := .ref f₃.heap.objs.size) n1 (by decide)
    have u2 := upd_ne (x := "asked") (v := .ref f₃.heap.objs.size) n2 (by decide)
    have u3 := upd_ne (x := "asked") (v := .ref f₃.heap.objs.size) n3 (by decide)
    have u4 := upd_ne (x := "asked") (v := .ref f₃.heap.objs.size) n4 (by decide)
    clear ux oldx old4 g1 g2 g3 g4 cell4 b4 zp kf₁ kf₂ kf₃ kf₄ kf tf₁ tf₃ pf₁ pf₂ pf₃ tf₄ pf₄ j2 j3 j4 j5 j6 j7 j8 j9 j10 bf₂ ef₂ ef₄ Sx₁ up
    -- the object
    obtain ⟨vs₁, ps₁, is₁⟩ := gs
    have ls₁ : vs₁.length ≤ 65 := by rw [intsAre_length is₁]; exact Nat.le_trans (shutL_len _) lx
    refine wCons <| wAssign <| wCall <| ldG bx₁.host rfl <| wCls bx₁.host <| wICons <| wComp (fun _ => true) modV rfl <| ldE Nx₁ u2 <| iterL ps₁.isList ?_
    intro x₂ I₄ lx₂ eI₄ kx₂ zx₂ hit₄
    have hs1x : @LT.lt Nat _ s₉.heap.objs.size x₁.heap.objs.size := plist_lt ps₁
    refine ⟨I₄, [I₄, s₉.heap.objs.size], [I₄], vs₁.toArray.size, _, _, rfl, Walks.list (A := A.deeper _) hh I₄ s₉.heap.objs.size (neN (by omega)) vs₁.toArray, by simp; omega, ⟨hit₄, (ps₁.at fun o e => kx₂ _ _ e).isList⟩, ?_, quiet_of (.inl ⟨rfl, fun _ => rfl⟩) ?_, ?_⟩
    · intro c hc
      rcases List.mem_cons.mp hc with rfl | hc
      · exact ltN (by omega)
      · rw [List.mem_singleton] at hc; subst hc; exact ltN (by omega)
    · intro C i v y m₃ hC hv _ Ny hmy ky
      obtain ⟨n, tn, rfl, hn'⟩ := intsAre_get' is₁ (by simpa using hv)
      have hnb := shutL_bd xs n (List.mem_of_getElem? hn')
      have up : ∀ c o, x₁.heap.get? c = some o → y.heap.get? c = some o := fun c o e => ky c o (by
        have := ltN (Heap.lt_size e)
        simp only [List.mem_singleton]
        exact neN (by omega)) (kx₂ _ _ e)
      have by_ := bx₁.kept (s' := { x₁ with heap := y.heap }) ⟨rfl, rfl⟩ up
      obtain ⟨r, hr⟩ : ∃ r, rs[n.toNat]? = some r := ⟨_, List.getElem?_eq_getElem (by rw [b₉.ls.len, trailsL_length]; omega)⟩
      have gr : Good y.heap r (tr n) := by_.ls.at_ _ r _ hr (tr_get hnb.1 hnb.2)
      refine wMeth <| wStr <| mJoin <| wB1 <| wICons <| wSub <| ldC by_.tc <| ldE Ny hmy <| itemL by_.ts (by omega) (by omega) (v := .ref r) (by rw [List.getElem?_map, hr]; rfl) <| wINil <| cJoin gr (tr_small (by omega) hnb.2) (by decide) ?_
      intro t' k'
      exact ⟨⟨n, tn, t', rfl, rfl⟩, ⟨rfl, rfl, rfl⟩, fun _ _ e => e⟩
    intro rm x₃ ys₃ vr₃ hrm prm hvr₃ hPv₃ hF₃ lx₃ kx₃
    have up3 : Kept x₁.heap x₃.heap := fun c o e => kx₃ c o (by
        have := ltN (Heap.lt_size e)
        simp only [List.mem_singleton]
        exact neN (by omega)) (kx₂ _ _ e)
    have grm : Good x₃.heap rm ((shutL xs).map modN) := by
      obtain ⟨yl⟩ := ys₃
      rw [List.filter_eq_self.mpr (fun _ _ => rfl)] at hF₃
      have : vr₃ = vs₁ := list_eq (by simpa using hvr₃) fun j v e => by simpa using hPv₃ j v e
      subst this
      exact ⟨yl, prm, paired_mod is₁ hF₃⟩
    have bx₃ := bx₁.kept (lx₂.trans lx₃).o up3
    have hwn := written_norm xs
    refine wICons <| ldE (Nx₁.keeps up3) u4 <| wINil ⟨up3, ignore_call bx₃.host (by show A.depth + 1 + 10 < _; omega) hh grm (gw.at fun o e => up3 _ _ e) (by simp only [ne_eq, List.map_eq_nil_iff]; rw [hxs]; exact shutL_ne _) (by rw [hxs]; exact writtenL_ne _)
      (by rw [List.length_map]; exact Nat.le_trans (shutL_len _) (by omega)) (Nat.le_trans (writtenL_len _) (by omega)) hwn.2 ?_⟩
    intro x₄ X Dd S0 P G tg lx₄ kx₄ fresh hG rdy
    rw [hwn.1] at rdy
    have up4 : Kept x₁.heap x₄.heap := fun c o e => kx₄ _ _ (up3 _ _ e)
    have old₁ : ∀ b, b = X ∨ b = Dd ∨ b = S0 ∨ b = P ∨ b = G → ∀ c o, x₁.heap.get? c = some o → c ≠ b := fun b hb c o e e' => by
      have := fresh b hb
      rw [← e', up3 _ _ e] at this; cases this
    have bx₄ := bx₃.kept lx₄.o kx₄
    refine stC (cx₁.keeps up4) ?_
    intro x₅ lx₅ Sx₅ cx₅
    have u5 : ∀ c o, c ≠ L + 2 → x₁.heap.get? c = some o → x₅.heap.get? c = some o := fun c o h1 e => Sx₅.extBut c o h1 (up4 _ _ e)
    have hc2 : ∀ b, b = X ∨ b = Dd ∨ b = S0 ∨ b = P ∨ b = G → b ≠ L + 2 := fun b hb => by
      obtain ⟨o, e, _⟩ := cx₁
      exact Ne.symm (old₁ b hb _ _ e)
    have rdy₅ := rdy.at (h' := x₅.heap) fun b o hb e => Sx₅.extBut b o (hc2 b hb) e
    have bx₅ : LB w mg mb s L T rs x₅ := bx₁.upd (B := s₉.heap.objs.size) a₉ (((lx₂.trans lx₃).trans lx₄).trans lx₅).o (fun c o _ h2 _ e => u5 c o h2 e) H
    have N₅' := Nx₁.at' (h' := x₅.heap) fun o e => u5 L o (neN (by omega)) e
    clear hF₃ hPv₃ kx₃ hit₄ up3 up4 Sx₅ rdy
    -- the question of "<string>"
    obtain ⟨mo, I₅, i1, i2, i3, i4⟩ := rdy₅.ign
    have tells : Tells' [((Str.ofString "<string>"), Value.int 1 tg)] (fun z => if z = "<string>" then some 1 else none) := by
      intro z
      by_cases hz : z = "<string>"
      · subst hz; simp only [if_true]; exact ⟨tg, by simp [valueAt]⟩
      · simp only [hz, if_false]
        have : decide (Str.ofString "<string>" = z) = false := decide_eq_false fun e => hz e.symm
        simp [valueAt, this]
    have hml : ∀ k ∈ (shutL xs).map modN, k.length ≤ 1000 := fun k hk => by
      obtain ⟨n, hn', rfl⟩ := List.mem_map.mp hk
      have := (modN_facts (shutL_bd xs n hn').1 (shutL_bd xs n hn').2).2.1
      omega
    have hdl : ∀ k ∈ (closedL xs).map fileN, k.length ≤ 1000 := fun k hk => by
      obtain ⟨n, hn', rfl⟩ := List.mem_map.mp hk
      have := (modN_facts (closedL_bd xs n hn').1 (closedL_bd xs n hn').2).2.2
      omega
    have hdn : ((closedL xs).map fileN).length ≤ 1000 := by rw [List.length_map]; exact Nat.le_trans (closedL_len _) (by omega)
    refine wCons <| wIf <| wIsCmp <| wCall <| ldB bx₅.host rfl boot_str (by decide) <| wT1 <| wICons <| wMeth <| ldC cx₅ <| methA bx₅.host I₅ i4 <| wF1 rfl <| wICons <| wStr <| wICons <| wStr <| wINil ⟨bx₅.host, names_call (s := { x₅ with toks := _ }) (fo := some "/ab") bx₅.host (by show A.depth + 1 < _; omega) hh rdy₅ hG tells ⟨_, rfl⟩ (by simp) hml hdl hdn ?_⟩
    intro x₆ kvs₆ t₆ lx₆ kx₆ rdy₆ te₆ ln₆
    have e1 : tellN (fun z => if z = "<string>" then some 1 else none) "<string>" (ansN ((shutL xs).map modN) ((closedL xs).map fileN) (some "/ab") "<string>") = 1 := rfl
    rw [e1]
    refine wINil <| wStrI (by unfold Sm; omega) <| wStr <| wNeS <| wTruthB ?_
    rw [show ((Str.ofString (toString (1 : Int))) != "1") = false by decide]
    refine wNil ?_
    have u6 : ∀ c o, c ≠ L + 2 → x₁.heap.get? c = some o → x₆.heap.get? c = some o := fun c o h1 e => kx₆ c o (old₁ G (.inr (.inr (.inr (.inr rfl)))) c o e) (u5 c o h1 e)
    have hG2 := hc2 G (.inr (.inr (.inr (.inr rfl))))
    have cx₆ : x₆.heap.IsCell (L + 2) (some (.ref X)) := isCell_at cx₅ fun o e => kx₆ _ o (Ne.symm hG2) e
    have hGL : L ≠ G := by obtain ⟨_, _, _, e, _⟩ := Nx₁; exact old₁ G (.inr (.inr (.inr (.inr rfl)))) _ _ e
    have N₆ := Nx₁.at' (h' := x₆.heap) fun o e => u6 L o (neN (by omega)) e
    have px₆ := px₁.at (h' := x₆.heap) fun o e => u6 _ o (neN (by omega)) e
    have hf₃ : @LT.lt Nat _ f₃.heap.objs.size x₆.heap.objs.size := plist_lt px₆
    have hf₃G : f₃.heap.objs.size ≠ G := by obtain ⟨_, e⟩ := px₁; exact old₁ G (.inr (.inr (.inr (.inr rfl)))) _ _ e
    have lo6 : LikeO s x₆ := bx₅.like.trans (LikeO.trans ⟨rfl, rfl⟩ lx₆)
    have lpv : vp.length ≤ 111 := by rw [tx₁.len]; exact Nat.le_trans (psL_len xs) (by omega)
    have hbd := psL_bd xs
    clear u5 rdy₅ bx₅ cx₅ N₅' I₅ i1 i2 i3 i4 kx₆ tells
    refine wCons <| wAssignCompJ rfl <| ldE N₆ rfl <| iterL px₆.isList ?_
    intro y₁ It ly₁ eIt ky₁ zy₁ hit
    change It = x₆.heap.objs.size at eIt
    change Kept x₆.heap y₁.heap at ky₁
    refine ⟨It, rfl, ?_⟩
    intro y₂ D C ly₂ eD eC ky₂ pD nC
    have ky : Kept x₆.heap y₂.heap := fun c o e => ky₂ _ _ (ky₁ _ _ e)
    have rlt := rdy₆.lt
    have neC : ∀ c o, x₆.heap.get? c = some o → c ≠ C ∧ c ≠ D ∧ c ≠ It := fun c o e => by
      have := ltN (Heap.lt_size e)
      exact ⟨neN (by omega), neN (by omega), neN (by omega)⟩
    have hGlt := rlt G (.inr (.inr (.inr (.inr rfl))))
    have hp1 : @LT.lt Nat _ L x₆.heap.objs.size := N₆.lt
    -- a state of the loop, seen from ahead of the object's making
    have see : ∀ (z : Shared), (∀ c o, c ≠ C → c ≠ D → c ≠ It → c ≠ G → y₂.heap.get? c = some o → z.heap.get? c = some o) → ∀ c o, c ≠ L + 2 → x₁.heap.get? c = some o → z.heap.get? c = some o := fun z hz c o h1 e => by
      have e6 := u6 c o h1 e
      obtain ⟨a1, a2, a3⟩ := neC c o e6
      exact hz c o a1 a2 a3 (old₁ G (.inr (.inr (.inr (.inr rfl)))) c o e) (ky _ _ e6)
    refine ⟨[It, f₃.heap.objs.size], vp.toArray.size, _, _, ToJ prog w y₂ C D It X Dd S0 P G ((shutL xs).map modN) ((closedL xs).map fileN) (ansD (shutL xs) (closedL xs)) (psL xs), Walks.list (A := A.deeper _) hh It f₃.heap.objs.size (neN (by omega)) vp.toArray, go_list, ?_,
      ⟨hit.at fun o e => ky₂ _ _ e, (px₆.at fun o e => ky _ _ e).isList⟩, ⟨LikeO.refl _, fun _ _ _ _ _ _ e => e, ⟨_, nC⟩, ⟨[], pD, .nil⟩, ⟨kvs₆, _, rdy₆.at fun b o _ e => ky _ _ e, te₆, ?_, by simp at ln₆; omega⟩⟩, ?_, ?_⟩
    · rintro i x y ⟨q1, q2, ⟨m, q3⟩, q4, ⟨kvs, kn, q5, q6, q7, q8⟩⟩ ly ky'
      exact ⟨q1.trans ly.o, fun c o h1 h2 h3 h4 e => ky' c o h3 (q2 c o h1 h2 h3 h4 e), ⟨m, q3.at' fun o e => ky' _ o (neN (by omega)) e⟩, q4.at fun o e => ky' _ o (neN (by omega)) e,
        ⟨kvs, kn, q5.at fun b o hb e => ky' b o (neN (by have := rlt b hb; omega)) e, q6, q7, q8⟩⟩
    · intro n h1 h2
      have := (modN_facts h1 h2).1
      show (if modN n = "<string>" then some 1 else none) = none
      rw [if_neg this]
    · rintro i v x hi' hv hst ⟨q1, q2, ⟨m, q3⟩, q4, ⟨kvs, kn, q5, q6, q7, q8⟩⟩
      have hil : i < (psL xs).length := by simp [tx₁.len] at hi'; exact hi'
      obtain ⟨p, hp⟩ : ∃ p, (psL xs)[i]? = some p := ⟨_, List.getElem?_eq_getElem hil⟩
      obtain ⟨t, a1, a2, rfl, gT⟩ := tx₁.at_ i v p (by simpa using hv) hp
      obtain ⟨hb1, hb2, hb3, hb4⟩ := hbd p (List.mem_of_getElem? hp)
      have htake : (psL xs).take (i + 1) = (psL xs).take i ++ [p] := by rw [List.take_add_one, hp]; rfl
      have sx := see x q2
      have gTx : IsTup x.heap t [.int p.1 a1, .int p.2 a2].toArray := isTup_at gT fun o e => sx t o (neN (by have := htL t (List.mem_of_getElem? (by simpa using hv)); omega)) e
      have hCx : @LT.lt Nat _ C x.heap.objs.size := q3.lt
      refine wUnpack hh gTx ?_
      intro y₃ ly₃ ky₃
      refine wAioCons <| wAssignN <| stE (q3.keeps ky₃) ?_
      intro y₄ ly₄ Sy₄ Ny₄
      refine wAioCons <| wAssignN <| stE Ny₄ ?_
      intro y ly₅ Sy Ny
      refine wAioNil ?_
      change Heap.SameBut C y₃.heap y₄.heap at Sy₄
      change Heap.SameBut C y₄.heap y.heap at Sy
      have ly : Like x y := ly₃.trans (ly₄.trans ly₅)
      have uy : ∀ c o, c ≠ C → x.heap.get? c = some o → y.heap.get? c = some o := fun c o hc e => Sy.extBut c o hc (Sy₄.extBut c o hc (ky₃ _ _ e))
      have sy : ∀ c o, c ≠ L + 2 → x₁.heap.get? c = some o → y.heap.get? c = some o := see y fun c o h1 h2 h3 h4 e => uy c o h1 (q2 c o h1 h2 h3 h4 e)
      have by_ : LB w mg mb s L T rs { x₁ with heap := y.heap } := bx₁.upd a₉ ⟨rfl, rfl⟩ (fun c o _ h2 _ e => sy c o h2 e) H
      have Hy : Host w mg mb y.heap := by_.host
      have cy : y.heap.IsCell (L + 2) (some (.ref X)) := isCell_at cx₆ fun o e => by
        obtain ⟨b1, b2, b3⟩ := neC _ _ e
        exact uy _ o b1 (q2 _ o b1 b2 b3 (Ne.symm hG2) (ky _ _ e))
      have tcy : y.heap.IsCell (L + 1) (some (.ref T)) := by_.tc
      have ry : Rdy prog w y.heap X Dd S0 P G ((shutL xs).map modN) ((closedL xs).map fileN) kvs := q5.at fun b o hb e => uy b o (neN (by have := rlt b hb; omega)) e
      obtain ⟨mo, Io, i1, i2, i3, i4⟩ := ry.ign
      obtain ⟨rn, hrn⟩ : ∃ r, rs[p.1.toNat]? = some r := ⟨_, List.getElem?_eq_getElem (by rw [b₉.ls.len, trailsL_length]; omega)⟩
      obtain ⟨rd, hrd⟩ : ∃ r, rs[p.2.toNat]? = some r := ⟨_, List.getElem?_eq_getElem (by rw [b₉.ls.len, trailsL_length]; omega)⟩
      have grn : Good y.heap rn (tr p.1) := by_.ls.at_ _ rn _ hrn (tr_get hb1 hb2)
      have grd : Good y.heap rd (tr p.2) := by_.ls.at_ _ rd _ hrd (tr_get0 hb3 hb4)
      have tsy : y.heap.PlainList T (rs.map Value.ref).toArray := by_.ts
      refine wMeth <| ldC cy <| methA Hy Io i4 <| wF1 (mg := mg) (mb := mb) rfl <| wICons <| Wp.mono (Q := fun v e => FileIs v (fileOf p.2) ∧ Like y e ∧ e.heap = y.heap) ?_ ?_
      · refine wIfExp <| wIsCmp <| ldE Ny rfl <| wInt <| wGtI <| wTruthB ?_
        by_cases hd : 0 < p.2
        · rw [decide_eq_true hd, show fileOf p.2 = some (fileN p.2) from if_pos hd]
          refine wBinOp <| wStr <| wMeth <| wStr <| mJoin <| wB1 <| wICons <| wSub <| ldC tcy <| ldE Ny rfl <| itemL tsy hb3 (by omega) (v := .ref rd) (by rw [List.getElem?_map, hrd]; rfl) <| wINil <| cJoin grd (tr_small hb3 hb4) (by decide) ?_
          intro t' k'
          refine wCat (by have := (tr_small hb3 hb4).join (sep := "/") (by decide); rw [show (Str.ofString "/").length = 1 by decide]; omega) fun t'' k'' => ⟨⟨_, rfl⟩, ⟨rfl, rfl, rfl⟩, rfl⟩
        · rw [decide_eq_false hd, show fileOf p.2 = none from if_neg hd]
          exact wNone ⟨rfl, ⟨rfl, rfl, rfl⟩, rfl⟩
      rintro fv e ⟨hfv, le, ee⟩
      have Ne := Ny
      rw [← ee] at Ne
      change e.heap.Ns C _ at Ne
      have tce : e.heap.IsCell (L + 1) (some (.ref T)) := by rw [ee]; exact tcy
      have tse : e.heap.PlainList T (rs.map Value.ref).toArray := by rw [ee]; exact tsy
      have gre : Good e.heap rn (tr p.1) := by rw [ee]; exact grn
      have He : Host w mg mb e.heap := by rw [ee]; exact Hy
      have re : Rdy prog w e.heap X Dd S0 P G ((shutL xs).map modN) ((closedL xs).map fileN) kvs := by rw [ee]; exact ry
      refine wICons <| wMeth <| wStr <| mJoin <| wB1 <| wICons <| wSub <| ldC tce <| ldE Ne rfl <| itemL tse (by omega) (by omega) (v := .ref rn) (by rw [List.getElem?_map, hrn]; rfl) <| wINil <| cJoin gre (tr_small (by omega) hb2) (by decide) ?_
      intro tm km
      refine wINil ⟨He, names_call (s := { e with toks := km }) (fo := fileOf p.2) (m := modN p.1) He (by show A.depth + 1 < _; omega) hh re hG q6 hfv (by simp at hi'; omega) hml hdl hdn ?_⟩
      intro z kvs' tz lz kz rz tez lenz
      have ha := ans_eq (shutL_bd xs) (closedL_bd xs) hb1 hb2 hb3 hb4
      obtain ⟨hk', ho'⟩ := told_step (ans := ansD (shutL xs) (closedL xs)) q7 hb1 hb2 ha
      have hR' : runA (ansD (shutL xs) (closedL xs)) ((psL xs).take (i + 1)) = stepA (ansD (shutL xs) (closedL xs)) (runA (ansD (shutL xs) (closedL xs)) ((psL xs).take i)) (p.1, p.2) := by rw [htake, runA_snoc]
      have uz : ∀ c o, c ≠ C → c ≠ G → x.heap.get? c = some o → z.heap.get? c = some o := fun c o h1 h2 q => kz c o h2 (by show e.heap.get? c = some o; rw [ee]; exact uy c o h1 q)
      obtain ⟨vt, pt, it⟩ := q4.at fun o e => uz D o (neN (by omega)) (neN (by omega)) e
      have hvt : vt.length ≤ 200 := by rw [intsAre_length it, runA_len, List.length_take]; simp [tx₁.len] at lpv; omega
      refine cAppend pt ?_ (by omega)
      intro z₂ lz₂ pz₂ Sz₂
      have uz₂ : ∀ c o, c ≠ C → c ≠ G → c ≠ D → x.heap.get? c = some o → z₂.heap.get? c = some o := fun c o h1 h2 h3 q => Sz₂.extBut c o h3 (uz c o h1 h2 q)
      refine ⟨⟨hst.1.at fun o q => uz₂ _ o (neN (by omega)) (neN (by omega)) (neN (by omega)) q, hst.2.at fun o q => uz₂ _ o (neN (by omega)) hf₃G (neN (by omega)) q⟩,
        (q1.trans ly.o).trans (LikeO.trans (LikeO.trans le.o (LikeO.trans ⟨rfl, rfl⟩ lz)) lz₂.o), fun c o h1 h2 h3 h4 q => uz₂ c o h1 h4 h2 (q2 c o h1 h2 h3 h4 q), ⟨_, (Ne.at' fun o q => kz C o (neN (by omega)) q).sameBut Sz₂ (neN (by omega))⟩, ?_,
        ⟨kvs', _, rz.at fun b o hb q => Sz₂.extBut b o (neN (by have := rlt b hb; omega)) q, tez, ?_, by omega⟩⟩
      · rw [hR', ho']
        exact ⟨_, pz₂, it.append (.cons _ tz .nil)⟩
      · rw [hR']; exact hk'
    · rintro x ⟨q1, q2, ⟨m, q3⟩, q4, ⟨kvs, kn, q5, q6, q7, q8⟩⟩
      have sx := see x q2
      refine ⟨⟨m, q3⟩, neN (by show C ≠ L; omega), _, Nx₁.at' fun o e => sx L o (neN (by omega)) e, ?_⟩
      intro y ly uy Ny
      change y.heap.Ns L _ at Ny
      have etk2 : (psL xs).take vp.toArray.size = psL xs := by rw [List.size_toArray, tx₁.len, List.take_length]
      rw [etk2] at q4
      have hCx : @LT.lt Nat _ C x.heap.objs.size := q3.lt
      have sy : ∀ c o, c ≠ L → c ≠ L + 2 → x₁.heap.get? c = some o → y.heap.get? c = some o := fun c o h0 h1 e => uy c o (neC c o (u6 c o h1 e)).1 h0 (sx c o h1 e)
      have by_ : LB w mg mb s L T rs { x₁ with heap := y.heap } := bx₁.upd a₉ ⟨rfl, rfl⟩ (fun c o h1 h2 _ e => sy c o h1 h2 e) H
      have Hy : Host w mg mb y.heap := by_.host
      have gDy := q4.at fun o e => uy D o (neN (by omega)) (neN (by show D ≠ L; omega)) e
      have sm := (runA_01 (shutL xs) (closedL xs) (psL xs)).1
      have lr : (runA (ansD (shutL xs) (closedL xs)) (psL xs)).2.length ≤ 111 := by rw [runA_len, ← tx₁.len]; exact lpv
      have w1 := upd_ne (x := "told") (v := .ref D) u1 (by decide)
      have w2 := upd_ne (x := "told") (v := .ref D) u2 (by decide)
      have w3 := upd_ne (x := "told") (v := .ref D) u3 (by decide)
      refine wCons <| wReturn <| wCmp <| wCall <| ldB Hy rfl boot_str (by decide) <| wT1 <| wICons <| ldE Ny rfl <| wINil <| wStrIL gDy sm (by omega) hg (by show A.units + 3 + 100 < _; omega) ?_
      intro z₁ t₁ lz₁ kz₁
      have Hz := Hy.keeps kz₁
      have Nz := Ny.keeps kz₁
      have hne2 : ∀ c, @LT.lt Nat _ (L + 2) c → c ≠ L ∧ c ≠ L + 2 := fun c hc => ⟨neN (by omega), neN (by omega)⟩
      have pz := px₁.at (h' := z₁.heap) fun o e => kz₁ _ _ (sy _ o (hne2 _ hA).1 (hne2 _ hA).2 e)
      have tz := tx₁.keep (h' := z₁.heap) fun t o ht e => kz₁ _ _ (sy t o (hne2 _ (htL t ht)).1 (hne2 _ (htL t ht)).2 e)
      have gs : GoodI z₁.heap s₉.heap.objs.size (shutL xs) := ⟨vs₁, ps₁.at fun o e => kz₁ _ _ (sy _ o (neN (by omega)) (neN (by omega)) e), is₁⟩
      have gc' := gc.at (h' := z₁.heap) fun o e => kz₁ _ _ (sy _ o (neN (by omega)) (neN (by omega)) e)
      have gh' := gh.at (h' := z₁.heap) fun o e => kz₁ _ _ (sy _ o hHd₉ hHd₂ e)
      refine wCall <| ldB Hz rfl boot_str (by decide) <| wT1 <| wICons <| wCall <| ldG Hz rfl <| wF1 rfl <| wICons <| ldE Nz rfl <| wICons <| ldE Nz w2 <| wICons <| ldE Nz w3 <| wICons <| ldE Nz w1 <| wINil ⟨Hz, due_call Hz (by show A.depth + 1 + 1 < _; omega) hh (by show A.units + 3 + 200 < _; omega) pz tz gs gc' gh'
        (fun p hp => by have := hbd p hp; omega) (by rw [← tx₁.len]; omega) (fun m hm => by have := shutL_bd xs m hm; omega) (Nat.le_trans (shutL_len _) (by omega)) (fun m hm => by have := closedL_bd xs m hm; omega) (Nat.le_trans (closedL_len _) (by omega)) ?_⟩
      intro z₂ U lz₂ kz₂ gU
      refine wINil <| wStrIL gU sm (by omega) hg (by show A.units + 3 + 100 < _; omega) ?_
      intro z₃ t₃ lz₃ kz₃
      refine wEqS ?_
      rw [beq_self_eq_true]
      refine h _ ?_ fun c o e => kz₃ _ _ (kz₂ _ _ (kz₁ _ _ (by_.keep c o e)))
      exact lo6.trans (LikeO.trans ⟨rfl, rfl⟩ (LikeO.trans ly₁.o (LikeO.trans ly₂.o (q1.trans (LikeO.trans ly.o (LikeO.trans lz₁.o (LikeO.trans lz₂.o lz₃.o)))))))
end
end Mine

set_option maxHeartbeats 8000000 in
theorem PySem.Challenge.cw_nb0057_01_holds : PySem.Challenge.rw_nb0057_01.Holds := by
  refine Mine.hd ?_
  intro w s₀ s₁ mg mb G Y fa o pm cd doc dV kV ho hd hcd hD hmg hg args vals as hpre hlay hrd hwl hlo
  have KX := kIn_of Y
  refine Ground.open G ?_
  intro T B D TE TW
  have KX1 := KX
  have hfa : mg "law" = some (.ref 121) := mg_of KX1 T.g rfl
  have efa : fa = 121 := by rw [show mg "law" = some (.ref fa) from hmg] at hfa; injection hfa with e; injection e
  subst efa
  clear ho hd hcd hD
  wrow_args hpre hlay hrd hwl hlo
  rename_i xs hs hlay0 hL1 hr1 hl2 w4 w3 ra vs w0 hL rall w1 r0 hI hr hc1 hc2
  have H : Mine.Host w mg mb s₁.heap := ⟨KX, T.g, T.b, T.builtins, T.nolimit, T.nodigits⟩
  refine (Mine.law_call (A := callerA) H (by decide) rfl rfl (by decide) hL hI (by omega) (fun s' l k => ?_)).out _
  exact GoodW.toG ⟨.inl ⟨.bool true, .bool true, [], rfl, fun _ => rfl, .bool true, (by wrow_post), fun _ => ⟨.nil, fun a ha => by cases ha⟩⟩, k, l.1, l.2.trans hg⟩
