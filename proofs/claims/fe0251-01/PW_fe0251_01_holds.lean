import PyProof.Rows.All
import Wide.All
import OpenK.AllK
import Wide.FinOn
import PySem.Challenge.RW_fe0251_01
open PySem PySem.W PyProof.Rows
set_option Elab.async false
set_option maxRecDepth 100000
set_option maxHeartbeats 8000000
set_option linter.unusedVariables false
set_option linter.unusedSimpArgs false
open_top Mine.hd for PySem.Challenge.rw_fe0251_01
open PySem.Calls
namespace Mine
theorem fill_all : (PySem.Challenge.rw_fe0251_01.foot = 7 ∧ Mine.hd.heap_39 = Mine.hd.heap_39) := by k_fill; exact ⟨rfl, rfl⟩
section
/-! the judgement: toks are hidden -/
structure Cfg where
  gens : Array GenState
  drawn : Drawn
  os : OsState
def Cfg.st (c : Cfg) (h : Heap) (tk : Nat) : Shared := ⟨h, c.gens, c.drawn, tk, c.os⟩
def Lf {α : Type} (c : Cfg) (Q : α → Heap → Prop) (a : α) (s : Shared) : Prop := ∃ h tk, 0 < tk ∧ s = c.st h tk ∧ Q a h
structure D {α : Type} (M : Model) (A : Around) (c : Cfg) (t : Sem α) (h : Heap) (Q : α → Heap → Prop) (E : Value → Heap → Prop) : Prop where
  run : ∀ tk, 0 < tk → wpAny M A t (Lf c Q) (Lf c E) (c.st h tk)
structure DC (M : Model) (A : Around) (c : Cfg) (code : Code) (h : Heap) (R : Result → Heap → Prop) : Prop where
  run : ∀ tk, 0 < tk → codeAny M A code (Lf c R) (c.st h tk)

section
variable {α β : Type} {M : Model} {A : Around} {c : Cfg} {h : Heap} {E : Value → Heap → Prop}

theorem Lf.mk {Q : α → Heap → Prop} {a : α} {h : Heap} {tk : Nat} (p : 0 < tk) (q : Q a h) : Lf c Q a (c.st h tk) := ⟨h, tk, p, rfl, q⟩
theorem Lf.mono {Q Q' : α → Heap → Prop} (k : ∀ a h, Q a h → Q' a h) (a : α) (s : Shared) : Lf c Q a s → Lf c Q' a s := fun ⟨h, tk, p, e, q⟩ => ⟨h, tk, p, e, k a h q⟩
theorem Lf.run {f : α → Sem β} {Q : β → Heap → Prop} {a : α} {s : Shared} (x : Lf c (fun a h => D M A c (f a) h Q E) a s) : wpAny M A (f a) (Lf c Q) (Lf c E) s := by
  obtain ⟨h, tk, p, rfl, q⟩ := x; exact q.run tk p
theorem Lf.runE {f : Value → Sem β} {Q : β → Heap → Prop} {E' : Value → Heap → Prop} {a : Value} {s : Shared} (x : Lf c (fun a h => D M A c (f a) h Q E') a s) : wpAny M A (f a) (Lf c Q) (Lf c E') s := by
  obtain ⟨h, tk, p, rfl, q⟩ := x; exact q.run tk p

theorem d_pure {a : α} {Q : α → Heap → Prop} (q : Q a h) : D M A c (pure a) h Q E := ⟨fun _ p => wpAny_pure (.mk p q)⟩
theorem d_bind {m : Sem α} {f : α → Sem β} {Q : β → Heap → Prop} (k : D M A c m h (fun a h' => D M A c (f a) h' Q E) E) : D M A c (m >>= f) h Q E :=
  ⟨fun tk p => wpAny_bind (wpAny_mono (k.run tk p) (fun _ _ q => q.run) fun _ _ e => e)⟩
theorem d_mono {m : Sem α} {Q Q' : α → Heap → Prop} {E' : Value → Heap → Prop} (k : D M A c m h Q E) (hQ : ∀ a h, Q a h → Q' a h) (hE : ∀ a h, E a h → E' a h) : D M A c m h Q' E' :=
  ⟨fun tk p => wpAny_mono (k.run tk p) (Lf.mono hQ) (Lf.mono hE)⟩
theorem d_conseq {m : Sem α} {Q Q' : α → Heap → Prop} (k : D M A c m h Q E) (hQ : ∀ a h, Q a h → Q' a h) : D M A c m h Q' E := d_mono k hQ fun _ _ e => e
theorem d_holding {vs : List Value} {m : Sem α} {Q : α → Heap → Prop} (k : D M A c m h Q E) : D M A c (holding vs m) h Q E := ⟨fun tk p => wpAny_holding (k.run tk p)⟩
theorem d_throw {e : Value} {Q : α → Heap → Prop} (k : E e h) : D M A c (throw e : Sem α) h Q E := ⟨fun _ p => wpAny_throw (.mk p k)⟩
theorem d_onRaise {m : Sem α} {k : Value → Sem Unit} {Q : α → Heap → Prop} (x : D M A c m h Q (fun e h' => D M A c (k e) h' (fun _ h'' => E e h'') E)) : D M A c (m.onRaise k) h Q E :=
  ⟨fun tk p => wpAny_onRaise (wpAny_mono (x.run tk p) (fun _ _ q => q) fun e s q => by
    obtain ⟨h', tk', p', rfl, q⟩ := q
    exact wpAny_mono (q.run tk' p') (fun _ _ ⟨h'', tk'', p'', e, z⟩ => ⟨h'', tk'', p'', e, z⟩) fun _ _ z => z)⟩
theorem d_standAt {pos : Pos} {Q : Unit → Heap → Prop} (q : Q () h) : D M A c (standAt pos) h Q E := ⟨fun _ p => wpAny_standAt (.mk p q)⟩
theorem d_rule {tag : String} {Q : Unit → Heap → Prop} (q : Q () h) : D M A c (rule tag) h Q E := ⟨fun _ p => wpAny_rule (.mk p q)⟩
theorem d_point {Q : Unit → Heap → Prop} (q : Q () h) : D M A c point h Q E := ⟨fun _ p => wpAny_point (.mk p q)⟩
theorem d_call {f : Value} {pos : List Value} {kw : List (Str × Value)} {Q : Value → Heap → Prop}
    (k : DC M A c (.call f ⟨pos, kw⟩) h (fun r h' => match r with | .ok (.ret v) => Q v h' | .ok _ => False | .error e => E e h')) : D M A c (call f pos kw) h Q E :=
  ⟨fun tk p => wpAny_call (codeAny_mono (k.run tk p) fun r s x => by
    obtain ⟨h', tk', p', rfl, q⟩ := x
    rcases r with e | (_ | _ | _ | v) <;> first | exact q.elim | exact .mk p' q)⟩
theorem dc_mono {code : Code} {R R' : Result → Heap → Prop} (k : DC M A c code h R) (hR : ∀ r h, R r h → R' r h) : DC M A c code h R' := ⟨fun tk p => codeAny_mono (k.run tk p) (Lf.mono hR)⟩
theorem d_of_eq {t t' : Sem α} {Q : α → Heap → Prop} (e : t = t') (k : D M A c t' h Q E) : D M A c t h Q E := e ▸ k

theorem ite_t {P Q : Prop} (p : P) : (if true = true then P else Q) := p
theorem ite_f {P Q : Prop} (q : Q) : (if false = true then P else Q) := q
/-! statements -/
variable {env : Env}
theorem d_nil {Q : Flow → Heap → Prop} (q : Q .next h) : D M A c (execs [] env) h Q E := ⟨fun _ p => wpAny_execs_nil (.mk p q)⟩
theorem d_cons {st : Stmt} {rest : List Stmt} {Q : Flow → Heap → Prop} (k : D M A c (exec st env) h (fun f h' => match f with | .next => D M A c (execs rest env) h' Q E | f => Q f h') E) : D M A c (execs (st :: rest) env) h Q E :=
  ⟨fun tk p => wpAny_execs_cons (wpAny_mono (k.run tk p) (fun f s q => by
    obtain ⟨h', tk', p', rfl, q⟩ := q
    cases f <;> first | exact q.run tk' p' | exact .mk p' q) fun _ _ e => e)⟩
theorem d_ite {test : Expr} {body orelse : List Stmt} {pos : Pos} {Q : Flow → Heap → Prop}
    (k : D M A c (isTrue test env (eval test env)) h (fun b h' => if b = true then D M A c (execs body env) h' Q E else D M A c (execs orelse env) h' Q E) E) : D M A c (exec (.If test body orelse pos) env) h Q E :=
  ⟨fun tk p => wpAny_If (wpAny_mono (k.run tk p) (fun b s q => by
    obtain ⟨h', tk', p', rfl, q⟩ := q
    cases b <;> exact q.run tk' p') fun _ _ e => e)⟩
theorem d_ret {e : Expr} {pos : Pos} {Q : Flow → Heap → Prop} (k : D M A c (eval e env) h (fun v h' => Q (.ret v) h') E) : D M A c (exec (.Return (some e) pos) env) h Q E :=
  ⟨fun tk p => wpAny_Return_some (wpAny_mono (k.run tk p) (fun _ _ q => q) fun _ _ e => e)⟩
theorem d_binop {l r : Expr} {op : Operator} {pos : Pos} {Q : Value → Heap → Prop}
    (k : D M A c (eval l env) h (fun a h₁ => D M A c (eval r env) h₁ (fun b h₂ => D M A c (binaryOp op a b) h₂ Q E) E) E) : D M A c (eval (.BinOp l op r pos) env) h Q E :=
  ⟨fun tk p => wpAny_BinOp (wpAny_mono (k.run tk p) (fun _ _ q => wpAny_mono q.run (fun _ _ q => q.run) fun _ _ e => e) fun _ _ e => e)⟩
theorem d_int {i : Int} {k : Nat} {pos : Pos} {Q : Value → Heap → Prop} (q : ∀ t, t ≠ 0 → Q (.int i t) h) : D M A c (eval (.Constant (.int i) k pos) env) h Q E :=
  ⟨fun tk p => wpAny_Constant_int (.mk (Nat.succ_pos _) (q tk (Nat.ne_of_gt p)))⟩
theorem d_str {x : Str} {k : Nat} {pos : Pos} {Q : Value → Heap → Prop} (q : ∀ t, t ≠ 0 → Q (.str x t) h) : D M A c (eval (.Constant (.str x) k pos) env) h Q E :=
  ⟨fun tk p => wpAny_Constant_str (.mk (Nat.succ_pos _) (q tk (Nat.ne_of_gt p)))⟩
theorem d_cmp {l r : Expr} {op : CmpOp} {pos : Pos} {Q : Value → Heap → Prop}
    (k : D M A c (eval l env) h (fun a h₁ => D M A c (eval r env) h₁ (fun b h₂ => D M A c (compareOp op a b) h₂ Q E) E) E) (hm : behindInMarks op r = false := by with_unfolding_all rfl) : D M A c (eval (.Compare l [op] [r] pos) env) h Q E :=
  ⟨fun tk p => wpAny_Compare1 (wpAny_mono (k.run tk p) (fun _ _ q => wpAny_mono q.run (fun _ _ q => q.run) fun _ _ e => e) fun _ _ e => e) hm⟩
theorem d_isCmp {l r : Expr} {op : CmpOp} {pos : Pos} {whole : Sem Value} {Q : Bool → Heap → Prop}
    (k : D M A c (eval l env) h (fun a h₁ => D M A c (eval r env) h₁ (fun b h₂ => D M A c (compareOp op a b) h₂ (fun v h₃ => D M A c (truthy v) h₃ Q E) E) E) E) (hm : behindInMarks op r = false := by with_unfolding_all rfl) :
    D M A c (isTrue (.Compare l [op] [r] pos) env whole) h Q E :=
  ⟨fun tk p => wpAny_isTrue_Compare1 (wpAny_mono (k.run tk p) (fun _ _ q => wpAny_mono q.run (fun _ _ q => wpAny_mono q.run (fun _ _ q => q.run) fun _ _ e => e) fun _ _ e => e) fun _ _ e => e) hm⟩
theorem d_isVal {e : Expr} {whole : Sem Value} {Q : Bool → Heap → Prop} (k : D M A c whole h (fun v h₁ => D M A c (truthy v) h₁ Q E) E)
    (he : isTrue e env whole = (do let v ← whole; standAt e.pos; holding [v] (truthy v)) := by rfl) : D M A c (isTrue e env whole) h Q E :=
  ⟨fun tk p => wpAny_isTrue_value (wpAny_mono (k.run tk p) (fun _ _ q => q.run) fun _ _ e => e) he⟩
theorem d_isNot {x : Expr} {pos : Pos} {whole : Sem Value} {Q : Bool → Heap → Prop} (k : D M A c (isTrue x env (eval x env)) h (fun b h₁ => Q (!b) h₁) E) : D M A c (isTrue (.UnaryOp .Not x pos) env whole) h Q E :=
  ⟨fun tk p => wpAny_isTrue_Not (wpAny_mono (k.run tk p) (fun _ _ q => q) fun _ _ e => e)⟩
theorem d_isBool {op : BoolOp} {values : List Expr} {pos : Pos} {whole : Sem Value} {Q : Bool → Heap → Prop} (k : D M A c (allTrue op values env) h Q E) : D M A c (isTrue (.BoolOp op values pos) env whole) h Q E :=
  ⟨fun tk p => wpAny_isTrue_BoolOp (k.run tk p)⟩
theorem d_and_nil {Q : Bool → Heap → Prop} (q : Q true h) : D M A c (allTrue .And [] env) h Q E := ⟨fun _ p => wpAny_allTrue_And_nil (.mk p q)⟩
theorem d_or_nil {Q : Bool → Heap → Prop} (q : Q false h) : D M A c (allTrue .Or [] env) h Q E := ⟨fun _ p => wpAny_allTrue_Or_nil (.mk p q)⟩
theorem d_and_cons {x : Expr} {rest : List Expr} {Q : Bool → Heap → Prop} (k : D M A c (isTrue x env (eval x env)) h (fun b h₁ => if b = true then D M A c (allTrue .And rest env) h₁ Q E else Q false h₁) E) : D M A c (allTrue .And (x :: rest) env) h Q E :=
  ⟨fun tk p => wpAny_allTrue_And_cons (wpAny_mono (k.run tk p) (fun b s q => by
    obtain ⟨h', tk', p', rfl, q⟩ := q
    cases b <;> first | exact q.run tk' p' | exact .mk p' q) fun _ _ e => e)⟩
theorem d_or_cons {x : Expr} {rest : List Expr} {Q : Bool → Heap → Prop} (k : D M A c (isTrue x env (eval x env)) h (fun b h₁ => if b = true then Q true h₁ else D M A c (allTrue .Or rest env) h₁ Q E) E) : D M A c (allTrue .Or (x :: rest) env) h Q E :=
  ⟨fun tk p => wpAny_allTrue_Or_cons (wpAny_mono (k.run tk p) (fun b s q => by
    obtain ⟨h', tk', p', rfl, q⟩ := q
    cases b <;> first | exact q.run tk' p' | exact .mk p' q) fun _ _ e => e)⟩
theorem d_ifexp {test body orelse : Expr} {pos : Pos} {Q : Value → Heap → Prop}
    (k : D M A c (isTrue test env (eval test env)) h (fun b h₁ => if b = true then D M A c (eval body env) h₁ Q E else D M A c (eval orelse env) h₁ Q E) E) : D M A c (eval (.IfExp test body orelse pos) env) h Q E :=
  ⟨fun tk p => wpAny_IfExp (wpAny_mono (k.run tk p) (fun b s q => by
    obtain ⟨h', tk', p', rfl, q⟩ := q
    cases b <;> exact q.run tk' p') fun _ _ e => e)⟩
theorem d_truthy_bool {b : Bool} {Q : Bool → Heap → Prop} (q : Q b h) : D M A c (truthy (.bool b)) h Q E := ⟨fun _ p => wpAny_truthy_bool (.mk p q)⟩
theorem d_expr {e : Expr} {pos : Pos} {Q : Flow → Heap → Prop} (k : D M A c (eval e env) h (fun v h' => match v with | .ref _ => False | _ => Q .next h') E)
    (hi : interactive env = false := by rfl) (hs : swapsWith e none pos.line env = pure false := by rfl) : D M A c (exec (.Expr e pos) env) h Q E :=
  ⟨fun tk p => wpAny_Expr (wpAny_mono (k.run tk p) (fun v s q => by
    obtain ⟨h', tk', p', rfl, q⟩ := q
    cases v <;> first | exact q.elim | exact .mk p' q) fun _ _ e => e) hi hs⟩
theorem d_while {test : Expr} {body orelse : List Stmt} {pos : Pos} {Q : Flow → Heap → Prop}
    (k : DC M A c (.whileLoop test body orelse env) h (fun r h' => match r with | .ok f => Q f h' | .error _ => False)) : D M A c (exec (.While test body orelse pos) env) h Q E :=
  ⟨fun tk p => wpAny_While (codeAny_mono (k.run tk p) fun r s x => by
    obtain ⟨h', tk', p', rfl, q⟩ := x
    cases r with
    | error e => exact q.elim
    | ok f => exact .mk p' q)⟩
end
end
section
structure FrL (H : Heap) (L : Addr) (h : Heap) (bs : List (Str × Value)) : Prop where
  ns : ∃ m, h.Ns L m ∧ ∀ x v, bs.lookup x = some v → m x = some v
  keep : H.StaysIn h
  out : H.get? L = none

theorem stays_refl (h : Heap) : h.StaysIn h := fun _ _ e => e
theorem stays_trans {a b c : Heap} (x : a.StaysIn b) (y : b.StaysIn c) : a.StaysIn c := fun p o e => y p o (x p o e)

theorem FrL.lt {H h : Heap} {L : Addr} {bs} (F : FrL H L h bs) : L < h.objs.size := by
  obtain ⟨m, ⟨oL, a1, a2, hL, a3⟩, _⟩ := F.ns; exact Heap.lt_size hL
theorem FrL.sub {H h : Heap} {L : Addr} {bs bs'} (F : FrL H L h bs) (k : ∀ x v, bs'.lookup x = some v → bs.lookup x = some v) : FrL H L h bs' :=
  ⟨let ⟨m, a, b⟩ := F.ns; ⟨m, a, fun x v e => b x v (k x v e)⟩, F.keep, F.out⟩
theorem sub_nil {bs : List (Str × Value)} : ∀ x v, ([] : List (Str × Value)).lookup x = some v → bs.lookup x = some v := fun _ _ e => nomatch e
theorem sub_cons {bs bs' : List (Str × Value)} {y : Str} {u : Value} (e : bs.lookup y = some u) (k : ∀ x v, bs'.lookup x = some v → bs.lookup x = some v) : ∀ x v, ((y, u) :: bs').lookup x = some v → bs.lookup x = some v := by
  intro x v z
  rw [List.lookup_cons] at z
  by_cases q : (x == y) = true
  · rw [q] at z; have : x = y := by simpa using q
    subst this; cases z; exact e
  · have : (x == y) = false := by simpa using q
    rw [this] at z; exact k x v z
/-- another heap that keeps all: the frame stands, its base grows by all that is not the frame -/
theorem FrL.grow {H h h' : Heap} {L : Addr} {bs} (F : FrL H L h bs) (k : h.StaysIn h') : FrL (h'.hide L) L h' bs := by
  obtain ⟨m, ⟨oL, a1, a2, hL, a3⟩, b⟩ := F.ns
  exact ⟨⟨m, ⟨oL, a1, a2, k _ _ hL, a3⟩, b⟩, fun b o e => Heap.of_hide e, Heap.hide_self _ _⟩
theorem hide_of {h : Heap} {L b : Addr} {o : Obj} (e : h.get? b = some o) (n : b ≠ L) : (h.hide L).get? b = some o := (Heap.hide_ne h n).trans e
theorem FrL.stays_hide {H h h' : Heap} {L : Addr} {bs} (F : FrL H L h bs) (k : h.StaysIn h') : H.StaysIn (h'.hide L) := fun b o e =>
  hide_of (k b o (F.keep b o e)) fun q => by rw [q, F.out] at e; cases e
theorem ne_of_new {h : Heap} {a L : Addr} (n : h.get? a = none) (l : ∃ o, h.get? L = some o) : a ≠ L := fun q => by
  obtain ⟨o, e⟩ := l; rw [← q, n] at e; cases e
theorem FrL.at {H h : Heap} {L : Addr} {bs} (F : FrL H L h bs) : ∃ o, h.get? L = some o := by
  obtain ⟨m, ⟨oL, a1, a2, hL, a3⟩, b⟩ := F.ns; exact ⟨oL, hL⟩
theorem not_get_size (h : Heap) : h.get? h.objs.size = none := by
  cases e : h.get? h.objs.size with
  | none => rfl
  | some o => exact absurd (Heap.lt_size e) (Nat.lt_irrefl _)

/-- the module's own objects, and what of the run is the same everywhere -/
structure Top0 (P : Params) (p : Program) (loose : List Str) (mg mb : Str → Option Value) (H : Heap) : Prop where
  K : (Mine.hd.heap_39 P).In H
  T : TopRead p loose mg mb H
theorem Top0.keeps {P p loose mg mb} {H H' : Heap} (T : Top0 P p loose mg mb H) (k : H.StaysIn H') : Top0 P p loose mg mb H' := ⟨T.K.keeps k, T.T.keeps k⟩

structure EnvIs (sc : Scope) (L : Addr) (env : Env) : Prop where
  scope : env.scope = sc
  loc : env.locals = L
  glob : env.globals = mainGlobals
  blt : env.builtins = builtinsNs
theorem EnvIs.fn {sc : Scope} {L : Addr} {env : Env} (h : EnvIs sc L env) (k : sc.kind = .function) : env.scope.kind = .function := by rw [h.scope]; exact k
theorem EnvIs.kind {sc : Scope} {L : Addr} {env : Env} (h : EnvIs sc L env) {x : Str} {k : NameKind} (e : sc.names.lookup x = some k) : env.kindOf x = some k := by unfold Env.kindOf; rw [h.scope]; exact e
theorem EnvIs.inter {sc : Scope} {L : Addr} {env : Env} (h : EnvIs sc L env) (k : sc.kind = .function := by rfl) : interactive env = false := by unfold interactive; rw [h.scope, k]; rfl

section
variable {prog : Program} {w : World} {A : Around} {c : Cfg} {H h : Heap} {L f : Addr} {bs : List (Str × Value)} {E : Value → Heap → Prop} {q : Str} {sc : Scope} {cd : Value} {env : Env}
  {p : Program} {loose : List Str} {mg mb : Str → Option Value} {K : Frag}

theorem d_loc {x : Str} {pos : Pos} {v : Value} {Q : Value → Heap → Prop} (hE : EnvIs sc L env) (F : FrL H L h bs) (hv : bs.lookup x = some v) (k : Q v h)
    (hk : sc.kind = .function := by rfl) (hl : sc.names.lookup x = some .local := by rfl) (hd : (x == ("__debug__" : Str)) = false := by decide) :
    D (model prog w) A c (eval (.Name x pos) env) h Q E := ⟨fun tk pp => by
  obtain ⟨_, n, b⟩ := F.ns
  rw [← hE.loc] at n
  exact wpAny_Name (wpAny_loadName_local (hE.fn hk) (hE.kind hl) n (b x v hv) (.mk pp k)) hd⟩
theorem d_locn {x : Str} {v : Value} {Q : Value → Heap → Prop} (hE : EnvIs sc L env) (F : FrL H L h bs) (hv : bs.lookup x = some v) (k : Q v h)
    (hk : sc.kind = .function := by rfl) (hl : sc.names.lookup x = some .local := by rfl) :
    D (model prog w) A c (loadName env x) h Q E := ⟨fun tk pp => by
  obtain ⟨_, n, b⟩ := F.ns
  rw [← hE.loc] at n
  exact wpAny_loadName_local (hE.fn hk) (hE.kind hl) n (b x v hv) (.mk pp k)⟩
theorem d_glob {x : Str} {pos : Pos} {v : Value} {Q : Value → Heap → Prop} (hE : EnvIs sc L env) (F : FrL H L h bs) (X : K.In H) (T : TopRead p loose mg mb H) (e : nsIn K mainGlobals x = some (some v)) (k : Q v h)
    (hk : sc.kind = .function := by rfl) (hl : sc.names.lookup x = some .globalImplicit := by rfl) (hd : (x == ("__debug__" : Str)) = false := by decide) :
    D (model prog w) A c (eval (.Name x pos) env) h Q E := ⟨fun tk pp => by
  exact
  Calls.Name_function_global (hE.fn hk) (hE.kind hl) (Calls.loadGlobal_global (by rw [hE.glob]; exact T.g.keeps F.keep) (mg_of X T.g e) (.mk pp k)) hd⟩
theorem d_bltn {x : Str} {pos : Pos} {v : Value} {Q : Value → Heap → Prop} (hE : EnvIs sc L env) (F : FrL H L h bs) (X : K.In H) (T : TopRead p loose mg mb H) (e : nsIn K mainGlobals x = some none) (hv : bootBuiltins x = some v) (hn : x ≠ "__name__") (k : Q v h)
    (hk : sc.kind = .function := by rfl) (hl : sc.names.lookup x = some .globalImplicit := by rfl) (hd : (x == ("__debug__" : Str)) = false := by decide) :
    D (model prog w) A c (eval (.Name x pos) env) h Q E := ⟨fun tk pp => by
  exact
  Calls.Name_function_global (hE.fn hk) (hE.kind hl) (Calls.loadGlobal_builtin (by rw [hE.glob]; exact T.g.keeps F.keep) (mg_none_of X T.g e) (by rw [hE.blt]; exact T.b.keeps F.keep) ((T.builtins x hn).trans hv) (.mk pp k)) hd⟩

theorem d_store {x : Str} {v : Value} {Q : Unit → Heap → Prop} (hE : EnvIs sc L env) (F : FrL H L h bs) (k : ∀ h', FrL H L h' ((x, v) :: bs) → Q () h')
    (hk : sc.kind = .function := by rfl) (hl : sc.names.lookup x = some .local := by rfl) : D (model prog w) A c (storeName env x v) h Q E := ⟨fun tk pp => by
  obtain ⟨m, n, b⟩ := F.ns
  rw [← hE.loc] at n
  refine wpAny_storeName_local (hE.kind hl) n (fun h' hn hs => .mk (h := h') (Nat.succ_pos _) (k h' ⟨⟨_, hE.loc ▸ hn, fun y u e => ?_⟩, fun b o e => (hs.2 b (hE.loc ▸ fun z => ?_)).trans (F.keep b o e), F.out⟩))
    (by rw [hE.scope, hk]; rfl)
  · rw [List.lookup_cons] at e
    by_cases z : (y == x) = true
    · rw [z] at e; have : y = x := by simpa using z
      show (if y = x then some v else m y) = some u
      rw [if_pos this]; exact e
    · have z' : (y == x) = false := by simpa using z
      rw [z'] at e
      show (if y = x then some v else m y) = some u
      rw [if_neg (by simpa using z)]; exact b y u e
  · rw [show b = L from z, F.out] at e; cases e⟩
theorem d_assign {x : Str} {pos' : Pos} {value : Expr} {pos : Pos} {Q : Flow → Heap → Prop}
    (k : D (model prog w) A c (eval value env) h (fun v h₁ => D (model prog w) A c (storeName env x v) h₁ (fun _ => Q .next) E) E)
    (hs : swapsWith value (some (.Name x pos')) pos.line env = pure false := by rfl) : D (model prog w) A c (exec (.Assign [.Name x pos'] value pos) env) h Q E :=
  ⟨fun tk p => wpAny_Assign_Name (wpAny_mono (k.run tk p) (fun _ _ q => wpAny_mono q.run (fun _ _ q => q) fun _ _ e => e) fun _ _ e => e) hs⟩
theorem d_aug {x : Str} {pos' : Pos} {op : Operator} {value : Expr} {pos : Pos} {Q : Flow → Heap → Prop}
    (k : D (model prog w) A c (loadName env x) h (fun old h₁ => D (model prog w) A c (eval value env) h₁ (fun v h₂ => D (model prog w) A c (inplaceOp op old v) h₂
      (fun r h₃ => D (model prog w) A c (storeName env x r) h₃ (fun _ => Q .next) E) E) E) E) : D (model prog w) A c (exec (.AugAssign (.Name x pos') op value pos) env) h Q E :=
  ⟨fun tk p => wpAny_AugAssign_Name (wpAny_mono (k.run tk p) (fun _ _ q => wpAny_mono q.run (fun _ _ q => wpAny_mono q.run (fun _ _ q => wpAny_mono q.run (fun _ _ q => q) fun _ _ e => e) fun _ _ e => e) fun _ _ e => e) fun _ _ e => e)⟩

/-- a call of a plain def that does not raise -/
theorem dc_enter {R : Result → Heap → Prop} {name qual : Str} {params : Arguments} {body : List Stmt} {scope : Scope} {dV kV doc pm cdv ct oc : Value} {an od : Option Addr} {osl : Array (Option Value)} {args : Args} {binds : List (Str × Value)}
    (X : K.In h) (hlim : h.NoLimit)
    (ho : K.lookup f = some ⟨oc, od, .func (fnOf name qual params body scope dV kV doc pm an cdv ct), osl⟩) (hcd : codeIn K cdv qual = true) (hroom : A.depth < recursionLimit)
    (hbind : ∀ tk, BindsTo (c.st h tk) (fnOf name qual params body scope dV kV doc pm an cdv ct) args binds) (hloc : ∀ y ∈ binds, scope.names.lookup y.1 = some .local)
    (k : ∀ L h₁ env, EnvIs scope L env → FrL h L h₁ binds.reverse → h.objs.size = L →
      D (model prog w) (A.deeper env) c (execs body env) h₁ (fun fl h' => R (.ok (.ret (match fl with | .ret v => v | _ => .none))) h') (fun _ _ => False))
    (hco : scope.isCoroutine = false := by rfl) (hgen : scope.isGenerator = false := by rfl) (hk : scope.kind = .function := by rfl)
    (hcell : ∀ x ∈ scope.names, x.2 ≠ .cell := by decide) : DC (model prog w) A c (.call (.ref f) args) h R := ⟨fun tk pp => by
  refine codeAny_call_def (s := c.st h tk) (fd := fnOf name qual params body scope dV kV doc pm an cdv ct) (body := body) (binds := binds) hroom (X _ _ ho) rfl hlim (codeRec_of X hcd) rfl (hbind tk) hcell hloc
    (fun h₁ hns hk₁ => ?_) hco hgen hk
  refine wpAny_mono ((k h.objs.size h₁ _ ⟨rfl, rfl, rfl, rfl⟩ ⟨⟨_, hns, fun _ _ e => e⟩, hk₁, not_get_size h⟩ rfl).run (tk + binds.length) (by omega)) (fun fl s' q => ?_) fun e s q => ?_
  · obtain ⟨h', tk', p', rfl, q⟩ := q; exact .mk p' q
  · obtain ⟨_, _, _, _, q⟩ := q; exact q.elim⟩
end
end
section
/-- a text from its signs -/
def S (l : List Nat) : Str := ⟨l.toArray⟩
theorem S_len (l : List Nat) : (S l).length = l.length := by simp [S, Str.length]
theorem S_app (a b : List Nat) : S a ++ S b = S (a ++ b) := by
  show Str.append _ _ = _
  simp [S, Str.append]
def sg (s : String) : List Nat := (Str.ofString s).cps.toList
theorem S_sg (s : String) : Str.ofString s = S (sg s) := rfl
theorem S_inj {a b : List Nat} (h : S a = S b) : a = b := by simpa [S] using h
theorem S_beq (a b : List Nat) : (S a == S b) = (a == b) := by
  rw [Bool.eq_iff_iff]; simp [S]
theorem S_bne (a b : List Nat) : (S a != S b) = (a != b) := by
  simp only [bne, S_beq]

section
variable {prog : Program} {w : World} {A : Around} {c : Cfg} {h : Heap} {E : Value → Heap → Prop} {a b : Int} {t u : Tok} {x y : List Nat} {Q : Value → Heap → Prop}

theorem d_strC {s : String} {k : Nat} {pos : Pos} {env : Env} (q : ∀ t, t ≠ 0 → Q (.str (S (sg s)) t) h) : D (model prog w) A c (eval (.Constant (.str (Str.ofString s)) k pos) env) h Q E :=
  ⟨fun tk p => wpAny_Constant_str (.mk (Nat.succ_pos _) (q tk (Nat.ne_of_gt p)))⟩
theorem d_addInt (q : ∀ t, Q (.int (a + b) t) h) : D (model prog w) A c (binaryOp .Add (.int a t) (.int b u)) h Q E := ⟨fun tk p => P.add_int (.mk (Nat.succ_pos _) (q _))⟩
theorem d_subInt (q : ∀ t, Q (.int (a - b) t) h) : D (model prog w) A c (binaryOp .Sub (.int a t) (.int b u)) h Q E := ⟨fun tk p => P.sub_int (.mk (Nat.succ_pos _) (q _))⟩
theorem d_mulInt (q : ∀ t, Q (.int (a * b) t) h) (hm : IntMulOk a b := by mul_fits) : D (model prog w) A c (binaryOp .Mult (.int a t) (.int b u)) h Q E := ⟨fun tk p => P.mul_int (.mk (Nat.succ_pos _) (q _)) hm⟩
theorem d_modInt (hb : b ≠ 0) (q : ∀ t, Q (.int (a.fmod b) t) h)
    (hp : Builtin.divisionGoesByPylong a b = false := by exact PyProof.noPylong_of_log2 (by decide +kernel)) : D (model prog w) A c (binaryOp .Mod (.int a t) (.int b u)) h Q E := ⟨fun tk p => mod_int' hb (.mk (Nat.succ_pos _) (q _))⟩
theorem d_divInt (hb : b ≠ 0) (q : ∀ t, Q (.int (a.fdiv b) t) h)
    (hp : Builtin.divisionGoesByPylong a b = false := by exact PyProof.noPylong_of_log2 (by decide +kernel)) : D (model prog w) A c (binaryOp .FloorDiv (.int a t) (.int b u)) h Q E := ⟨fun tk p => floordiv_int hb (.mk (Nat.succ_pos _) (q _)) (.inl hp)⟩
theorem d_xorInt (q : ∀ t, Q (.int (Builtin.bitXor a b) t) h) : D (model prog w) A c (binaryOp .BitXor (.int a t) (.int b u)) h Q E := ⟨fun tk p => xor_int (.mk (Nat.succ_pos _) (q _))⟩
theorem d_ixorInt (q : ∀ t, Q (.int (Builtin.bitXor a b) t) h) : D (model prog w) A c (inplaceOp .BitXor (.int a t) (.int b u)) h Q E := ⟨fun tk p => ixor_int (.mk (Nat.succ_pos _) (q _))⟩
theorem d_iaddInt (q : ∀ t, Q (.int (a + b) t) h) : D (model prog w) A c (inplaceOp .Add (.int a t) (.int b u)) h Q E := ⟨fun tk p => P.iadd_int (.mk (Nat.succ_pos _) (q _))⟩
theorem d_eqInt (q : Q (.bool (a == b)) h) : D (model prog w) A c (compareOp .Eq (.int a t) (.int b u)) h Q E := ⟨fun tk p => P.eq_int (.mk p q)⟩
theorem d_neInt (q : Q (.bool (a != b)) h) : D (model prog w) A c (compareOp .NotEq (.int a t) (.int b u)) h Q E := ⟨fun tk p => P.ne_int (.mk p q)⟩
theorem d_ltInt (q : Q (.bool (decide (a < b))) h) : D (model prog w) A c (compareOp .Lt (.int a t) (.int b u)) h Q E := ⟨fun tk p => P.lt_int (.mk p q)⟩
theorem d_gtInt (q : Q (.bool (decide (a > b))) h) : D (model prog w) A c (compareOp .Gt (.int a t) (.int b u)) h Q E := ⟨fun tk p => P.gt_int (.mk p q)⟩
theorem d_geInt (q : Q (.bool (decide (a ≥ b))) h) : D (model prog w) A c (compareOp .GtE (.int a t) (.int b u)) h Q E := ⟨fun tk p => P.ge_int (.mk p q)⟩
theorem d_truthyInt {Q : Bool → Heap → Prop} (q : Q (a != 0) h) : D (model prog w) A c (truthy (.int a t)) h Q E := ⟨fun tk p => P.truthy_int (.mk p q)⟩
theorem d_truthyStr {Q : Bool → Heap → Prop} (hz : x.length ≤ 16000000) (q : Q (x.length != 0) h) : D (model prog w) A c (truthy (.str (S x) t)) h Q E := ⟨fun tk p =>
  P.truthy_str (by rw [S_len]; omega) (.mk (Nat.succ_pos _) (by
    rw [S_len]
    have : ((x.length : Int) != 0) = (x.length != 0) := by rw [Bool.eq_iff_iff]; simp
    rw [this]; exact q))⟩
theorem d_of0 {α : Type} {M : Model} {t : Sem α} {Q : α → Heap → Prop} (k : ∀ tk, 0 < tk → wpAny M A t (fun a s' => ∃ h' tk', s' = c.st h' tk' ∧ Q a h') (fun e s' => ∃ h' tk', s' = c.st h' tk' ∧ E e h') (c.st h tk)) : D M A c t h Q E := ⟨fun tk p =>
  wpAny_with_toks (n := tk) (Nat.le_refl _) (wpAny_mono (k tk p) (fun a s' ⟨h', tk', e, q⟩ l => ⟨h', tk', by rw [e] at l; exact Nat.lt_of_lt_of_le p l, e, q⟩) fun a s' ⟨h', tk', e, q⟩ l => ⟨h', tk', by rw [e] at l; exact Nat.lt_of_lt_of_le p l, e, q⟩)⟩
theorem d_addStr (hz : x.length + y.length ≤ 16000000) (q : ∀ t, Q (.str (S (x ++ y)) t) h) : D (model prog w) A c (binaryOp .Add (.str (S x) t) (.str (S y) u)) h Q E :=
  d_of0 fun tk p => PyProof.Rows.add_str (fun t' tk' => ⟨h, tk', rfl, by rw [S_app]; exact q t'⟩) (by rw [S_len, S_len, sizeLine_eq]; omega)
theorem d_iaddStr (hz : x.length + y.length ≤ 16000000) (q : ∀ t, Q (.str (S (x ++ y)) t) h) : D (model prog w) A c (inplaceOp .Add (.str (S x) t) (.str (S y) u)) h Q E :=
  d_of0 fun tk p => PyProof.Rows.iadd_str (fun t' tk' => ⟨h, tk', rfl, by rw [S_app]; exact q t'⟩) (by rw [S_len, S_len, sizeLine_eq]; omega)
theorem d_eqStr (q : Q (.bool (x == y)) h) : D (model prog w) A c (compareOp .Eq (.str (S x) t) (.str (S y) u)) h Q E := ⟨fun tk p => PyProof.Rows.eq_str (.mk p (by rw [S_beq]; exact q))⟩
theorem d_neStr (q : Q (.bool (x != y)) h) : D (model prog w) A c (compareOp .NotEq (.str (S x) t) (.str (S y) u)) h Q E := ⟨fun tk p => PyProof.Rows.ne_str (.mk p (by rw [S_bne]; exact q))⟩
theorem d_lenStr (hz : x.length ≤ 16000000) (q : ∀ t, Q (.int x.length t) h) : D (model prog w) A c (call (.builtin "len") [.str (S x) t]) h Q E := ⟨fun tk p =>
  PyProof.Rows.len_str (by rw [S_len]; omega) (.mk (Nat.succ_pos _) (by rw [S_len]; exact q _))⟩
theorem d_itemStr {i : Int} {n : Nat} {k : Nat} (hi : i = n) (hn : x[n]? = some k) (hz : n < 16000000) (q : ∀ t, Q (.str (S [k]) t) h) : D (model prog w) A c (getItem (.str (S x) t) (.int i u)) h Q E := ⟨fun tk p => by
  subst hi
  refine PyProof.Rows.getItem_str (c := k) (by simp; omega) ?_ (.mk (Nat.succ_pos _) (q _))
  have l : n < x.length := by
    by_cases l : n < x.length
    · exact l
    · rw [List.getElem?_eq_none (by omega)] at hn; cases hn
  have e : seqIndex? (n : Int) (S x).length = some n := by
    unfold seqIndex?
    rw [S_len]
    have : ¬ ((n : Int) < 0) := by omega
    simp [this, l]
  rw [e]
  simp [S, hn]⟩
end

/-! calls -/
section
variable {M : Model} {prog : Program} {w : World} {A : Around} {c : Cfg} {H h : Heap} {E : Value → Heap → Prop} {env : Env} {pos : Pos} {Q : Value → Heap → Prop}
theorem d_spl0 {Q : List Value → Heap → Prop} (q : Q [] h) : D M A c (spliced (backTo pos (starEach [] env))) h Q E := ⟨fun tk p => Calls.spliced_nil (.mk p q)⟩
theorem d_spl {e : Expr} {rest : List Expr} {Q : List Value → Heap → Prop} (k : D M A c (eval e env) h (fun v h₁ => D M A c (spliced (backTo pos (starEach rest env))) h₁ (fun vs h₂ => Q (v :: vs) h₂) E) E)
    (he : starEach (e :: rest) env = (false, eval e env) :: starEach rest env := by rfl) : D M A c (spliced (backTo pos (starEach (e :: rest) env))) h Q E := ⟨fun tk p => by
  rw [he]
  exact Calls.spliced_cons (wpAny_mono (k.run tk p) (fun _ _ q => wpAny_mono q.run (fun _ _ q => q) fun _ _ e => e) fun _ _ e => e)⟩
theorem d_callE {func : Expr} {args : List Expr} {kws : List Keyword} (k : D M A c (eval func env) h (fun f h₁ => D M A c (callWith pos f [] (backTo pos (starEach args env)) (backToKw pos (keywordEach kws env))) h₁ Q E) E)
    (he : eval (.Call func args kws pos) env = (do callWith pos (← eval func env) [] (backTo pos (starEach args env)) (backToKw pos (keywordEach kws env))) := by rfl) : D M A c (eval (.Call func args kws pos) env) h Q E :=
  d_of_eq he (d_bind k)
theorem d_mcall {o : Expr} {name : Str} {apos : Pos} {args : List Expr} {kws : List Keyword} {pl : Sem Bool}
    (k : D M A c (eval o env) h (fun ov h₁ => D M A c (getMethod ov name pl) h₁ (fun fx h₂ => D M A c (callWith pos fx.1 fx.2 (backTo pos (starEach args env)) (backToKw pos (keywordEach kws env))) h₂ Q E) E) E)
    (he : eval (.Call (.Attribute o name apos) args kws pos) env = (do
      let ov ← eval o env
      standAt apos.atName
      let (f, first) ← holding [ov] (getMethod ov name pl)
      callWith pos f first (backTo pos (starEach args env)) (backToKw pos (keywordEach kws env))) := by rfl) : D M A c (eval (.Call (.Attribute o name apos) args kws pos) env) h Q E :=
  ⟨fun tk p => methodCall_KW (wpAny_mono (k.run tk p) (fun _ _ q => wpAny_mono q.run (fun _ _ q => q.run) fun _ _ e => e) fun _ _ e => e) he⟩
theorem any_backTo {args : List Expr} (hp : (starEach args env).any (·.1) = false) : (backTo pos (starEach args env)).any (·.1) = false := by
  rw [← hp]; unfold backTo; rw [List.any_map]; rfl
theorem d_args {f : Value} {args : List Expr} {Q : Args → Heap → Prop} (hp : (starEach args env).any (·.1) = false) (k : D M A c (spliced (backTo pos (starEach args env))) h (fun vs h' => Q ⟨vs, []⟩ h') E) :
    D M A c (evalArgs f true (backTo pos (starEach args env)) []) h Q E := by
  have hp' := any_backTo (pos := pos) hp
  cases e : backTo pos (starEach args env) with
  | nil =>
    rw [e] at k
    have : evalArgs f true [] [] = (do let vs ← spliced []; pure ⟨vs, []⟩) := by unfold evalArgs; rfl
    exact d_of_eq this (d_bind (d_conseq k fun _ _ q => d_pure q))
  | cons x r =>
    obtain ⟨b, t⟩ := x
    rw [e] at k hp'
    cases b with
    | true => cases hp'
    | false => exact ⟨fun tk p => Calls.evalArgs_plain (k.run tk p)⟩
theorem d_withB {id : String} {first : List Value} {args : List Expr} (k : D M A c (spliced (backTo pos (starEach args env))) h (fun vs h' => D M A c (call (.builtin id) (first ++ vs)) h' Q E) E) (hp : (starEach args env).any (·.1) = false := by rfl) :
    D M A c (callWith pos (.builtin id) first (backTo pos (starEach args env)) []) h Q E :=
  ⟨fun tk p => Calls.callWith_builtin (any_backTo hp) (wpAny_mono ((d_args (Q := fun a h' => D M A c (call (.builtin id) (first ++ a.pos) a.kw) h' Q E) hp k).run tk p) (fun _ _ q => q.run) fun _ _ e => e)⟩
theorem d_withT {T : String} {first : List Value} {args : List Expr} (k : D M A c (spliced (backTo pos (starEach args env))) h (fun vs h' => D M A c (call (.type T) (first ++ vs)) h' Q E) E) (hp : (starEach args env).any (·.1) = false := by rfl) :
    D M A c (callWith pos (.type T) first (backTo pos (starEach args env)) []) h Q E :=
  ⟨fun tk p => PySem.callWith_type (any_backTo hp) (wpAny_mono ((d_args (Q := fun a h' => D M A c (call (.type T) (first ++ a.pos) a.kw) h' Q E) hp k).run tk p) (fun _ _ q => q.run) fun _ _ e => e)⟩
theorem d_withK {K : Frag} {f : Value} {first : List Value} {args : List Expr} (hk : keepIn K f = true) (k : D M A c (spliced (backTo pos (starEach args env))) h (fun vs h' => K.In h' ∧ D M A c (call f (first ++ vs)) h' Q E) E) (hp : (starEach args env).any (·.1) = false := by rfl) :
    D M A c (callWith pos f first (backTo pos (starEach args env)) []) h Q E :=
  ⟨fun tk p => callWith_of (by rw [any_backTo hp]; rfl) (keeps_K hk) (wpAny_mono ((d_args (Q := fun a h' => K.In h' ∧ D M A c (call f (first ++ a.pos) a.kw) h' Q E) hp k).run tk p) (fun a s' ⟨h', tk', p', e, x, q⟩ => by subst e; exact ⟨x, q.run tk' p'⟩) fun _ _ e => e)⟩
end

/-! subscripts, displays -/
section
variable {M : Model} {prog : Program} {w : World} {A : Around} {c : Cfg} {H h : Heap} {L : Addr} {bs : List (Str × Value)} {E : Value → Heap → Prop} {env : Env} {pos : Pos} {Q : Value → Heap → Prop}
theorem d_sub {value slice : Expr} (k : D M A c (eval value env) h (fun o h₁ => D M A c (eval slice env) h₁ (fun i h₂ => D M A c (subscriptTail value slice o i) h₂ Q E) E) E) : D M A c (eval (.Subscript value slice pos) env) h Q E :=
  ⟨fun tk p => Subscript_ (wpAny_mono (k.run tk p) (fun _ _ q => wpAny_mono q.run (fun _ _ q => q.run) fun _ _ e => e) fun _ _ e => e)⟩
theorem d_tailTup {value slice : Expr} {a : Addr} {items : Array Value} {i : Int} {u : Tok} {j : Nat} {v : Value} (ht : IsTup h a items) (hi : i = j) (hz : j < 16000000) (hv : items[j]? = some v) (q : Q v h)
    (hs : subscripted slice false (.ref a) (.int i u) = operate [.ref a, .int i u] (getItem (.ref a) (.int i u)) := by with_unfolding_all rfl) : D (model prog w) A c (subscriptTail value slice (.ref a) (.int i u)) h Q E := ⟨fun tk p => by
  have l : j < items.size := by
    by_cases l : j < items.size
    · exact l
    · rw [Array.getElem?_eq_none (by omega)] at hv; cases hv
  refine tail_any (s := c.st h tk) (IsTup.typeIs ht) slot_tuple_getitem.lookup (PyProof.Rows.getItem_tuple (j := j) ht (by omega) (by omega) ?_ hv (.mk p q)) hs
  subst hi
  unfold seqIndex?
  have : ¬ ((j : Int) < 0) := by omega
  simp [this, l]⟩
theorem d_tailList {value slice : Expr} {a : Addr} {items : Array Value} {i : Int} {u : Tok} {j : Nat} {v : Value} (ht : h.IsList a items) (hi : i = j) (hz : j < 16000000) (hv : items[j]? = some v) (q : Q v h)
    (hs : subscripted slice false (.ref a) (.int i u) = operate [.ref a, .int i u] (getItem (.ref a) (.int i u)) := by with_unfolding_all rfl) : D (model prog w) A c (subscriptTail value slice (.ref a) (.int i u)) h Q E := ⟨fun tk p => by
  subst hi
  exact tail_any (s := c.st h tk) (Heap.IsList.typeIs ht) slot_list_getitem.lookup (wpAny_getItem_list ht (by omega) (by omega) (by simpa using hv) (.mk p q)) hs⟩
theorem d_tup {elts : List Expr} {k : Nat} (x : D M A c (spliced (backTo pos (starEach elts env))) h (fun vs h₁ => D M A c (newTuple vs) h₁ Q E) E) : D M A c (eval (.Tuple elts k pos) env) h Q E :=
  ⟨fun tk p => Tuple_ (wpAny_mono (x.run tk p) (fun _ _ q => q.run) fun _ _ e => e)⟩
theorem d_lst {elts : List Expr} (x : D M A c (spliced (backTo pos (starEach elts env))) h (fun vs h₁ => D M A c (newList vs) h₁ Q E) E) : D M A c (eval (.List elts pos) env) h Q E :=
  ⟨fun tk p => List_ (wpAny_mono (x.run tk p) (fun _ _ q => q.run) fun _ _ e => e)⟩
theorem stays_push {h : Heap} (o : Obj) : h.StaysIn (h.push o) := fun b o' e => Heap.get?_push_of_some _ e
/-- a new object: the base grows by it -/
theorem grow_new {H h : Heap} {L : Addr} {bs} (F : FrL H L h bs) (o : Obj) (hf : o.isFreed = false := by rfl) : ∃ H', H.StaysIn H' ∧ FrL H' L (h.push o) bs ∧ H'.get? h.objs.size = some o ∧ h.get? h.objs.size = none ∧ ∀ b o, b ≠ L → h.get? b = some o → H'.get? b = some o :=
  ⟨_, F.stays_hide (stays_push o), F.grow (stays_push o), hide_of (Heap.get?_push_size _ hf) (Nat.ne_of_gt F.lt), not_get_size h, fun b o' n e => hide_of (stays_push o b o' e) n⟩
theorem d_newTuple {vs : List Value} (F : FrL H L h bs) (hz : vs.length ≤ 16000000) (q : ∀ H' h' a, H.StaysIn H' → FrL H' L h' bs → h.StaysIn h' → h.get? a = none → IsTup H' a vs.toArray → Q (.ref a) h') : D M A c (newTuple vs) h Q E := ⟨fun tk p => by
  obtain ⟨H', k1, F', k2, k3, _⟩ := grow_new F { cls := .type "tuple", data := .seq vs.toArray }
  exact wpAny_newTuple (.mk (h := h.push _) p (q _ _ _ k1 F' (stays_push _) k3 ⟨_, k2, rfl, _, rfl⟩)) (by rw [sizeLine_eq]; omega)⟩
theorem d_newList {vs : List Value} (F : FrL H L h bs) (hz : vs.length ≤ 16000000) (q : ∀ H' h' a, H.StaysIn H' → FrL H' L h' bs → h.StaysIn h' → h.get? a = none → H'.IsList a vs.toArray → Q (.ref a) h') : D M A c (newList vs) h Q E := ⟨fun tk p => by
  obtain ⟨H', k1, F', k2, k3, _⟩ := grow_new F { cls := .type "list", data := .seq vs.toArray }
  exact wpAny_newList (.mk (h := h.push _) p (q _ _ _ k1 F' (stays_push _) k3 ⟨_, k2, rfl, _, rfl⟩)) (by rw [sizeLine_eq]; omega)⟩
/-- texts, told by their signs -/
def Strs (vs : List Value) (ls : List (List Nat)) : Prop := vs.length = ls.length ∧ ∀ (i : Nat) (l : List Nat), ls[i]? = some l → ∃ t, vs[i]? = some (Value.str (S l) t)
theorem Strs.nil : Strs [] [] := ⟨rfl, fun i l e => by simp at e⟩
theorem Strs.cons {l : List Nat} {t : Tok} {vs ls} (x : Strs vs ls) : Strs (Value.str (S l) t :: vs) (l :: ls) := ⟨by simp [x.1], fun i m e => by
  cases i with
  | zero => exact ⟨t, by simp at e; subst e; rfl⟩
  | succ i => exact x.2 i m (by simpa using e)⟩
/-- the digits of an int -/
def txt (i : Int) : List Nat := (Str.ofString (toString i)).cps.toList
theorem S_txt (i : Int) : Str.ofString (toString i) = S (txt i) := by unfold txt S; rfl
theorem d_strInt {i : Int} {t : Tok} (hi : i.natAbs.log2 < 1920) (q : ∀ t, Q (.str (S (txt i)) t) h) : D (model prog w) A c (call (.type "str") [.int i t]) h Q E := ⟨fun tk p =>
  P.str_of_int hi (.mk (Nat.succ_pos _) (by rw [S_txt]; exact q tk))⟩
end

/-! more expressions -/
section
variable {M : Model} {prog : Program} {w : World} {A : Around} {c : Cfg} {H h : Heap} {L : Addr} {bs : List (Str × Value)} {E : Value → Heap → Prop} {env : Env} {pos : Pos} {Q : Value → Heap → Prop}
theorem FrL.back {h' : Heap} (F : FrL H L h bs) (k : h.StaysIn h') : FrL H L h' bs := by
  obtain ⟨m, ⟨oL, a1, a2, hL, a3⟩, b⟩ := F.ns
  exact ⟨⟨m, ⟨oL, a1, a2, k _ _ hL, a3⟩, b⟩, stays_trans F.keep k, F.out⟩
theorem d_true {b : Bool} {k : Nat} (q : Q (.bool b) h) : D M A c (eval (.Constant (.bool b) k pos) env) h Q E := ⟨fun tk p => wpAny_Constant_bool (.mk p q)⟩
theorem d_none {k : Nat} (q : Q .none h) : D M A c (eval (.Constant .none k pos) env) h Q E := ⟨fun tk p => wpAny_Constant_none (.mk p q)⟩
theorem d_attr {value : Expr} {attr : Str} (k : D (model prog w) A c (eval value env) h (fun o h₁ => D (model prog w) A c (getAttr o attr true) h₁ Q E) E)
    (he : eval (.Attribute value attr pos) env = (do
      let o ← eval value env
      standAt pos.atName
      let r ← holding [o] (getAttr o attr true)
      letTemporaryGo value o r
      pure r) := by with_unfolding_all rfl) : D (model prog w) A c (eval (.Attribute value attr pos) env) h Q E :=
  ⟨fun tk p => Attribute_any_ (wpAny_mono (k.run tk p) (fun _ _ q => q.run) fun _ _ e => e) he⟩
def mkSlice (l u : Value) : Sem Value := newFields "slice" [l, u, .none]
theorem d_part0 (q : Q .none h) : D M A c (evalPart none env) h Q E := by rw [evalPart_none]; exact d_pure q
theorem d_part {e : Expr} (k : D M A c (eval e env) h Q E) : D M A c (evalPart (some e) env) h Q E := by rw [evalPart_some]; exact k
theorem d_slice {lower upper : Option Expr} (k : D M A c (evalPart lower env) h (fun l h₁ => D M A c (evalPart upper env) h₁ (fun u h₂ => D M A c (mkSlice l u) h₂ Q E) E) E) : D M A c (eval (.Slice lower upper none pos) env) h Q E := by
  rw [arm_eval_Slice]
  refine d_bind (d_conseq k fun l h₁ k => d_bind (d_holding (d_conseq k fun u h₂ k => d_bind (d_holding ?_))))
  exact d_pure k
theorem d_mkSlice {l u : Value} (F : FrL H L h bs) (q : ∀ h' a, FrL H L h' bs → h'.IsSliceOf a l u .none → h.StaysIn h' → Q (.ref a) h') : D M A c (mkSlice l u) h Q E := ⟨fun tk p => by
  unfold mkSlice newFields
  exact wpAny_newObj_type (.mk (h := h.push _) p (q _ _ (F.back (stays_push _)) (.new _ _ _ _) (stays_push _)))⟩
/-- a cut of a text or list -/
theorem pickIdx (x : List Nat) (lo hi : Option (Nat × Tok)) :
    slicePicked (S x) (lo.map fun y => ((y.1 : Int), y.2)) (hi.map fun y => ((y.1 : Int), y.2)) none =
      (List.range (min ((hi.map (·.1)).getD x.length) x.length - min ((lo.map (·.1)).getD 0) x.length)).map (min ((lo.map (·.1)).getD 0) x.length + ·) := by
  have key : ∀ a b : Nat, sliceRange (max 0 (min (a : Int) x.length)) (max 0 (min (b : Int) x.length)) 1 = (List.range (min b x.length - min a x.length)).map (min a x.length + ·) := by
    intro a b
    have e1 : (max 0 (min (a : Int) x.length)) = ((min a x.length : Nat) : Int) := by omega
    have e2 : (max 0 (min (b : Int) x.length)) = ((min b x.length : Nat) : Int) := by omega
    rw [e1, e2, sliceRange_one]
  have k0 : ∀ b : Int, sliceRange 0 b 1 = sliceRange (max 0 (min ((0 : Nat) : Int) x.length)) b 1 := by intro b; congr 1 <;> omega
  have kn : ∀ a : Int, sliceRange a (x.length : Int) 1 = sliceRange a (max 0 (min (x.length : Int) x.length)) 1 := by intro a; congr 1 <;> omega
  unfold slicePicked Builtin.Str.strSliceIndices
  rw [S_len]
  cases lo with
  | none => cases hi with
    | none =>
      show (sliceRange 0 (x.length : Int) 1) = _
      rw [k0, kn, key]; rfl
    | some b =>
      obtain ⟨b, tb⟩ := b
      show (sliceRange 0 (if (1 : Int) > 0 then max 0 (min (if (b : Int) < 0 then (b : Int) + x.length else b) x.length) else _) 1) = _
      rw [if_pos (by decide), if_neg (by omega), k0, key]; rfl
  | some a =>
    obtain ⟨a, ta⟩ := a
    cases hi with
    | none =>
      show (sliceRange (if (1 : Int) > 0 then max 0 (min (if (a : Int) < 0 then (a : Int) + x.length else a) x.length) else _) (x.length : Int) 1) = _
      rw [if_pos (by decide), if_neg (by omega), kn, key]; rfl
    | some b =>
      obtain ⟨b, tb⟩ := b
      show (sliceRange (if (1 : Int) > 0 then max 0 (min (if (a : Int) < 0 then (a : Int) + x.length else a) x.length) else _) (if (1 : Int) > 0 then max 0 (min (if (b : Int) < 0 then (b : Int) + x.length else b) x.length) else _) 1) = _
      rw [if_pos (by decide), if_neg (by omega), if_pos (by decide), if_neg (by omega), key]; rfl
theorem cut_clip (x : List Nat) (a b : Nat) : (x.drop (min a x.length)).take (min b x.length - min a x.length) = (x.take b).drop a := by
  rw [List.drop_take]
  by_cases h : a ≤ x.length
  · rw [Nat.min_eq_left h]
    by_cases h2 : b ≤ x.length
    · rw [Nat.min_eq_left h2]
    · rw [Nat.min_eq_right (by omega), List.take_of_length_le (by simp <;> omega), List.take_of_length_le (by simp <;> omega)]
  · have e1 : x.drop (min a x.length) = [] := List.drop_of_length_le (by omega)
    have e2 : x.drop a = [] := List.drop_of_length_le (by omega)
    rw [e1, e2]; simp
theorem picked (x : List Nat) (lo hi : Option (Nat × Tok)) :
    ((slicePicked (S x) (lo.map fun y => ((y.1 : Int), y.2)) (hi.map fun y => ((y.1 : Int), y.2)) none).filterMap ((S x).cps[·]?)) = (x.take ((hi.map (·.1)).getD x.length)).drop ((lo.map (·.1)).getD 0) := by
  rw [pickIdx, pick_run]
  exact cut_clip x _ _
theorem picked_all (x : List Nat) (lo hi : Option (Nat × Tok)) (e : (slicePicked (S x) (lo.map fun y => ((y.1 : Int), y.2)) (hi.map fun y => ((y.1 : Int), y.2)) none).length = x.length) :
    (x.take ((hi.map (·.1)).getD x.length)).drop ((lo.map (·.1)).getD 0) = x := by
  rw [pickIdx] at e
  simp only [List.length_map, List.length_range] at e
  rw [← cut_clip]
  generalize (hi.map (·.1)).getD x.length = b at *
  generalize (lo.map (·.1)).getD 0 = a at *
  by_cases z : x.length = 0
  · have : x = [] := List.eq_nil_of_length_eq_zero z
    subst this; simp
  · have e1 : min a x.length = 0 := by omega
    have e2 : min b x.length = x.length := by omega
    rw [e1, e2]; simp
def partV (o : Option (Nat × Tok)) : Value := partValue (o.map fun y => ((y.1 : Int), y.2))
theorem d_tailSlStr {value slice : Expr} {x : List Nat} {t : Tok} {a : Addr} {lo hi : Option (Nat × Tok)} (hs : h.IsSliceOf a (partV lo) (partV hi) .none) (hz : x.length ≤ 16000000)
    (q : ∀ t, Q (.str (S ((x.take ((hi.map (·.1)).getD x.length)).drop ((lo.map (·.1)).getD 0))) t) h)
    (he : ∃ ops, subscripted slice false (.str (S x) t) (.ref a) = operate ops (getItem (.str (S x) t) (.ref a)) := by exact ⟨_, rfl⟩) :
    D (model prog w) A c (subscriptTail value slice (.str (S x) t) (.ref a)) h Q E := by
  obtain ⟨ops, he⟩ := he
  refine d_of0 fun tk p => tail_any (s := c.st h tk) (typeIs_str _ _ _) F.slot_str_getitem.lookup (wpAny_getItem_str_slice (l := lo.map fun y => ((y.1 : Int), y.2)) (u := hi.map fun y => ((y.1 : Int), y.2)) (st := none) ?_ rfl ?_) he
  · obtain ⟨o, h1, h2, h3⟩ := hs; exact ⟨o, h1, h2, h3⟩
  · have e := picked x lo hi
    unfold sliceMade
    have fin : ∀ t' tk', (fun (v : Value) s' => ∃ h' tk', s' = c.st h' tk' ∧ Q v h') (.str ⟨((slicePicked (S x) (lo.map fun y => ((y.1 : Int), y.2)) (hi.map fun y => ((y.1 : Int), y.2)) none).filterMap ((S x).cps[·]?)).toArray⟩ t') (c.st h tk') := fun t' tk' => ⟨h, tk', rfl, by rw [e]; exact q t'⟩
    split
    · rename_i z
      have : (S x) = ⟨((slicePicked (S x) (lo.map fun y => ((y.1 : Int), y.2)) (hi.map fun y => ((y.1 : Int), y.2)) none).filterMap ((S x).cps[·]?)).toArray⟩ := by
        rw [e]
        have zl : (slicePicked (S x) (lo.map fun y => ((y.1 : Int), y.2)) (hi.map fun y => ((y.1 : Int), y.2)) none).length = x.length := by
          simp only [Bool.and_eq_true, beq_iff_eq] at z; rw [z.2, S_len]
        rw [picked_all x lo hi zl]; rfl
      rw [this]
      exact fin t tk
    · exact ⟨by
        show (List.toArray _).size ≤ _
        rw [List.size_toArray, e, sizeLine_eq]; simp; omega, fin tk (tk + 1)⟩
end
end
section
section
variable {prog : Program} {w : World} {A : Around} {c : Cfg} {H h : Heap} {L f : Addr} {bs : List (Str × Value)} {E : Value → Heap → Prop} {q : Str} {sc : Scope} {cd : Value} {env : Env} {pos : Pos}
theorem d_for {target iter : Expr} {body orelse : List Stmt} {Q : Flow → Heap → Prop}
    (k : D (model prog w) A c (eval iter env) h (fun x h₁ => D (model prog w) A c (pyIter x) h₁ (fun it h₂ =>
      DC (model prog w) A c (.forLoop target it body orelse env) h₂ (fun r h' => match r with | .ok f => Q f h' | .error _ => False)) E) E)
    (hs : ∀ x, foldedSetIterable iter env x = pure x := by intro _; rfl) : D (model prog w) A c (exec (.For target iter body orelse pos) env) h Q E :=
  ⟨fun tk p => wpAny_For (wpAny_mono (k.run tk p) (fun _ _ q => wpAny_mono q.run (fun it s q => by
    obtain ⟨h', tk', p', rfl, q⟩ := q
    exact codeAny_mono (q.run tk' p') fun r s z => by
      obtain ⟨h'', tk'', p'', rfl, z⟩ := z
      cases r with
      | error e => exact z.elim
      | ok f => exact .mk p'' z) fun _ _ e => e) fun _ _ e => e) hs⟩

abbrev Keeps1 (ws : List Addr) (h h' : Heap) : Prop := ∀ b o, b ∉ ws → h.get? b = some o → h'.get? b = some o
abbrev Src (prog : Program) (w : World) (I : Addr) (fp wr : List Addr) (n : Nat) (P : Nat → Value → Prop) (St : Nat → Heap → Prop) : Prop := ∀ A : Around, A.handled = none → Walks prog w A I fp wr n P St

theorem lf_of {α : Type} {Q : α → Heap → Prop} {a : α} {s : Shared} {h' : Heap} {tk' tk : Nat} (l : tk ≤ tk') (p : 0 < tk) (e : s = c.st h' tk') (q : Q a h') : Lf c Q a s := ⟨h', tk', Nat.lt_of_lt_of_le p l, e, q⟩

/-- a for over any source; the loop's name is a local -/
theorem dc_for {x : Str} {px : Pos} {body : List Stmt} {I : Addr} {fp wr : List Addr} {n : Nat} {P : Nat → Value → Prop} {St : Nat → Heap → Prop} {R : Result → Heap → Prop}
    (W : Src prog w I fp wr n P St) (hA : A.handled = none) (Inv : Nat → Heap → Prop) (hst : St 0 h) (h0 : Inv 0 h)
    (step : ∀ i v h' h₁, i < n → P i v → Inv i h' → Keeps1 wr h' h₁ → St (i + 1) h₁ →
      D (model prog w) A c (storeName env x v) h₁ (fun _ h₂ => D (model prog w) A c (execs body env) h₂ (fun fl h₃ => match fl with
        | .next | .cont => St (i + 1) h₃ ∧ Inv (i + 1) h₃
        | .brk => R (.ok .next) h₃
        | .ret v => R (.ok (.ret v)) h₃) (fun _ _ => False)) (fun _ _ => False))
    (done : ∀ h' h₁, Inv n h' → Keeps1 wr h' h₁ → R (.ok .next) h₁) : DC (model prog w) A c (.forLoop (.Name x px) (.ref I) body [] env) h R := by
  refine ⟨fun tk p => codeAny_forLoop_any (I := fun k s => ∃ i h' tk', s = c.st h' tk' ∧ 0 < tk' ∧ i ≤ n ∧ k = n + 1 - i ∧ St i h' ∧ Inv i h') ?_ (n + 1) ⟨0, h, tk, rfl, p, Nat.zero_le _, rfl, hst, h0⟩⟩
  rintro k s ⟨i, h', tk', rfl, p', hi, rfl, st, iv⟩
  by_cases hlt : i < n
  · refine wpAny_with_toks (n := tk') (Nat.le_refl _) ((W A hA).item i _ _ _ hlt st fun v h₁ tk₁ hP st₁ k₁ l₁ => ?_)
    dsimp only
    refine wpAny_pure (?_ : wpAny _ _ _ _ _ _)
    refine wpAny_assign_Name (wpAny_mono ((step i v h' h₁ hlt hP iv k₁ st₁).run tk₁ (Nat.lt_of_lt_of_le p' l₁)) (fun _ s₂ q => ?_) (fun e s₂ q => by obtain ⟨_, _, _, _, q⟩ := q; exact q.elim))
    obtain ⟨h₂, tk₂, p₂, rfl, q⟩ := q
    refine wpAny_mono (q.run tk₂ p₂) (fun fl s₃ z => ?_) (fun e s₂ q => by obtain ⟨_, _, _, _, q⟩ := q; exact q.elim)
    obtain ⟨h₃, tk₃, p₃, rfl, z⟩ := z
    cases fl with
    | next => exact ⟨n + 1 - (i + 1), by omega, i + 1, h₃, tk₃, rfl, p₃, by omega, rfl, z.1, z.2⟩
    | cont => exact ⟨n + 1 - (i + 1), by omega, i + 1, h₃, tk₃, rfl, p₃, by omega, rfl, z.1, z.2⟩
    | brk => exact .mk p₃ z
    | ret v => exact .mk p₃ z
  · have hin : i = n := by omega
    subst hin
    refine wpAny_with_toks (n := tk') (Nat.le_refl _) ((W A hA).done _ _ _ st fun h₁ tk₁ k₁ l₁ => ?_)
    exact wpAny_execs_nil (.mk (h := h₁) (tk := tk₁) (Nat.lt_of_lt_of_le p' l₁) (done h' h₁ iv k₁))

theorem d_iterStr {x : List Nat} {t : Tok} {Q : Value → Heap → Prop} (k : ∀ h' I St, h.StaysIn h' → h.get? I = none → Src prog w I [I] [I] x.length (fun i v => ∃ k u, x[i]? = some k ∧ v = .str (S [k]) u) St → St 0 h' → Q (.ref I) h') :
    D (model prog w) A c (pyIter (.str (S x) t)) h Q E := ⟨fun tk p => wpAny_pyIter_str fun o St W st => by
  refine .mk (h := h.push o) p (k _ _ St (stays_push o) (not_get_size h) (fun A' hA => ?_) st)
  have W' := W A' hA
  have e : (S x).cps.size = x.length := by simp [S]
  rw [e] at W'
  have e2 : SignAt (S x) = fun (i : Nat) v => ∃ k u, x[i]? = some k ∧ v = Value.str (S [k]) u := by
    funext i v; unfold SignAt; simp [S]
  rw [e2] at W'
  exact W'⟩
theorem d_iterList {a : Addr} {items : Array Value} {Q : Value → Heap → Prop} (ha : h.IsList a items) (k : ∀ h' I, h.StaysIn h' → h.get? I = none → Src prog w I [I, a] [I] items.size (fun i v => items[i]? = some v) (fun i h => h.IsListIter I a i ∧ h.IsList a items) → (h'.IsListIter I a 0 ∧ h'.IsList a items) → Q (.ref I) h') :
    D (model prog w) A c (pyIter (.ref a)) h Q E := ⟨fun tk p => wpAny_pyIter_list (s := c.st h tk) ha (by
  obtain ⟨o, ho, hr⟩ := ha
  refine .mk (h := h.push _) p (k _ _ (stays_push _) (not_get_size h) (fun A' hA => Walks.list hA _ _ (fun e => ?_) _) ⟨⟨_, Heap.get?_push_size _ rfl, rfl, rfl⟩, ⟨o, stays_push _ _ _ ho, hr⟩⟩)
  subst e; exact absurd (Heap.lt_size ho) (Nat.lt_irrefl _))⟩
theorem d_iterTup {a : Addr} {items : Array Value} {Q : Value → Heap → Prop} (ha : h.IsTuple a items) (k : ∀ h' I, h.StaysIn h' → h.get? I = none → Src prog w I [I, a] [I] items.size (fun i v => items[i]? = some v) (fun i h => h.IsTupleIter I a i ∧ h.IsTuple a items) → (h'.IsTupleIter I a 0 ∧ h'.IsTuple a items) → Q (.ref I) h') :
    D (model prog w) A c (pyIter (.ref a)) h Q E := ⟨fun tk p => wpAny_pyIter_tuple (s := c.st h tk) ha (by
  obtain ⟨o, ho, hr⟩ := ha
  refine .mk (h := h.push _) p (k _ _ (stays_push _) (not_get_size h) (fun A' hA => Walks.tuple hA _ _ (fun e => ?_) _) ⟨⟨_, Heap.get?_push_size _ rfl, rfl, rfl⟩, ⟨o, stays_push _ _ _ ho, hr⟩⟩)
  subst e; exact absurd (Heap.lt_size ho) (Nat.lt_irrefl _))⟩
/-- behind a turn's fetch: the frame on a base that holds all -/
theorem FrL.but {h₁ : Heap} {wr : List Addr} (F : FrL H L h bs) (k : Keeps1 wr h h₁) (hL : L ∉ wr) (hw : ∀ b ∈ wr, H.get? b = none) : FrL H L h₁ bs := by
  obtain ⟨m, ⟨oL, a1, a2, hL', a3⟩, b⟩ := F.ns
  exact ⟨⟨m, ⟨oL, a1, a2, k _ _ hL hL', a3⟩, b⟩, fun b o e => k _ _ (fun z => by rw [hw b z] at e; cases e) (F.keep _ _ e), F.out⟩
theorem FrL.all (F : FrL H L h bs) : FrL (h.hide L) L h bs := F.grow (stays_refl h)
theorem FrL.into (F : FrL H L h bs) : H.StaysIn (h.hide L) := F.stays_hide (stays_refl h)
theorem FrL.down {H' : Heap} (F : FrL H' L h bs) (k : H.StaysIn H') (n : H.get? L = none) : FrL H L h bs := ⟨F.ns, stays_trans k F.keep, n⟩
theorem src_kept {I : Addr} {fp wr : List Addr} {n : Nat} {P : Nat → Value → Prop} {St : Nat → Heap → Prop} {i : Nat} {h₁ h₃ : Heap} (W : Src prog w I fp wr n P St) (st : St i h₁) (hLf : L ∉ fp) (k : (h₁.hide L).StaysIn h₃) : St i h₃ :=
  (W { } rfl).frame _ _ _ st fun b hb o e => k _ _ (hide_of e fun z => hLf (z ▸ hb))
theorem d_ord {k : Nat} {Q : Value → Heap → Prop} {t : Tok} (q : ∀ t, Q (.int k t) h) : D (model prog w) A c (call (.builtin "ord") [.str (S [k]) t]) h Q E := ⟨fun tk p => P.ord_of_char (.mk (Nat.succ_pos _) (q _))⟩
end
end
section
/-! own instances -/
open Builtin Builtin.ObjectAttr
structure Inst (h : Heap) (x C dx : Addr) (es : List DictEntry) (n : Nat) : Prop where
  x : h.get? x = some (instObj C dx)
  d : h.get? dx = some (dictOf es n)
theorem Inst.at {h : Heap} {x C dx : Addr} {es : List DictEntry} {n : Nat} (I : Inst h x C dx es n) : InstAt h x (instObj C dx) C (some (dictOf es n)) := ⟨I.x, rfl, rfl, I.d⟩
theorem Inst.keeps {h h' : Heap} {x C dx : Addr} {es : List DictEntry} {n : Nat} (I : Inst h x C dx es n) (k : h.StaysIn h') : Inst h' x C dx es n := ⟨k _ _ I.x, k _ _ I.d⟩

section
variable {prog : Program} {w : World} {A : Around} {c : Cfg} {K : Frag} {H h : Heap} {L : Addr} {bs : List (Str × Value)} {E : Value → Heap → Prop} {Q : Value → Heap → Prop} {x C dx : Addr} {es : List DictEntry} {n : Nat} {name : Str} {expr : Bool} {v : Value} {attr : Option Value}

/-- an attribute of the object's own dict -/
theorem d_getOwn (X : K.In h) (I : Inst h x C dx es n) (hga : findIn K (.ref C) "__getattribute__" = some (some (.builtin "object.__getattribute__"))) (hh : hasDictIn K C = true) (ha : findIn K (.ref C) name = some attr) (hn : noGet K attr = true)
    (hl : getL name es = some (some v)) (hv : handedIn v = true) (q : Q v h) : D (model prog w) A c (getAttr (.ref x) name expr) h Q E :=
  ⟨fun tk p => get_value (s := c.st h tk) X I.at hga (findObj_own hh ha hn hl) hv (.mk (Nat.succ_pos _) q)⟩
/-- a plain thing of the class -/
theorem d_getCls (X : K.In h) (I : Inst h x C dx es n) (hga : findIn K (.ref C) "__getattribute__" = some (some (.builtin "object.__getattribute__"))) (hh : hasDictIn K C = true) (ha : findIn K (.ref C) name = some (some v)) (hn : specialIn K v "__get__" = some none)
    (hv : handedIn v = true) (hc : copiedNames.contains name = false) (hl : getL name es = some none) (q : Q v h) : D (model prog w) A c (getAttr (.ref x) name expr) h Q E :=
  ⟨fun tk p => get_value (s := c.st h tk) X I.at hga (findObj_cls hh ha hn hv hc hl) hv (.mk (Nat.succ_pos _) q)⟩
theorem findObj_bind {a g : Value} (hh : hasDictIn K C = true) (ha : findIn K (.ref C) name = some (some a)) (hg : specialIn K a "__get__" = some (some g)) (ht : takesIn K a = some false) (hc : copiedNames.contains name = false) (hl : getL name es = some none) :
    findObj K C (some (dictOf es n)) name = some (.bind g a) := by
  obtain ⟨cd, hc', hd⟩ := any_some hh
  unfold findObj
  have ho : W.ownOf cd (some (dictOf es n)) name = some none := by unfold W.ownOf; rw [if_pos hd]; exact hl
  rw [hc', Option.bind_some, ha, Option.bind_some]
  simp only [hg, ht, Option.bind_some, ho, hc, Bool.false_and, Bool.false_eq_true, if_false]
/-- what binds (a function, a property), whether or not the class has a hook -/
theorem d_getBind {g a : Value} {hk : Option Value} {ox : Obj} {od : Option Obj} (X : K.In h) (I : InstAt h x ox C od) (hga : findIn K (.ref C) "__getattribute__" = some (some (.builtin "object.__getattribute__")))
    (hf : findObj K C od name = some (.bind g a)) (hk' : findIn K (.ref C) "__getattr__" = some hk)
    (k : D (model prog w) A.in1 c (call g [a, .ref x, .ref C]) h (fun v h' => handedIn v = true ∧ Q v h') (fun _ _ => False)) :
    D (model prog w) A c (getAttr (.ref x) name expr) h Q E := by
  refine ⟨fun tk p => get_open (s := c.st h tk) X I hga ?_⟩
  have L0 := I.type (M := model prog w)
  have L1 := looks_find (M := model prog w) X I hf
  have L2 := looks_findIn (M := model prog w) X hk'
  refine wpAny_bind (wpAny_pure (wpAny_bind (L0.at (wpAny_bind (L1.at (wpAny_bind (L2.at ?_)))))))
  have base : wpAny (model prog w) A.in1 (call g [a, .ref x, .ref C]) (fun v s' => wpAny (model prog w) A (handedOut v) (Lf c Q) (Lf c E) s') (fun _ _ => False) (c.st h (tk + 1)) :=
    wpAny_mono (k.run (tk + 1) (Nat.succ_pos _)) (fun v s' ⟨h', tk', p', e, z, q⟩ => by rw [handedOut_of z]; exact wpAny_pure ⟨h', tk', p', e, q⟩) fun e s' ⟨_, _, _, _, z⟩ => z
  cases hk with
  | none =>
    show wpAny _ _ (holding [a] (call g [a, .ref x, .ref C]) >>= ret) _ _ _
    exact wpAny_bind (wpAny_holding (wpAny_mono base (fun v s' z => wpAny_pure z) fun _ _ z => z.elim))
  | some hook =>
    show wpAny _ _ (bindOrHook g a (.ref x) (.ref C) (.str name tk) hook) _ _ _
    unfold bindOrHook
    refine wpAny_bind (wpAny_attempt (wpAny_holding ?_))
    show wpAny _ _ (holding [a] (call g [a, .ref x, .ref C]) >>= ret) _ _ _
    exact wpAny_bind (wpAny_holding (wpAny_mono base (fun v s' z => wpAny_pure (wpAny_pure z)) fun _ _ z => z.elim))
theorem findObj_none (hh : hasDictIn K C = true) (ha : findIn K (.ref C) name = some none) (hc : copiedNames.contains name = false) (hl : getL name es = some none) : findObj K C (some (dictOf es n)) name = some .missing := by
  obtain ⟨cd, hc', hd⟩ := any_some hh
  unfold findObj
  have ho : W.ownOf cd (some (dictOf es n)) name = some none := by unfold W.ownOf; rw [if_pos hd]; exact hl
  rw [hc', Option.bind_some, ha, Option.bind_some]
  simp only [Option.bind_some, ho, hc, Bool.false_and, Bool.false_eq_true, if_false]
/-- an attribute that is not there: the class's own __getattr__ -/
theorem d_getHook {f : Addr} (X : K.In h) (I : Inst h x C dx es n) (hga : findIn K (.ref C) "__getattribute__" = some (some (.builtin "object.__getattribute__")))
    (hf : findObj K C (some (dictOf es n)) name = some .missing) (hk' : findIn K (.ref C) "__getattr__" = some (some (.ref f))) (ht : typeIn K (.ref f) = some (.type "function"))
    (k : ∀ t, D (model prog w) A.in1 c (call (.ref f) [.ref x, .str name t]) h (fun v h' => handedIn v = true ∧ Q v h') (fun _ _ => False)) :
    D (model prog w) A c (getAttr (.ref x) name expr) h Q E := by
  refine ⟨fun tk p => get_open (s := c.st h tk) X I.at hga ?_⟩
  have L0 := I.at.type (M := model prog w)
  have L1 := looks_find (M := model prog w) X I.at hf
  have L2 := looks_findIn (M := model prog w) X hk'
  refine wpAny_bind (wpAny_pure (wpAny_bind (L0.at (wpAny_bind (L1.at (wpAny_bind (L2.at ?_)))))))
  show wpAny _ _ (byHook (.ref x) (.str name tk) (.ref f)) _ _ _
  unfold byHook
  refine wpAny_bind ((bind_fn (M := model prog w) X (.ref x) ht).at ?_)
  dsimp only
  refine wpAny_bind (wpAny_mono ((k tk).run (tk + 1) (Nat.succ_pos _)) (fun v s' ⟨h', tk', p', e, z, q⟩ => ?_) fun e s' ⟨_, _, _, _, z⟩ => z.elim)
  refine wpAny_bind (wpAny_rule (wpAny_pure ?_))
  show wpAny _ _ (handedOut v) _ _ _
  rw [handedOut_of z]; exact wpAny_pure ⟨h', tk', p', e, q⟩

/-- a store into the object's own dict -/
theorem d_setOwn {es' : Nat → List DictEntry} {n' : Nat} {Q : Unit → Heap → Prop} (X : K.In h) (I : Inst h x C dx es n) (hs : findIn K (.ref C) "__setattr__" = some (some (.builtin "object.__setattr__"))) (hp : plainOver K C = true) (ht : takerIn K C name = some none)
    (hh : hasDictIn K C = true) (hl : (getL name es).isSome = true) (e : ∀ tk, (putL name (PyData.keyHash w.params name) (.str name tk) v es, putN name es n) = (es' tk, n')) (hz : ∀ tk, (es' tk).length ≤ 1000)
    (q : ∀ h' tk, Inst h' x C dx (es' tk) n' → Heap.SameBut dx h h' → Q () h') : D (model prog w) A c (setAttr (.ref x) name v) h Q E := by
  refine ⟨fun tk p => set_plain (s := c.st h tk) X I.at hs (osa_open (s := { (c.st h tk) with toks := tk + 1 }) X I.at hp ht fun b => ?_)⟩
  obtain ⟨cd, hc, hd'⟩ := any_some hh
  refine wpAny_bind (wpAny_pure (wpAny_bind (wpAny_bind (wpAny_loadPart I.x (wpAny_bind ((looks_clsIn X hc).here ?_))))))
  rw [hd']
  refine wpAny_pure (a := some dx) (wpAny_bind (wpAny_pure (wpAny_bind ?_)))
  unfold nsSet
  refine wpAny_bind (wpAny_bind (wpAny_askSetting (wpAny_pure (wpAny_bind (wpAny_mkText (wpAny_bind (wpAny_loadPart I.d ?_)))))))
  dsimp only
  have c0 : (!(es.toArray).any (·.key.isStr name) && (es.toArray).any (·.refKey)) = false := by
    rw [← Array.any_toList, ← Array.any_toList]
    unfold getL at hl
    split at hl
    · rename_i en he
      rw [List.any_eq_true.mpr ⟨en, List.mem_of_find?_eq_some he, List.find?_some he⟩]; rfl
    · split at hl
      · cases hl
      · rename_i z; rw [Bool.not_eq_true] at z; rw [z, Bool.and_false]
  rw [aRefKeyMayBeTheName_at, c0]
  obtain ⟨e1, e2⟩ := Prod.mk.inj (e (tk + 1))
  have new : Obj.putName name (PyData.keyHash w.params name) (.str name (tk + 1)) v (dictOf es n) = dictOf (es' (tk + 1)) n' := by rw [putName_dict, e1, e2]
  have I' : (h.update dx (Obj.putName name (PyData.keyHash w.params name) (.str name (tk + 1)) v)).get? dx = some (dictOf (es' (tk + 1)) n') := by
    rw [← new]; exact Heap.get?_update_self _ I.d (by rw [new]; rfl)
  have sb : Heap.SameBut dx h (h.update dx (Obj.putName name (PyData.keyHash w.params name) (.str name (tk + 1)) v)) := Heap.SameBut.update ..
  have nx : x ≠ dx := fun z => by have := I.x; rw [z, I.d] at this; cases this
  refine wpAny_updatePart I.d ?_
  refine wpAny_bind (wpAny_lookBehind I' (pastItsLine_dict (by have := hz (tk + 1); rw [List.size_toArray, sizeLine_eq]; omega)) ?_)
  refine wpAny_pure ?_
  exact .mk (h := h.update dx _) (Nat.succ_pos _) (q _ (tk + 1) ⟨(sb.2 _ nx).trans I.x, I'⟩ sb)
/-- an own class called: a new object, its __init__ -/
theorem d_make {fI : Addr} {pos : List Value} {Q : Value → Heap → Prop} (X : K.In h) (hm : makesIn K C = true) (hi : findIn K (.ref C) "__init__" = some (some (.ref fI))) (hf : typeIn K (.ref fI) = some (.type "function"))
    (k : ∀ h' x dx, h.StaysIn h' → h.get? x = none → h.get? dx = none → x ≠ dx → Inst h' x C dx [] 0 → DC (model prog w) (A.under (.builtin "type.__call__" ⟨.ref C :: pos, []⟩)) c (.call (.ref fI) ⟨.ref x :: pos, []⟩) h' (fun r h'' => r = .ok (.ret .none) ∧ Q (.ref x) h'')) :
    D (model prog w) A c (call (.ref C) pos) h Q E := by
  refine ⟨fun tk p => wpAny_call (make_core (makes_of X hm) (looks_findIn X hi) (fun self => bind_fn X self hf) (.inl rfl) (codeAny_mono ((k ((h.push emptyDict).push (instObj C h.objs.size)) (h.objs.size + 1) h.objs.size ?_ ?_ (not_get_size h) ?_ ⟨?_, ?_⟩).run tk p) ?_))⟩
  · exact stays_trans (stays_push _) (stays_push _)
  · cases e : h.get? (h.objs.size + 1) with
    | none => rfl
    | some o => exact absurd (Heap.lt_size e) (Nat.not_lt.mpr (Nat.le_succ _))
  · exact Nat.ne_of_gt (Nat.lt_succ_self _)
  · have := Heap.get?_push_size (h := h.push emptyDict) (o := instObj C h.objs.size) rfl
    rw [Heap.size_push] at this; exact this
  · exact stays_push _ _ _ (Heap.get?_push_size _ rfl)
  · rintro r s' ⟨h', tk', p', rfl, rfl, q⟩
    exact ⟨rfl, .mk p' q⟩
end

section
variable {M : Model} {prog : Program} {w : World} {A : Around} {c : Cfg} {K : Frag} {H h : Heap} {L : Addr} {bs : List (Str × Value)} {E : Value → Heap → Prop} {env : Env} {pos pos' : Pos}
theorem d_assignAttr {o value : Expr} {attr : Str} {Q : Flow → Heap → Prop} (k : D M A c (eval value env) h (fun v h₁ => D M A c (eval o env) h₁ (fun ov h₂ => D M A c (setAttr ov attr v) h₂ (fun _ => Q .next) E) E) E)
    (hs : swapsWith value (some (.Attribute o attr pos')) pos.line env = pure false := by rfl) : D M A c (exec (.Assign [.Attribute o attr pos'] value pos) env) h Q E :=
  ⟨fun tk p => plainObj_wpAny_Assign_Attribute (wpAny_mono (k.run tk p) (fun _ _ q => wpAny_mono q.run (fun _ _ q => wpAny_mono q.run (fun _ _ q => q) fun _ _ e => e) fun _ _ e => e) fun _ _ e => e) hs⟩
theorem d_assignSub {o i value : Expr} {Q : Flow → Heap → Prop} (k : D M A c (eval value env) h (fun v h₁ => D M A c (eval o env) h₁ (fun ov h₂ => D M A c (eval i env) h₂ (fun iv h₃ => D M A c (setItem ov iv v) h₃ (fun _ => Q .next) E) E) E) E)
    (hs : swapsWith value (some (.Subscript o i pos')) pos.line env = pure false := by rfl) : D M A c (exec (.Assign [.Subscript o i pos'] value pos) env) h Q E :=
  ⟨fun tk p => wpAny_Assign_Subscript (wpAny_mono (k.run tk p) (fun _ _ q => wpAny_mono q.run (fun _ _ q => wpAny_mono q.run (fun _ _ q => wpAny_mono q.run (fun _ _ q => q) fun _ _ e => e) fun _ _ e => e) fun _ _ e => e) fun _ _ e => e) hs⟩
theorem d_listCopy {a : Addr} {items : Array Value} {Q : Value → Heap → Prop} (ha : h.IsList a items) (hz : items.size ≤ 16000000) (q : ∀ h' D, h.StaysIn h' → h.get? D = none → h'.IsList D items → Q (.ref D) h') : D (model prog w) A c (call (.type "list") [.ref a]) h Q E :=
  ⟨fun tk p => by
    obtain ⟨o, ho, hc, n, hd⟩ := ha
    exact call_list_seq (s := c.st h tk) (hsz := by rw [sizeLine_eq]; omega) a (.inl rfl) ho hc hd fun h' c' hk hD => .mk (h := h') p (q h' _ hk (not_get_size h) ⟨_, hD, rfl, c', rfl⟩)⟩
theorem d_setItem {a : Addr} {items : Array Value} {i : Int} {j : Nat} {t : Tok} {v : Value} {Q : Unit → Heap → Prop} (ha : h.IsList a items) (hi : i = j) (hj : j < items.size) (hz : items.size ≤ 16000000)
    (q : ∀ h', h'.IsList a (items.setIfInBounds j v) → Heap.SameBut a h h' → Q () h') : D (model prog w) A c (setItem (.ref a) (.int i t) v) h Q E :=
  ⟨fun tk p => by
    subst hi
    exact wpAny_setItem_list (s := c.st h tk) ha (by omega) (by omega) (by omega) fun h' hl sb => .mk (h := h') p (q h' (by simpa using hl) sb)⟩
theorem FrL.lose (F : FrL H L h bs) (d : Addr) : FrL (H.hide d) L h bs := ⟨F.ns, fun b o e => F.keep b o (Heap.of_hide e), by
  cases e : (H.hide d).get? L with
  | none => rfl
  | some o => have := Heap.of_hide e; rw [F.out] at this; cases this⟩
theorem FrL.mut {h' : Heap} {d : Addr} (F : FrL H L h bs) (sb : Heap.SameBut d h h') (nd : H.get? d = none) (nL : L ≠ d) : FrL H L h' bs :=
  F.but (wr := [d]) (fun b o hb e => (sb.2 b (by simpa using hb)).trans e) (by simpa using nL) (by simpa using nd)
theorem stays_lose {H' : Heap} {d : Addr} (k : H.StaysIn H') (nd : H.get? d = none) : H.StaysIn (H'.hide d) := fun b o e => hide_of (k b o e) fun z => by rw [z, nd] at e; cases e
theorem none_of_stays {H' : Heap} {a : Addr} (k : H.StaysIn H') (n : H'.get? a = none) : H.get? a = none := by
  cases e : H.get? a with
  | none => rfl
  | some o => rw [k _ _ e] at n; cases n
end
end
local macro_rules | `(tactic| walk_at "sz") => `(tactic| first | omega | (simp only [List.length_append, List.length_cons, List.length_nil, Nat.add_zero, Nat.zero_add] at *; omega))
-- names
local macro_rules | `(tactic| walk_at "dn") => `(tactic| first
  | (refine d_loc (by assumption) (by assumption) (by rfl) ?_)
  | (refine d_glob (by assumption) (by assumption) (Top0.K (by assumption)) (Top0.T (by assumption)) (by k_is) ?_)
  | (refine d_bltn (by assumption) (by assumption) (Top0.K (by assumption)) (Top0.T (by assumption)) (by k_is) (by first | with_reducible exact PyProof.Rows.Boot.«issubclass» | boot_fast) (by decide) ?_))
-- expressions
local macro_rules | `(tactic| walk_at "de") => `(tactic| first
  | ((with_reducible show D _ _ _ (eval (Expr.Name _ _) _) _ _ _); walk_at "dn")
  | ((with_reducible show D _ _ _ (loadName _ _) _ _ _); refine d_locn (by assumption) (by assumption) (by rfl) ?_)
  | with_reducible refine d_int (fun t _ => ?_)
  | with_reducible refine d_strC (fun t _ => ?_)
  | with_reducible refine d_binop ?_
  | ((with_reducible show D _ _ _ (eval (Expr.Call (Expr.Name _ _) _ _ _) _) _ _ _); refine d_callE ?_)
  | ((with_reducible show D _ _ _ (eval (Expr.Call (Expr.Attribute _ _ _) _ _ _) _) _ _ _); refine d_mcall ?_)
  | with_reducible refine d_sub ?_
  | ((with_reducible show D _ _ _ (eval (Expr.Attribute _ _ _) _) _ _ _); refine d_attr ?_)
  | with_reducible refine d_tup ?_
  | with_reducible refine d_lst ?_
  | with_reducible refine d_slice ?_
  | with_reducible refine d_part ?_
  | with_reducible refine d_part0 ?_
  | ((with_reducible show D _ _ _ (eval (Expr.Compare _ _ _ _) _) _ _ _); refine d_cmp ?_)
  | with_reducible refine d_true ?_
  | with_reducible refine d_none ?_)
-- statements
local macro_rules | `(tactic| walk_at "ds") => `(tactic| first
  | with_reducible refine d_nil ?_
  | with_reducible refine d_cons ?_
  | ((with_reducible show D _ _ _ (exec (Stmt.Assign [Expr.Name _ _] _ _) _) _ _ _); refine d_assign ?_)
  | ((with_reducible show D _ _ _ (exec (Stmt.Assign [Expr.Attribute _ _ _] _ _) _) _ _ _); refine d_assignAttr ?_)
  | ((with_reducible show D _ _ _ (exec (Stmt.Assign [Expr.Subscript _ _ _] _ _) _) _ _ _); refine d_assignSub ?_)
  | with_reducible refine d_ret ?_
  | with_reducible refine d_ite ?_
  | with_reducible refine d_aug ?_
  | ((with_reducible show D _ _ _ (exec (Stmt.Expr _ _) _) _ _ _); refine d_expr ?_ (EnvIs.inter (by assumption) (by rfl))))
-- calls
local macro_rules | `(tactic| walk_at "dc") => `(tactic| first
  | ((with_reducible show D _ _ _ (callWith _ (Value.type _) _ _ _) _ _ _); refine d_withT ?_)
  | ((with_reducible show D _ _ _ (callWith _ (Value.builtin _) _ _ _) _ _ _); refine d_withB ?_)
  | with_reducible refine d_spl0 ?_
  | ((with_reducible show D _ _ _ (spliced (backTo _ (starEach (_ :: _) _))) _ _ _); refine d_spl ?_))
-- values
local macro_rules | `(tactic| walk_at "dv") => `(tactic| first
  | ((with_reducible show D _ _ _ (binaryOp Operator.Mod (Value.int _ _) (Value.int _ _)) _ _ _); refine d_modInt (by decide) (fun t => ?_))
  | ((with_reducible show D _ _ _ (binaryOp Operator.FloorDiv (Value.int _ _) (Value.int _ _)) _ _ _); refine d_divInt (by decide) (fun t => ?_))
  | ((with_reducible show D _ _ _ (call (Value.type "str") ([] ++ [Value.int _ _])) _ _ _); refine d_strInt (by omega) (fun t => ?_))
  | ((with_reducible show D _ _ _ (binaryOp Operator.Add (Value.str (S _) _) (Value.str (S _) _)) _ _ _); refine d_addStr (by walk_at "sz") (fun t => ?_))
  | ((with_reducible show D _ _ _ (call (Value.builtin "ord") ([] ++ [Value.str (S _) _])) _ _ _); refine d_ord (fun t => ?_))
  | with_reducible refine d_ixorInt (fun t => ?_)
  | with_reducible refine d_xorInt (fun t => ?_)
  | with_reducible refine d_subInt (fun t => ?_)
  | with_reducible refine d_mulInt (fun t => ?_) (IntMulOk.of_right (by decide))
  | with_reducible refine d_mulInt (fun t => ?_) (IntMulOk.of_left (by decide))
  | with_reducible refine d_addInt (fun t => ?_)
  | with_reducible refine d_eqInt ?_
  | with_reducible refine d_neInt ?_
  | with_reducible refine d_ltInt ?_
  | with_reducible refine d_gtInt ?_
  | with_reducible refine d_geInt ?_
  | with_reducible refine d_eqStr ?_
  | with_reducible refine d_neStr ?_
  | ((with_reducible show D _ _ _ (storeName _ _ _) _ _ _); refine d_store (by assumption) (by assumption) (fun h' F' => ?_))
  | with_reducible refine d_truthy_bool ?_)
-- tests
local macro_rules | `(tactic| walk_at "dt") => `(tactic| first
  | ((with_reducible show D _ _ _ (isTrue (Expr.Compare _ _ _ _) _ _) _ _ _); refine d_isCmp ?_)
  | ((with_reducible show D _ _ _ (isTrue (Expr.UnaryOp UnaryOp.Not _ _) _ _) _ _ _); refine d_isNot ?_)
  | ((with_reducible show D _ _ _ (isTrue (Expr.BoolOp _ _ _) _ _) _ _ _); refine d_isBool ?_)
  | ((with_reducible show D _ _ _ (isTrue (Expr.Name _ _) _ _) _ _ _); refine d_isVal ?_)
  | ((with_reducible show D _ _ _ (isTrue (Expr.Call _ _ _ _) _ _) _ _ _); refine d_isVal ?_)
  | ((with_reducible show D _ _ _ (isTrue (Expr.Attribute _ _ _) _ _) _ _ _); refine d_isVal ?_)
  | with_reducible refine d_and_cons ?_
  | with_reducible refine d_and_nil ?_
  | with_reducible refine d_or_cons ?_
  | with_reducible refine d_or_nil ?_
  | ((with_reducible show ite _ _ _); first | refine ite_t ?_ | refine ite_f ?_))
local macro_rules | `(tactic| walk_at "d1") => `(tactic| first | walk_at "de" | walk_at "dt" | walk_at "ds" | walk_at "dc" | walk_at "dv" | dsimp only)
section
abbrev kt : Str := Str.ofString "talker"
abbrev ks : Str := Str.ofString "sentence_type"
abbrev kd : Str := Str.ofString "data"
/-- an XDR's own dict -/
def xes (P : Params) (ta tb tc : Nat) (tk st : Value) (l : Addr) : List DictEntry := [⟨PyData.keyHash P kt, .str kt ta, tk⟩, ⟨PyData.keyHash P ks, .str ks tb, st⟩, ⟨PyData.keyHash P kd, .str kd tc, .ref l⟩]
section
variable {prog : Program} {w : World} {A : Around} {c : Cfg} {H0 H h : Heap} {p : Program} {loose : List Str} {mg mb : Str → Option Value}
theorem xinit_spec (T : Top0 w.params p loose mg mb H0) (k0 : H0.StaysIn h) (hroom : A.depth < recursionLimit) {x dx l : Addr} {vs : Array Value} {vt vy : Value} {R : Result → Heap → Prop} (I : Inst h x 394 dx [] 0) (nd : H0.get? dx = none) (nx : H0.get? x = none) (hl : h.IsList l vs) (hz : vs.size ≤ 16000000)
    (k : ∀ h' l' ta tb tc, (∀ b o, b ≠ dx → h.get? b = some o → h'.get? b = some o) → Inst h' x 394 dx (xes w.params ta tb tc vt vy l') 3 → h.get? l' = none → h'.IsList l' vs → R (.ok (.ret .none)) h') : DC (model prog w) A c (.call (.ref 180) ⟨[.ref x, vt, vy, .ref l], []⟩) h R := by
  refine dc_enter (K := hd.heap_39 w.params) (binds := [(Str.ofString "self", .ref x), (Str.ofString "talker", vt), (Str.ofString "sentence_type", vy), (Str.ofString "data", .ref l)]) (T.K.keeps k0) (T.T.nolimit.keeps k0) (by k_is) (by k_is) hroom (fun _ => .of_eq rfl) (locs rfl) (fun L h₁ env hE F hL => ?_)
  have F1 := F.lose dx
  have F2 := F
  have T1 := T.keeps (stays_lose k0 nd)
  clear F
  have nL : L ≠ dx := fun z => by
    have := I.d; rw [← z, ← hL] at this
    exact absurd (Heap.lt_size this) (Nat.lt_irrefl _)
  have ndd : (h.hide dx).get? dx = none := Heap.hide_self _ _
  have Ix : (h.hide dx).get? x = some (instObj 394 dx) := hide_of I.x fun z => by have := I.x; rw [z, I.d] at this; cases this
  have I1 : Inst h₁ x 394 dx [] 0 := ⟨F1.keep _ _ Ix, F2.keep _ _ I.d⟩
  repeat walk_at "d1"
  refine d_setOwn (K := hd.heap_39 w.params) (es' := fun ta => [⟨PyData.keyHash w.params kt, .str kt ta, vt⟩]) (n' := 1) (T1.K.keeps F1.keep) I1 (by k_is) (by k_is) (by k_is) (by k_is) rfl (fun _ => rfl) (fun _ => by simp) (fun h₂ ta I2 sb => ?_)
  have F2 := F1.mut sb ndd nL
  clear I1 F1
  repeat walk_at "d1"
  refine d_setOwn (K := hd.heap_39 w.params) (es' := fun tb => [⟨PyData.keyHash w.params kt, .str kt ta, vt⟩, ⟨PyData.keyHash w.params ks, .str ks tb, vy⟩]) (n' := 2) (T1.K.keeps F2.keep) I2 (by k_is) (by k_is) (by k_is) (by k_is) rfl (fun _ => rfl) (fun _ => by simp) (fun h₃ tb I3 sb => ?_)
  have F3 := F2.mut sb ndd nL
  clear I2 F2
  repeat walk_at "d1"
  have nl : l ≠ dx := fun z => by
    obtain ⟨o, ho, hc, n, hd⟩ := hl
    rw [z, I.d] at ho; cases ho; cases hd
  have hl3 : h₃.IsList l vs := by
    obtain ⟨o, ho, r⟩ := hl
    exact ⟨o, F3.keep _ _ (hide_of ho nl), r⟩
  refine d_listCopy hl3 hz (fun h₄ l' k4 n4 hl' => ?_)
  have F4 := F3.back k4
  have I4 := I3.keeps k4
  repeat walk_at "d1"
  refine d_setOwn (K := hd.heap_39 w.params) (es' := fun tc => xes w.params ta tb tc vt vy l') (n' := 3) (T1.K.keeps F4.keep) I4 (by k_is) (by k_is) (by k_is) (by k_is) rfl (fun _ => rfl) (fun _ => by simp [xes]) (fun h₅ tc I5 sb => ?_)
  have F5 := F4.mut sb ndd nL
  repeat walk_at "d1"
  refine k _ l' ta tb tc (fun b o hb e => F5.keep _ _ (hide_of e hb)) I5 ?_ ?_
  · cases e : h.get? l' with
    | none => rfl
    | some o =>
      by_cases z : l' = dx
      · rw [z, I3.d] at n4; cases n4
      · rw [F3.keep _ _ (hide_of e z)] at n4; cases n4
  · obtain ⟨o, ho, r⟩ := hl'
    refine ⟨o, (sb.2 l' fun z => ?_).trans ho, r⟩
    rw [z, I3.d] at n4; cases n4
end
end
section
theorem tn_q : "tuple.__new__".startsWith "lifetime." = false := by decide +kernel
theorem tn_kind : builtinKind "tuple.__new__" = some .builtinFn := by decide +kernel
theorem tn_split : splitId "tuple.__new__" = some ("tuple", "__new__") := by decide +kernel
theorem tn_args (a b : Value) : argsOk "tuple.__new__" ⟨[a, b], []⟩ := by unfold argsOk; kernel_rfl
/-- a class of the text over tuple, with a __new__ of its own -/
structure TupCls (h : Heap) (C : Addr) : Prop where
  obj : ∃ oc od cd sl, h.get? C = some ⟨oc, od, .cls cd, sl⟩ ∧ cd.hasDel = false ∧ cd.abstract = false ∧ cd.mro = [.ref C, .type "tuple", .type "object"] ∧ cd.bases = [.type "tuple"] ∧ sl.toList[4]? = some (some .none)
theorem tr_cls {P : Params} {h : Heap} (X : (hd.heap_39 P).In h) : TupCls h 361 := by
  obtain ⟨oc, od, cd, sl, ho, e1, e2, e3, e4, e5⟩ : ∃ oc od cd sl, (hd.heap_39 P).lookup 361 = some ⟨oc, od, .cls cd, sl⟩ ∧ cd.hasDel = false ∧ cd.abstract = false ∧ cd.mro = [.ref 361, .type "tuple", .type "object"] ∧ cd.bases = [.type "tuple"] ∧ sl.toList[4]? = some (some .none) :=
    ⟨_, _, _, _, by k_is, rfl, rfl, rfl, rfl, rfl⟩
  exact ⟨oc, od, cd, sl, X _ _ ho, e1, e2, e3, e4, e5⟩
section
variable {M : Model} {prog : Program} {w : World} {A : Around} {h : Heap} {g : Array GenState} {d : Drawn} {t : Nat} {os : OsState} {K : Frag} {R : Result → Shared → Prop} {C : Addr}
theorem TupCls.mro (X : TupCls h C) : Looks M h (mroOf (.ref C)) [.ref C, .type "tuple", .type "object"] := by
  obtain ⟨oc, od, cd, sl, ho, e1, e2, e3, e4, e5⟩ := X.obj
  rw [← e3]
  exact ((Looks.ld (part := none) ho).andThen .now).andThen .now
theorem TupCls.made (X : TupCls h C) : Looks M h (Bind.madeBy (.ref C)) none := by
  obtain ⟨oc, od, cd, sl, ho, e1, e2, e3, e4, e5⟩ := X.obj
  intro A Q E s k q
  unfold Bind.madeBy
  refine wpAny_bind (X.mro A _ E s k ?_)
  rw [List.forIn_cons]
  refine wpAny_bind (wpAny_bind (wpAny_bind (wpAny_bind (wpAny_loadPart (k _ _ ho) (wpAny_pure ?_)))))
  dsimp only
  rw [← Array.getElem?_toList, e5]
  exact wpAny_pure (wpAny_pure (wpAny_pure q))
theorem bestBase_tuple : Builtin.Slots.bestBase [.type "tuple"] = pure (.type "tuple") := by kernel_rfl
theorem TupCls.base (X : TupCls h C) : Looks M h (Bind.staticBase (.ref C)) (.type "tuple") := by
  obtain ⟨oc, od, cd, sl, ho, e1, e2, e3, e4, e5⟩ := X.obj
  intro A Q E s k q
  unfold Bind.staticBase
  refine wpAny_bind (X.mro A _ E s k ?_)
  rw [List.forIn_cons]
  refine wpAny_bind (wpAny_bind (wpAny_bind (X.made A _ E s k ?_)))
  have hc : Looks M h (classData C) cd := (Looks.ld (part := none) ho).andThen .now
  dsimp only
  refine wpAny_bind (hc A _ E s k ?_)
  rw [e4, bestBase_tuple]
  refine wpAny_bind (wpAny_pure ?_)
  refine wpAny_pure ?_
  dsimp only
  rw [List.forIn_cons]
  refine wpAny_bind ?_
  rw [F.called_tuple.made]
  exact wpAny_bind (wpAny_pure (wpAny_pure (wpAny_pure (wpAny_pure q))))
abbrev trObj (C : Addr) (xs : Array Value) : Obj := { cls := .ref C, dict := none, data := .seq xs }
theorem tuple_new_own {tp : Addr} {items : Array Value} (hT : TupCls h C) (ht : IsTup h tp items) (hty : Looks (model prog w) h (isType (.ref C)) true) (hsub : Looks (model prog w) h (isSubtype (.ref C) (.type "tuple")) true)
    (hi : Looks (model prog w) h (typeLookup (.ref C) "__init__") (some (.builtin "object.__init__"))) (hsz : items.size ≤ 1000)
    (hq : ∀ h' tr dx, (∀ b o, h.get? b = some o → h'.get? b = some o) → h.get? tr = none → h'.get? tr = some { cls := .ref C, dict := some dx, data := .seq items } → h'.get? dx = some { cls := .type "dict", data := .dict #[] } → R (.ok (.ret (.ref tr))) ⟨h', g, d, t, os⟩) :
    codeAny (model prog w) A (.call (.builtin "tuple.__new__") ⟨[.ref C, .ref tp], []⟩) R ⟨h, g, d, t, os⟩ := by
  refine codeAny_call_builtin_code (Code.quiet_builtin _ tn_q) ?_
  have made := hT.made (M := model prog w)
  have base := hT.base (M := model prog w)
  have madeT : Bind.madeBy (.type "tuple") = pure (some "tuple.__new__") := F.called_tuple.made
  have here : Looks (model prog w) h (Bind.madeHere "tuple.__new__" (.ref C)) () := by
    unfold Bind.madeHere
    refine base.andThen ?_
    rw [madeT]
    exact Looks.of_pure (by kernel_rfl)
  have args := tn_args (.ref C) (.ref tp)
  simp only [checkBuiltinCall, tn_kind, tn_split]
  repeat (first | simp only [madeT, bne_self_eq_false, Bool.false_eq_true, if_false] | lk)
  refine codeAny_builtin F.entry_tuple_new ?_
  unfold Builtin.«tuple.__new__»
  obtain ⟨o, ho, hc, n, hd⟩ := ht
  obtain ⟨oc, od, cd, sl, hC, e1, e2, e3, e4, e5⟩ := hT.obj
  repeat (first | with_reducible refine wpAny_collect_seq (hsz := by rw [sizeLine_eq]; omega) tp (.inr rfl) ho hc hd fun h1 k1 => ?_ | lk)
  rw [if_neg (by rw [List.size_toArray, Array.length_toList, sizeLine_eq]; omega)]
  show wpAny _ _ (newObjAsIs _ _ _) _ _ _
  unfold newObjAsIs classHasDel
  refine wpAny_bind (wpAny_alloc (wpAny_bind (wpAny_bind (wpAny_load (Heap.get?_push_of_some _ (Heap.get?_push_of_some _ (k1 _ _ hC))) (wpAny_pure ?_)))))
  rw [e1]
  refine wpAny_pure (wpAny_pure ?_)
  refine hq _ _ h1.objs.size (fun b o e => Heap.get?_push_of_some _ (Heap.get?_push_of_some _ (k1 _ _ e))) ?_ ?_ (Heap.get?_push_of_some _ (Heap.get?_push_size _ rfl))
  · rw [Heap.size_push]
    cases e : h.get? (h1.objs.size + 1) with
    | none => rfl
    | some o => exact absurd (Heap.lt_size (k1 _ _ e)) (Nat.not_lt.mpr (Nat.le_succ _))
  · have := Heap.get?_push_size (h := h1.push { cls := .type "dict", data := .dict #[] }) (o := { cls := .ref C, dict := some h1.objs.size, data := .seq items.toList.toArray }) rfl
    rw [Array.toArray_toList] at this
    rw [Array.toArray_toList]; exact this

theorem tr_call {v1 v2 v3 v4 : Value} (X : (hd.heap_39 w.params).In h)
    (hq : codeAny (model prog w) (A.under (.builtin "type.__call__" ⟨[.ref 361, v1, v2, v3, v4], []⟩)) (.call (.ref 305) ⟨[.ref 361, v1, v2, v3, v4], []⟩) (fun r s' => match r with
      | .ok (.ret (.ref tr)) => ∃ dx xs, s'.heap.get? tr = some { cls := .ref 361, dict := some dx, data := .seq xs } ∧ (hd.heap_39 w.params).In s'.heap ∧ R (.ok (.ret (.ref tr))) s'
      | .ok _ => False | .error e => R (.error e) s') ⟨h, g, d, t + 1, os⟩) :
    codeAny (model prog w) A (.call (.ref 361) ⟨[v1, v2, v3, v4], []⟩) R ⟨h, g, d, t, os⟩ := by
  have hT := tr_cls X
  obtain ⟨oc, od, cd, sl, hC, e1, e2, e3, e4, e5⟩ := hT.obj
  have made := hT.made (M := model prog w)
  have hm := hT.mro (M := model prog w)
  have call := looks_specialIn (M := model prog w) X (show specialIn (hd.heap_39 w.params) (.ref 361) "__call__" = some (some (.builtin "type.__call__")) by k_is)
  have typ := looks_instIn (M := model prog w) X (show instIn (hd.heap_39 w.params) (.ref 361) (.type "type") = some true by k_is)
  refine codeAny_of_tree ?_
  show wpAny _ _ (callAny (.ref 361) _) _ _ _
  refine nd_load hC ?_
  show wpAny _ _ (callAny.viaDunder (.ref 361) _) _ _ _
  unfold callAny.viaDunder
  refine wpAny_bind (call.at ?_)
  dsimp only
  rw [tc_bind]
  refine wpAny_bind (wpAny_pure (wpAny_bind (wpAny_pure ?_)))
  refine wpAny_pure (a := Fin.again (.call (.builtin "type.__call__") ⟨[.ref 361, v1, v2, v3, v4], []⟩)) (And.intro rfl ?_)
  refine codeAny_call_builtin_at (Code.quiet_builtin _ (by decide +kernel)) entry_typeCall (check_slot tc_kind tc_split typ (tc_args _ _ _) ?_)
  unfold Builtin.«type.__call__»
  refine wpAny_bind (hm.at ?_)
  dsimp only
  rw [if_neg (by decide)]
  refine wpAny_bind (made.at ?_)
  dsimp only
  have in1 : ((A.under (.builtin "type.__call__" ⟨[.ref 361, v1, v2, v3, v4], []⟩)).in1) = (A.under (.builtin "type.__call__" ⟨[.ref 361, v1, v2, v3, v4], []⟩)).in1 := rfl
  refine wpAny_bind (cls_bind (mc := .type "type") X (by k_is) (g := .builtin "staticmethod.__get__") (a := .ref 362) (obj := .none) (tp := .ref 361) (by k_is) ?_)
  refine wpAny_call (sm_get (f := .ref 305) (rest := []) X (by k_is) (handed_on (by rfl) ?_))
  refine wpAny_bind (wpAny_holding (wpAny_call (codeAny_mono hq fun r s' z => ?_)))
  rcases r with e | (v | _ | _ | v) <;> first | exact z | exact z.elim | skip
  cases v <;> first | exact z.elim | skip
  rename_i tr
  obtain ⟨dx, xs, ht, X', z⟩ := z
  obtain ⟨h', g', d', t', os'⟩ := s'
  have t1 : Looks (model prog w) h' (typeOf (.ref tr)) (.ref 361) := (Looks.ld ht).andThen .now
  have s1 := looks_subIn (M := model prog w) X' (show subIn (hd.heap_39 w.params) (.ref 361) (.ref 361) = some true by k_is)
  have s2 := looks_subIn (M := model prog w) X' (show subIn (hd.heap_39 w.params) (.ref 361) (.type "object") = some true by k_is)
  have i1 := looks_findIn (M := model prog w) X' (show findIn (hd.heap_39 w.params) (.ref 361) "__init__" = some (some (.builtin "object.__init__")) by k_is)
  have b1 : Looks (model prog w) h' (bindSpecial (.builtin "object.__init__") (.ref tr)) (.builtin "object.__init__", [.ref tr]) := Looks.of_pure (oi_bind _)
  have ot : Looks (model prog w) h' (isInstance (.ref tr) (.type "object")) true := t1.andThen s2
  have hT' := (tr_cls X').made (M := model prog w)
  have fin : ∀ A', codeAny (model prog w) A' (.call (.builtin "object.__init__") ⟨[.ref tr, v1, v2, v3, v4], []⟩) (fun r s' => match r with
      | .ok (.ret v) => v = .none ∧ R (.ok (.ret (.ref tr))) s' | .ok _ => False | .error e => R (.error e) s') ⟨h', g', d', t', os'⟩ := by
    intro A'
    refine codeAny_call_builtin oi_plain entry_oi (@check_slot (model prog w) _ _ _ "object.__init__" "object" "__init__" (.ref tr) [v1, v2, v3, v4] [] _ oi_kind oi_split ot (by unfold argsOk; kernel_rfl) ?_)
    unfold Builtin.«object.__init__»
    repeat lk
    exact ⟨rfl, z⟩
  unfold isInstance callSpecial? specialOf
  repeat (first | with_reducible refine wpAny_call ?_ | lk)
  refine codeAny_mono (fin _) fun r s' z => ?_
  rcases r with e | (v | _ | _ | v) <;> first | exact z | exact z.elim | skip
  obtain ⟨rfl, z⟩ := z
  exact wpAny_pure (wpAny_pure z)
end
end
section
abbrev trO (dx : Addr) (xs : Array Value) : Obj := { cls := .ref 361, dict := some dx, data := .seq xs }
structure IsTr (h : Heap) (tr : Addr) (xs : Array Value) : Prop where
  o : ∃ dx, h.get? tr = some (trO dx xs) ∧ h.get? dx = some (dictOf [] 0)
theorem IsTr.keeps {h h' : Heap} {tr : Addr} {xs : Array Value} (I : IsTr h tr xs) (k : h.StaysIn h') : IsTr h' tr xs := ⟨let ⟨dx, e⟩ := I.o; ⟨dx, k _ _ e.1, k _ _ e.2⟩⟩
section
variable {prog : Program} {w : World} {A : Around} {c : Cfg} {H0 H h : Heap} {L : Addr} {bs : List (Str × Value)} {p : Program} {loose : List Str} {mg mb : Str → Option Value} {E : Value → Heap → Prop}
theorem none_back {h : Heap} {L : Addr} {h' : Heap} {bs : List (Str × Value)} (F : FrL h L h' bs) {a : Addr} (n : h'.get? a = none) : h.get? a = none := none_of_stays F.keep n
theorem d_methType {T : String} {v : Value} {name : Str} {pl : Sem Bool} {Q : Value × List Value → Heap → Prop} (F : FrL H L h bs) (e : findCls [] (.type T) (.type "type") name = some (.val v)) (q : Q (v, []) h)
    (ht : typeOf (.type T) = pure (.type "type") := by kernel_rfl) (hs : Manifest.isStub T = false := by decide +kernel) (hh : handedIn v = true := by rfl) :
    D (model prog w) A c (getMethod (.type T) name pl) h Q E := ⟨fun tk pp => by
  obtain ⟨m, n, _⟩ := F.ns
  have n0 : ∀ b o, ({ } : Heap).get? b ≠ some o := fun b o e => by simp [Heap.get?] at e
  exact method_type (s := c.st h tk) (h₀ := { }) (L := L) (m := m) (K := []) ⟨n, fun b o e => absurd e (n0 b o), Nat.zero_le _⟩ (fun b o e => nomatch e) ht hs e hh (.mk (Nat.succ_pos _) q)⟩
theorem tm_find : findCls [] (.type "tuple") (.type "type") (Str.ofString "__new__") = some (.val (.builtin "tuple.__new__")) := by kernel_rfl
theorem d_tupleNew {a : Addr} {items : Array Value} {Q : Value → Heap → Prop} (X : (hd.heap_39 w.params).In h) (ht : IsTup h a items) (hz : items.size ≤ 1000)
    (q : ∀ h' tr, h.StaysIn h' → h.get? tr = none → IsTr h' tr items → Q (.ref tr) h') : D (model prog w) A c (call (.builtin "tuple.__new__") [.ref 361, .ref a]) h Q E := ⟨fun tk pp =>
  wpAny_call (tuple_new_own (tr_cls X) ht (by obtain ⟨oc, od, cd, sl, hC, e1, e2, e3, e4, e5⟩ := (tr_cls X).obj; exact (Looks.ld (part := none) hC).andThen .now) (looks_subIn X (by k_is)) (looks_findIn X (by k_is)) hz fun h' tr dx k n e e' => .mk pp (q h' tr k n ⟨dx, e, e'⟩))⟩
theorem trnew_spec (T : Top0 w.params p loose mg mb h) (hroom : A.depth < recursionLimit) {v1 v2 v3 v4 : Value} {R : Result → Heap → Prop}
    (k : ∀ h' tr, h.StaysIn h' → h.get? tr = none → IsTr h' tr #[v1, v2, v3, v4] → R (.ok (.ret (.ref tr))) h') : DC (model prog w) A c (.call (.ref 305) ⟨[.ref 361, v1, v2, v3, v4], []⟩) h R := by
  refine dc_enter (K := hd.heap_39 w.params) (binds := [(Str.ofString "_cls", .ref 361), (Str.ofString "type", v1), (Str.ofString "value", v2), (Str.ofString "units", v3), (Str.ofString "id", v4)]) T.K T.T.nolimit (by k_is) (by k_is) hroom (fun _ => .of_eq rfl) (locs rfl) (fun L h₁ env hE F hL => ?_)
  repeat walk_at "d1"
  refine d_methType F tm_find ?_
  repeat walk_at "d1"
  refine d_newTuple F (by simp) (fun H' h' a k1 F2 k2 k3 k4 => ?_)
  repeat walk_at "d1"
  refine d_tupleNew (T.K.keeps (stays_trans k1 F2.keep)) (k4.keeps F2.keep) (by simp) (fun h2 tr k5 n5 It => ?_)
  exact k h2 tr (stays_trans k1 (stays_trans F2.keep k5)) (none_of_stays (stays_trans k1 F2.keep) n5) It
theorem tc_weight (C : Addr) (rest : List Value) (kw : List (Str × Value)) : (Code.builtin "type.__call__" ⟨.ref C :: rest, kw⟩).weight = 1 := by kernel_rfl
theorem under_tc (A : Around) (C : Addr) (rest : List Value) (kw : List (Str × Value)) : (A.under (.builtin "type.__call__" ⟨.ref C :: rest, kw⟩)).depth = A.depth + 1 := by
  show A.depth + (Code.builtin "type.__call__" _).weight = _
  rw [tc_weight]
theorem trans_spec (T : Top0 w.params p loose mg mb h) (hroom : A.depth + 1 < recursionLimit) {v1 v2 v3 v4 : Value} {R : Result → Heap → Prop}
    (k : ∀ h' tr, h.StaysIn h' → h.get? tr = none → IsTr h' tr #[v1, v2, v3, v4] → R (.ok (.ret (.ref tr))) h') : DC (model prog w) A c (.call (.ref 361) ⟨[v1, v2, v3, v4], []⟩) h R := ⟨fun tk pp =>
  tr_call T.K (codeAny_mono ((trnew_spec (c := c) (A := A.under (.builtin "type.__call__" ⟨[.ref 361, v1, v2, v3, v4], []⟩)) (R := fun r h' => match r with
      | .ok (.ret (.ref tr)) => IsTr h' tr #[v1, v2, v3, v4] ∧ h.StaysIn h' ∧ R (.ok (.ret (.ref tr))) h'
      | _ => False) T (by rw [under_tc]; exact hroom) fun h' tr k1 n1 I => ⟨I, k1, k h' tr k1 n1 I⟩).run (tk + 1) (Nat.succ_pos _)) fun r s' z => by
    obtain ⟨h', tk', p', rfl, z⟩ := z
    rcases r with e | (v | _ | _ | v) <;> first | exact z | exact z.elim | skip
    cases v <;> first | exact z.elim | skip
    obtain ⟨⟨dx, e, _⟩, k1, z⟩ := z
    exact ⟨dx, _, e, T.K.keeps k1, .mk p' z⟩)⟩
end
end
section
/-- one XDR sentence -/
structure Sen (P : Params) (h : Heap) (x dx l : Addr) (tk st : Value) (vs : Array Value) : Prop where
  I : ∃ ta tb tc, Inst h x 394 dx (xes P ta tb tc tk st l) 3
  l : h.IsList l vs
theorem isl_keeps {h h' : Heap} {l : Addr} {vs : Array Value} (I : h.IsList l vs) (k : h.StaysIn h') : h'.IsList l vs := let ⟨o, e, r⟩ := I; ⟨o, k _ _ e, r⟩
theorem Sen.keeps {P : Params} {h h' : Heap} {x dx l : Addr} {tk st : Value} {vs : Array Value} (I : Sen P h x dx l tk st vs) (k : h.StaysIn h') : Sen P h' x dx l tk st vs :=
  ⟨let ⟨a, b, c, i⟩ := I.I; ⟨a, b, c, i.keeps k⟩, isl_keeps I.l k⟩
/-- a cut of a list -/
theorem lpick (items : Array Value) (lo hi : Option (Nat × Tok)) :
    slicePick items (lo.map fun y => (y.1 : Int)) (hi.map fun y => (y.1 : Int)) none = ((items.toList.take ((hi.map (·.1)).getD items.size)).drop ((lo.map (·.1)).getD 0)).toArray := by
  have e : sliceBounds (lo.map fun y => (y.1 : Int)) (hi.map fun y => (y.1 : Int)) none items.size = (((min ((lo.map (·.1)).getD 0) items.size : Nat) : Int), ((min ((hi.map (·.1)).getD items.size) items.size : Nat) : Int), 1) := by
    cases lo with
    | none => cases hi with
      | none => simp [sliceBounds]
      | some b => simp [sliceBounds]; omega
    | some a => cases hi with
      | none => simp [sliceBounds]; omega
      | some b => simp [sliceBounds]; omega
  unfold slicePick
  rw [e]
  simp only [sliceRange_one, pick_run]
  congr 1
  generalize (hi.map (·.1)).getD items.size = b
  generalize (lo.map (·.1)).getD 0 = a
  rw [List.drop_take]
  by_cases h : a ≤ items.size
  · rw [Nat.min_eq_left h]
    by_cases h2 : b ≤ items.size
    · rw [Nat.min_eq_left h2]
    · rw [Nat.min_eq_right (by omega), List.take_of_length_le (by simp <;> omega), List.take_of_length_le (by simp <;> omega)]
  · have e1 : items.toList.drop (min a items.size) = [] := List.drop_of_length_le (by simp; omega)
    have e2 : items.toList.drop a = [] := List.drop_of_length_le (by simp; omega)
    rw [e1, e2]; simp
section
variable {M : Model} {prog : Program} {w : World} {A : Around} {c : Cfg} {H h : Heap} {L : Addr} {bs : List (Str × Value)} {E : Value → Heap → Prop} {env : Env} {pos p : Pos} {Q : Value → Heap → Prop} {K : Frag}
theorem d_tailSlList {value slice : Expr} {l a : Addr} {items : Array Value} {lo hi : Option (Nat × Tok)} (hl : h.IsList l items) (hs : h.IsSliceOf a (partV lo) (partV hi) .none) (hz : items.size ≤ 16000000)
    (q : ∀ h' D, h.StaysIn h' → h.get? D = none → h'.IsList D ((items.toList.take ((hi.map (·.1)).getD items.size)).drop ((lo.map (·.1)).getD 0)).toArray → Q (.ref D) h')
    (he : ∃ ops, subscripted slice false (.ref l) (.ref a) = operate ops (getItem (.ref l) (.ref a)) := by exact ⟨_, rfl⟩) :
    D (model prog w) A c (subscriptTail value slice (.ref l) (.ref a)) h Q E := by
  obtain ⟨ops, he⟩ := he
  refine ⟨fun tk pp => tail_any (s := c.st h tk) (Heap.IsList.typeIs hl) slot_list_getitem.lookup (wpAny_getItem_list_slice (lo := lo.map fun y => (y.1 : Int)) (hi := hi.map fun y => (y.1 : Int)) (st := none) hl hs ?_ ?_ ?_ (by decide) ?_ (by rw [sizeLine_eq]; omega)) he⟩
  · cases lo with
    | none => exact .none
    | some y => exact .int _ _
  · cases hi with
    | none => exact .none
    | some y => exact .int _ _
  · exact .none
  · rw [lpick]
    exact .mk (h := h.push _) pp (q _ _ (stays_push _) (not_get_size h) ⟨_, Heap.get?_push_size _ rfl, rfl, _, rfl⟩)
theorem d_withStar {f : Value} {first : List Value} {e : Expr} (hk : keepIn K f = true) (k : D (model prog w) A c (eval e env) h (fun v h₁ => ∃ a items, v = .ref a ∧ h₁.IsList a items ∧ items.size ≤ 16000000 ∧ ∀ h₂, h₁.StaysIn h₂ → K.In h₂ ∧ D (model prog w) A c (call f (first ++ items.toList)) h₂ Q E) E)
    (he : starEach [.Starred e p] env = [(true, eval e env)] := by rfl) : D (model prog w) A c (callWith pos f first (backTo pos (starEach [.Starred e p] env)) []) h Q E := by
  rw [he]
  refine ⟨fun tk pp => ks_call rfl (keeps_K hk) (ks_lone (wpAny_mono (k.run tk pp) (fun v s₁ ⟨h₁, tk₁, p₁, e, z⟩ => ?_) fun _ _ e => e))⟩
  obtain ⟨a, items, rfl, ⟨o, ho, hc, n, hd⟩, hz, z⟩ := z
  subst e
  unfold StarOf notIterableAtAll
  refine wpAny_bind (wpAny_specialOf (s := c.st h₁ tk₁) ⟨o, ho, hc⟩ PySem.F.slot_list_iter.lookup (wpAny_pure ⟨rfl, ?_⟩))
  exact wpAny_collect_seq (s := c.st h₁ tk₁) a (.inl rfl) ho hc hd (fun h' hk => ⟨(z h' hk).1, (z h' hk).2.run tk₁ p₁⟩) (by rw [sizeLine_eq]; omega)
theorem d_lenList {a : Addr} {items : Array Value} (ha : h.IsList a items) (hz : items.size ≤ 16000000) (q : ∀ t, Q (.int items.size t) h) : D (model prog w) A c (call (.builtin "len") [.ref a]) h Q E := ⟨fun tk pp => Calls.call_len_list (s := c.st h tk) ha (by omega) (.mk (h := h) (Nat.succ_pos _) (q _))⟩
end
section
variable {prog : Program} {w : World} {A : Around} {c : Cfg} {h : Heap} {p : Program} {loose : List Str} {mg mb : Str → Option Value} {x dx l : Addr} {tk st : Value} {vs : Array Value}
theorem numtr_spec (T : Top0 w.params p loose mg mb h) (hroom : A.depth + 9 < recursionLimit) (Sn : Sen w.params h x dx l tk st vs) (hz : vs.size ≤ 16000000) {R : Result → Heap → Prop}
    (k : ∀ h' t, h.StaysIn h' → R (.ok (.ret (.int (vs.size / 4 : Nat) t))) h') : DC (model prog w) A c (.call (.ref 383) ⟨[.ref x], []⟩) h R := by
  refine dc_enter (K := hd.heap_39 w.params) (binds := [(Str.ofString "self", .ref x)]) T.K T.T.nolimit (by k_is) (by k_is) (by omega) (fun _ => .of_eq rfl) (locs rfl) (fun L h₁ env hE F hL => ?_)
  repeat walk_at "d1"
  obtain ⟨⟨ta, tb, tc, I⟩, Il⟩ := Sn.keeps F.keep
  refine d_getOwn (K := hd.heap_39 w.params) (T.K.keeps F.keep) I (by k_is) (by k_is) (attr := none) (by k_is) rfl (v := .ref l) rfl rfl ?_
  repeat walk_at "d1"
  refine d_lenList Il hz (fun t => ?_)
  repeat walk_at "d1"
  rw [show ((vs.size : Int)).fdiv 4 = ((vs.size / 4 : Nat) : Int) by rw [Int.fdiv_eq_ediv_of_nonneg _ (by decide)]; rfl]
  exact k _ _ F.keep
theorem gettr_spec (T : Top0 w.params p loose mg mb h) (hroom : A.depth + 9 < recursionLimit) (Sn : Sen w.params h x dx l tk st vs) (hz : vs.size ≤ 1000) {i : Nat} {t : Tok} (hi : 4 * i + 4 ≤ vs.size) {R : Result → Heap → Prop}
    (k : ∀ h' tr v1 v2 v3 v4, h.StaysIn h' → h.get? tr = none → vs[4 * i]? = some v1 → vs[4 * i + 1]? = some v2 → vs[4 * i + 2]? = some v3 → vs[4 * i + 3]? = some v4 → IsTr h' tr #[v1, v2, v3, v4] → R (.ok (.ret (.ref tr))) h') :
    DC (model prog w) A c (.call (.ref 391) ⟨[.ref x, .int i t], []⟩) h R := by
  refine dc_enter (K := hd.heap_39 w.params) (binds := [(Str.ofString "self", .ref x), (Str.ofString "i", .int i t)]) T.K T.T.nolimit (by k_is) (by k_is) (by omega) (fun _ => .of_eq rfl) (locs rfl) (fun L h₁ env hE F hL => ?_)
  repeat walk_at "d1"
  refine d_withStar (K := hd.heap_39 w.params) (by k_is) ?_
  repeat walk_at "d1"
  obtain ⟨⟨ta, tb, tc, I⟩, Il⟩ := Sn.keeps F.keep
  refine d_getOwn (K := hd.heap_39 w.params) (T.K.keeps F.keep) I (by k_is) (by k_is) (attr := none) (by k_is) rfl (v := .ref l) rfl rfl ?_
  repeat walk_at "d1"
  have e1 : ((i : Int) * 4) = ((4 * i : Nat) : Int) := by omega
  have e2 : (((4 * i : Nat) : Int) + 4) = ((4 * i + 4 : Nat) : Int) := by omega
  repeat walk_at "d1"
  rw [e1, e2]
  refine d_mkSlice F (fun h₂ a F2 hs k2 => ?_)
  refine d_tailSlList (lo := some (4 * i, _)) (hi := some (4 * i + 4, _)) (isl_keeps Il k2) hs (by omega) (fun h₃ D k3 n3 hD => ?_)
  have k4 := stays_trans F2.keep k3
  have sz : 4 ≤ ((vs.toList.take (4 * i + 4)).drop (4 * i)).length := by simp; omega
  obtain ⟨v1, v2, v3, v4, ev⟩ : ∃ v1 v2 v3 v4, (vs.toList.take (4 * i + 4)).drop (4 * i) = [v1, v2, v3, v4] := by
    have : ((vs.toList.take (4 * i + 4)).drop (4 * i)).length = 4 := by simp; omega
    match hh : (vs.toList.take (4 * i + 4)).drop (4 * i), this with
    | [v1, v2, v3, v4], _ => exact ⟨v1, v2, v3, v4, rfl⟩
  have at_ : ∀ j, j < 4 → vs[4 * i + j]? = [v1, v2, v3, v4][j]? := fun j hj => by
    rw [← ev, List.getElem?_drop, List.getElem?_take, if_pos (by omega), Array.getElem?_toList]
  refine ⟨D, _, rfl, hD, by simp; omega, fun h₄ k5 => ⟨T.K.keeps (stays_trans k4 k5), ?_⟩⟩
  dsimp only [Option.map_some, Option.getD_some]
  rw [ev]
  refine d_call (trans_spec (T.keeps (stays_trans k4 k5)) (by show A.depth + 1 + 1 < _; omega) fun h' tr k6 n6 It => ?_)
  exact k h' tr v1 v2 v3 v4 (stays_trans (stays_trans k4 k5) k6) (none_of_stays (stays_trans k4 k5) n6) (at_ 0 (by omega)) (at_ 1 (by omega)) (at_ 2 (by omega)) (at_ 3 (by omega)) It
end
end
section
/-! the checksum -/
theorem nat_or_and (x : Nat) : ∀ y : Nat, (x ||| y) = (x ^^^ y) + (x &&& y) := by
  induction x using Nat.strongRecOn with
  | ind x ih =>
    intro y
    by_cases h0 : x = 0
    · subst h0; simp
    · have e := ih (x / 2) (Nat.div_lt_self (by omega) (by decide)) (y / 2)
      have d1 : (x ||| y) / 2 = (x / 2 ||| y / 2) := Nat.or_div_two
      have d2 : (x ^^^ y) / 2 = (x / 2 ^^^ y / 2) := Nat.xor_div_two
      have d3 : (x &&& y) / 2 = (x / 2 &&& y / 2) := Nat.and_div_two
      have m1 : (x ||| y) % 2 = (x ^^^ y) % 2 + (x &&& y) % 2 := by
        rw [show (x ||| y) % 2 = (x % 2 ||| y % 2) from Nat.or_mod_two_pow (n := 1), show (x ^^^ y) % 2 = (x % 2 ^^^ y % 2) from Nat.xor_mod_two_pow (n := 1), show (x &&& y) % 2 = (x % 2 &&& y % 2) from Nat.and_mod_two_pow (n := 1)]
        rcases Nat.mod_two_eq_zero_or_one x with a | a <;> rcases Nat.mod_two_eq_zero_or_one y with b | b <;> rw [a, b] <;> decide
      omega
theorem bitXor_nat (x y : Nat) : Builtin.bitXor (x : Int) (y : Int) = ((x ^^^ y : Nat) : Int) := by
  have e := nat_or_and x y
  have a : Builtin.bitAnd (x : Int) (y : Int) = ((x &&& y : Nat) : Int) := by
    unfold Builtin.bitAnd; simp
  have o : Builtin.bitOr (x : Int) (y : Int) = ((x ||| y : Nat) : Int) := by
    unfold Builtin.bitOr Builtin.bitAnd
    have a1 : decide (0 ≤ Builtin.bitNot (x : Int)) = false := by unfold Builtin.bitNot; simp; omega
    have a2 : decide (0 ≤ Builtin.bitNot (y : Int)) = false := by unfold Builtin.bitNot; simp; omega
    have b1 : (Builtin.bitNot (Builtin.bitNot (x : Int))).toNat = x := by unfold Builtin.bitNot; omega
    have b2 : (Builtin.bitNot (Builtin.bitNot (y : Int))).toNat = y := by unfold Builtin.bitNot; omega
    rw [a1, a2]
    show Builtin.bitNot (Builtin.bitNot _) = _
    rw [b1, b2]
    unfold Builtin.bitNot; omega
  unfold Builtin.bitXor
  rw [a, o]; omega
def xs (x : List Nat) : Nat := x.foldl (· ^^^ ·) 0
theorem xs_take (x : List Nat) (i : Nat) (k : Nat) (h : x[i]? = some k) : xs (x.take (i + 1)) = xs (x.take i) ^^^ k := by
  unfold xs
  rw [List.take_add_one, h, List.foldl_append]; rfl
section
variable {prog : Program} {w : World} {A : Around} {c : Cfg} {H h : Heap} {p : Program} {loose : List Str} {mg mb : Str → Option Value} {E : Value → Heap → Prop} {t : Tok}
theorem lawsum_spec (T : Top0 w.params p loose mg mb h) (hroom : A.depth < recursionLimit) (hA : A.handled = none) (x : List Nat) (t : Tok) {R : Result → Heap → Prop}
    (k : ∀ h' t, h.StaysIn h' → R (.ok (.ret (.int (xs x : Nat) t))) h') : DC (model prog w) A c (.call (.ref 438) ⟨[.str (S x) t], []⟩) h R := by
  refine dc_enter (binds := [(Str.ofString "said", .str (S x) t)]) T.K T.T.nolimit (by k_is) (by k_is) hroom (fun _ => .of_eq rfl) (locs rfl) (fun L h₁ env hE F hL => ?_)
  repeat walk_at "d1"
  refine d_for ?_
  walk_at "dn"
  refine d_iterStr (fun h₂ I St k2 n2 W st => ?_)
  rename_i h₁' F1
  have nL : h.get? L = none := F.out
  have nI : h.get? I = none := by
    cases e : h.get? I with
    | none => rfl
    | some o => rw [F1.keep _ _ e] at n2; cases n2
  have IL : I ≠ L := ne_of_new n2 F1.at
  have F2 := F1.back k2
  refine dc_for W hA (fun i h' => ∃ bs t, FrL h L h' bs ∧ bs.lookup (Str.ofString "total") = some (.int (xs (x.take i) : Nat) t)) st ⟨_, _, F2, by rfl⟩ ?_ ?_
  · rintro i v h' h₃ hi ⟨k', u, hk, rfl⟩ ⟨bs, t', F', hb⟩ kk st'
    have F3 := F'.but kk (by simp [Ne.symm IL]) (by simp [nI])
    have F4 := F3.all
    refine d_store hE F4 (fun h₄ F5 => ?_)
    walk_at "d1"
    refine d_aug (d_locn hE F5 (v := .int (xs (x.take i) : Nat) t') (by rw [List.lookup_cons]; exact hb) ?_)
    have T4 := T.keeps F3.into
    repeat walk_at "d1"
    rename_i h₅ F6
    rw [bitXor_nat, ← xs_take x i k' hk] at F6
    exact ⟨src_kept W st' (by simp [Ne.symm IL]) F6.keep, _, _, F6.down F3.into F.out, by rfl⟩
  · rintro h' h₃ ⟨bs, t', F', hb⟩ kk
    have F3 := F'.but kk (by simp [Ne.symm IL]) (by simp [nI])
    repeat walk_at "d1"
    refine d_loc hE F3 hb ?_
    rw [List.take_length]
    exact k _ _ F3.keep
end
end
section
namespace FM
theorem owner_map : Manifest.owners.lookup (String.ofList ['p', 'a', 'm'].reverse) = some Manifest.sig_map := by kernel_rfl
theorem slot_map_init : Slot "map" "__init__" "object.__init__" :=
  .of (owner := "object") (n := "__init__") (by rw [typeLookup_type, builtinLookup_eq_fast]; kernel_rfl) (by decide +kernel) (by decide +kernel) (by decide +kernel)
    (by first | exact .inl (by decide +kernel) | exact .inr (by decide +kernel)) (by rw [isSubtype_type]; kernel_rfl)
theorem slot_map_next : Slot "map" "__next__" "map.__next__" :=
  .of (owner := "map") (n := "__next__") (by rw [typeLookup_type, builtinLookup_eq_fast]; kernel_rfl) (by decide +kernel) (by decide +kernel) (by decide +kernel)
    (by first | exact .inl (by decide +kernel) | exact .inr (by decide +kernel)) (by rw [isSubtype_type]; kernel_rfl)
theorem slot_map_iter : Slot "map" "__iter__" "map.__iter__" :=
  .of (owner := "map") (n := "__iter__") (by rw [typeLookup_type, builtinLookup_eq_fast]; kernel_rfl) (by decide +kernel) (by decide +kernel) (by decide +kernel)
    (by first | exact .inl (by decide +kernel) | exact .inr (by decide +kernel)) (by rw [isSubtype_type]; kernel_rfl)
theorem entry_map_next : entryFor table "map.__next__" = some Builtin.«map.__next__» := entryFor_of_tree (by kernel_rfl)
theorem entry_map_iter : entryFor table "map.__iter__" = some Builtin.«dict_keyiterator.__iter__» :=
  entryFor_alias (id' := "dict_keyiterator.__iter__") (by kernel_rfl) (by first | rfl | decide +kernel | (unfold String.splitOn; simp +decide [String.splitOnAux])) (by decide +kernel) (by kernel_rfl)
theorem args_map_next (a : Value) : argsOk "map.__next__" ⟨[a], []⟩ := by
  unfold argsOk; rw [signature?_of (id := "map.__next__") (n := ['_', '_', 't', 'x', 'e', 'n', '_', '_']) (o := ['p', 'a', 'm']) (by kernel_rfl) owner_map]; kernel_rfl
theorem args_map_iter (a : Value) : argsOk "map.__iter__" ⟨[a], []⟩ := by
  unfold argsOk; rw [signature?_of (id := "map.__iter__") (n := ['_', '_', 'r', 'e', 't', 'i', '_', '_']) (o := ['p', 'a', 'm']) (by kernel_rfl) owner_map]; kernel_rfl
theorem mro_map : mroOf (.type "map") = pure [.type "map", .type "object"] := by rw [mroOf_type]; kernel_rfl
theorem lookup_map_new : typeLookup (.type "map") "__new__" = pure (some (.builtin "map.__new__")) := by rw [typeLookup_type, builtinLookup_eq_fast]; kernel_rfl
theorem called_map : TypeCalled "map" "map.__new__" "object.__init__" :=
  ⟨by decide +kernel, by decide +kernel, ⟨_, _, mro_map⟩, madeBy_type mro_map lookup_map_new (by decide +kernel), by decide +kernel, by rw [isSubtype_type]; kernel_rfl, slot_map_init⟩
theorem typeCall_map (a b : Value) : checkTypeCall "map" ⟨[a, b], []⟩ = pure () := by kernel_rfl
theorem newCall_map (a b : Value) : checkBuiltinCall "map.__new__" ⟨[.type "map", a, b], []⟩ = pure () := by kernel_rfl
theorem entry_map_new : entryFor table "map.__new__" = some Builtin.«map.__new__» := entryFor_of_tree (by kernel_rfl)
theorem sub_map : isSubtype (.type "map") (.type "map") = pure true := by rw [isSubtype_type]; kernel_rfl
theorem entry_reduce : entryFor table "_functools.reduce" = some Builtin.«_functools.reduce» := entryFor_of_tree (by kernel_rfl)
theorem entry_reduce_loop : entryFor table "_functools.reduce.loop" = some Builtin.«_functools.reduce.loop» := entryFor_of_tree (by kernel_rfl)
theorem kind_reduce : builtinKind "_functools.reduce" = none := by decide +kernel
theorem plain_reduce : plainId "_functools.reduce" = true := by decide +kernel
theorem plain_reduce_loop : plainId "_functools.reduce.loop" = true := by decide +kernel
theorem args_reduce (a b d : Value) : argsOk "_functools.reduce" ⟨[a, b, d], []⟩ := by unfold argsOk; kernel_rfl
theorem entry_xor : entryFor table "_operator.xor" = some Builtin.«_operator.xor» := entryFor_of_tree (by kernel_rfl)
theorem kind_xor : builtinKind "_operator.xor" = none := by decide +kernel
theorem plain_xor : plainId "_operator.xor" = true := by decide +kernel
theorem args_xor (a b : Value) : argsOk "_operator.xor" ⟨[a, b], []⟩ := by unfold argsOk; kernel_rfl
end FM
end
section
theorem sub_map' {M : Model} {h : Heap} : Looks M h (isSubtype (.type "map") (.type "map")) true := Looks.of_pure FM.sub_map
theorem meets_map_new (f : Value) (x : Str) (t : Tok) :
    Meets (Builtin.«map.__new__» ⟨[.type "map", f, .str x t], []⟩) (fun _ R s =>
      R (.ok (.ret (.ref (s.heap.objs.size + 2))))
        { s with heap := ((s.heap.push { cls := .type (strIterType x), data := .fields #[.str x t, .int 0 0] }).push { cls := .type "tuple", data := .seq #[.ref s.heap.objs.size] }).push { cls := .type "map", data := .fields #[.ref (s.heap.objs.size + 1), f] } }) :=
  .of_wp fun prog w A R s h => by
    obtain ⟨hp, g, d, tk, os⟩ := s
    have hsub := sub_map' (M := model prog w) (h := hp)
    unfold Builtin.«map.__new__» Builtin.SmallTypes.newClass
    iterate 10 lk
    refine wpAny_pure ?_
    dsimp only
    refine wpAny_bind (wpAny_of_eq (a := ()) (by rfl) ?_)
    lk
    lk
    show wpAny _ _ (Builtin.SmallTypes.iterAll [.str x t]) _ _ _
    unfold Builtin.SmallTypes.iterAll
    refine wpAny_bind ?_
    rw [List.forIn_cons]
    refine wpAny_bind (wpAny_bind (wpAny_holding (wpAny_pyIter_strU ?_)))
    refine wpAny_pure ?_
    dsimp only
    rw [List.forIn_nil]
    refine wpAny_pure (wpAny_pure ?_)
    refine wpAny_bind (wpAny_newTuple ?_ (by show 1 ≤ sizeLine; decide))
    refine wpAny_bind ?_
    unfold Builtin.SmallTypes.newRecord
    dsimp only
    refine wpAny_newObj_type (wpAny_pure ⟨_, rfl, ?_⟩)
    simp only [Heap.size_push] at h ⊢
    exact h
/-- the state of a map over a text -/
structure IsMap (h : Heap) (m T I : Addr) (f : Value) : Prop where
  m : h.get? m = some { cls := .type "map", data := .fields #[.ref T, f] }
  T : h.get? T = some { cls := .type "tuple", data := .seq #[.ref I] }
section
variable {prog : Program} {w : World} {A : Around} {c : Cfg} {H h : Heap} {E : Value → Heap → Prop} {t : Tok}
theorem d_mapNew {f : Value} {x : List Nat} {Q : Value → Heap → Prop} (k : ∀ h' m T I St, h.StaysIn h' → h.get? I = none → h.get? m = none → h.get? T = none → I ≠ m → I ≠ T → m ≠ T →
      (∀ A : Around, A.handled = none → Draws prog w A I [I] x.length (fun i v => ∃ k u, x[i]? = some k ∧ v = .str (S [k]) u) St) → St 0 h' → IsMap h' m T I f → Q (.ref m) h') :
    D (model prog w) A c (call (.type "map") [f, .str (S x) t]) h Q E := by
  refine ⟨fun tk p => callType_new FM.called_map (by decide) (FM.typeCall_map _ _) (FM.newCall_map _ _) (fun obj => F.args_object_init_3 obj _ _) FM.entry_map_new (meets_map_new f (S x) t) ?_⟩
  have key : ∀ h', h' = ((h.push { cls := .type (strIterType (S x)), data := .fields #[.str (S x) t, .int 0 0] }).push { cls := .type "tuple", data := .seq #[.ref h.objs.size] }).push { cls := .type "map", data := .fields #[.ref (h.objs.size + 1), f] } →
      h.StaysIn h' ∧ IsMap h' (h.objs.size + 2) (h.objs.size + 1) h.objs.size f ∧ h'.get? h.objs.size = some { cls := .type (strIterType (S x)), data := .fields #[.str (S x) t, .int 0 0] } := by
    intro h' e
    have z1 := Heap.size_push h { cls := .type (strIterType (S x)), data := .fields #[.str (S x) t, .int 0 0] }
    have z2 := Heap.size_push (h.push { cls := .type (strIterType (S x)), data := .fields #[.str (S x) t, .int 0 0] }) { cls := .type "tuple", data := .seq #[.ref h.objs.size] }
    subst e
    refine ⟨stays_trans (stays_push _) (stays_trans (stays_push _) (stays_push _)), ⟨?_, ?_⟩, stays_push _ _ _ (stays_push _ _ _ (Heap.get?_push_size _ rfl))⟩
    · have := Heap.get?_push_size (h := (h.push { cls := .type (strIterType (S x)), data := .fields #[.str (S x) t, .int 0 0] }).push { cls := .type "tuple", data := .seq #[.ref h.objs.size] }) (o := { cls := .type "map", data := .fields #[.ref (h.objs.size + 1), f] }) rfl
      rw [z2, z1] at this; exact this
    · refine stays_push _ _ _ ?_
      have := Heap.get?_push_size (h := h.push { cls := .type (strIterType (S x)), data := .fields #[.str (S x) t, .int 0 0] }) (o := { cls := .type "tuple", data := .seq #[.ref h.objs.size] }) rfl
      rw [z1] at this; exact this
  obtain ⟨k1, k2, k3⟩ := key _ rfl
  refine ⟨⟨_, k2.m, rfl⟩, .mk (h := ((h.push _).push _).push _) p ?_⟩
  have n (j : Nat) : h.get? (h.objs.size + j) = none := by
    cases e : h.get? (h.objs.size + j) with
    | none => rfl
    | some o => exact absurd (Heap.lt_size e) (Nat.not_lt.mpr (Nat.le_add_right _ _))
  have sz : (S x).cps.size = x.length := by simp [S]
  have e2 : SignAt (S x) = fun (i : Nat) v => ∃ k u, x[i]? = some k ∧ v = Value.str (S [k]) u := by
    funext i v; unfold SignAt; simp [S]
  cases ha : (S x).cps.all (· < 128) with
  | true =>
    refine k _ _ _ _ (fun i h' => h'.IsStrIter h.objs.size "str_ascii_iterator" (S x) t i) k1 (n 0) (n 2) (n 1) (Nat.ne_of_lt (Nat.lt_add_of_pos_right (by decide))) (Nat.ne_of_lt (Nat.lt_add_of_pos_right (by decide))) (Nat.ne_of_gt (Nat.lt_succ_self _)) (fun A hA => ?_) ?_ k2
    · have W := Draws.strAscii (prog := prog) (w := w) hA h.objs.size (S x) t
      rw [sz] at W
      have e3 : (fun (i : Nat) v => ∃ c u, (S x).cps[i]? = some c ∧ v = Value.str ⟨#[c]⟩ u) = fun (i : Nat) v => ∃ k u, x[i]? = some k ∧ v = Value.str (S [k]) u := e2
      rw [e3] at W
      exact W
    · refine ⟨_, k3, ?_, rfl⟩
      show Value.type (strIterType (S x)) = _
      unfold strIterType; rw [ha]; rfl
  | false =>
    refine k _ _ _ _ (fun i h' => h'.IsStrIter h.objs.size "str_iterator" (S x) t i) k1 (n 0) (n 2) (n 1) (Nat.ne_of_lt (Nat.lt_add_of_pos_right (by decide))) (Nat.ne_of_lt (Nat.lt_add_of_pos_right (by decide))) (Nat.ne_of_gt (Nat.lt_succ_self _)) (fun A hA => ?_) ?_ k2
    · have W := Draws.strWide (prog := prog) (w := w) hA h.objs.size (S x) t
      rw [sz] at W
      have e3 : (fun (i : Nat) v => ∃ c u, (S x).cps[i]? = some c ∧ v = Value.str ⟨#[c]⟩ u) = fun (i : Nat) v => ∃ k u, x[i]? = some k ∧ v = Value.str (S [k]) u := e2
      rw [e3] at W
      exact W
    · refine ⟨_, k3, ?_, rfl⟩
      show Value.type (strIterType (S x)) = _
      unfold strIterType; rw [ha]; rfl
end
section
variable {prog : Program} {w : World} {A : Around} {s : Shared} {E : Value → Shared → Prop} {m T I : Addr} {x : List Nat} {St : Nat → Heap → Prop}
abbrev OrdP (x : List Nat) (i : Nat) (v : Value) : Prop := ∃ k u, x[i]? = some k ∧ v = .str (S [k]) u
theorem map_next_item {i k : Nat} {Q : Option Value → Shared → Prop} (W : ∀ A : Around, A.handled = none → Draws prog w A I [I] x.length (OrdP x) St) (hA : A.handled = none) (hm : IsMap s.heap m T I (.builtin "ord")) (st : St i s.heap)
    (hk : x[i]? = some k) (hIm : I ≠ m) (hIT : I ≠ T) (q : ∀ h' t tk, Heap.SameBut I s.heap h' → St (i + 1) h' → Q (some (.int k t)) { s with heap := h', toks := tk }) : wpAny (model prog w) A (pyNext (.ref m)) Q E s := by
  have hT : s.TypeIs (.ref m) "map" := ⟨_, hm.m, rfl⟩
  have hi : i < x.length := by
    by_cases z : i < x.length
    · exact z
    · rw [List.getElem?_eq_none (by omega)] at hk; cases hk
  unfold pyNext
  refine wpAny_bind (wpAny_attempt (wpAny_callSpecial?_slot (name := Str.ofString "__next__") hT FM.slot_map_next (wpAny_call_entry FM.slot_map_next hT FM.entry_map_next ?_ (FM.args_map_next _))))
  show wpAny _ _ (field (.ref m) 0 >>= _) _ _ _
  refine wpAny_bind (wpAny_field hm.m rfl (x := .ref T) rfl ?_)
  refine wpAny_bind (wpAny_seqItems hm.T rfl ?_)
  dsimp only
  refine wpAny_bind ?_
  rw [← Array.forIn_toList]
  show wpAny _ _ (forIn [Value.ref I] _ _) _ _ _
  rw [List.forIn_cons]
  refine wpAny_bind (wpAny_bind (wpAny_holding ((W A.in1 hA).item i _ _ _ hi st fun v h' tk hP st' sb => ?_)))
  obtain ⟨k', u, hk', rfl⟩ := hP
  rw [hk] at hk'; cases hk'
  refine wpAny_pure ?_
  dsimp only
  rw [List.forIn_nil]
  refine wpAny_pure ?_
  have hm' : h'.get? m = some { cls := .type "map", data := .fields #[.ref T, .builtin "ord"] } := (sb.2 m (Ne.symm hIm)).trans hm.m
  refine wpAny_bind (wpAny_field hm' rfl (x := .builtin "ord") rfl ?_)
  refine wpAny_bind (wpAny_holding ?_)
  refine P.ord_of_char ?_
  refine wpAny_bind (wpAny_letGo ?_)
  exact wpAny_pure ⟨_, rfl, wpAny_pure (q _ _ _ sb st')⟩
theorem map_next_done {Q : Option Value → Shared → Prop} (W : ∀ A : Around, A.handled = none → Draws prog w A I [I] x.length (OrdP x) St) (hA : A.handled = none) (hm : IsMap s.heap m T I (.builtin "ord")) (st : St x.length s.heap)
    (q : ∀ h', Heap.ExtBut I s.heap h' → Q none { s with heap := h' }) : wpAny (model prog w) A (pyNext (.ref m)) Q E s := by
  have hT : s.TypeIs (.ref m) "map" := ⟨_, hm.m, rfl⟩
  unfold pyNext
  refine wpAny_bind (wpAny_attempt (wpAny_callSpecial?_slot (name := Str.ofString "__next__") hT FM.slot_map_next (wpAny_call_entry FM.slot_map_next hT FM.entry_map_next ?_ (FM.args_map_next _))))
  show wpAny _ _ (field (.ref m) 0 >>= _) _ _ _
  refine wpAny_bind (wpAny_field hm.m rfl (x := .ref T) rfl ?_)
  refine wpAny_bind (wpAny_seqItems hm.T rfl ?_)
  dsimp only
  refine wpAny_bind ?_
  rw [← Array.forIn_toList]
  show wpAny _ _ (forIn [Value.ref I] _ _) _ _ _
  rw [List.forIn_cons]
  refine wpAny_bind (wpAny_bind (wpAny_holding ((W A.in1 hA).done _ _ _ st fun h' e sb ho => ?_)))
  obtain ⟨o, ho, hc⟩ := ho
  refine wpAny_bind (wpAny_isInstance (T := "StopIteration") (b := true) ⟨o, ho, hc⟩ isSubtype_stop ?_)
  exact wpAny_pure (q _ sb)
theorem map_iter {i : Value} {Q : Value → Shared → Prop} (hm : IsMap s.heap m T I i) (q : Q (.ref m) s) : wpAny (model prog w) A (pyIter (.ref m)) Q E s := by
  have hT : s.TypeIs (.ref m) "map" := ⟨_, hm.m, rfl⟩
  refine wpAny_pyIter_slot hT FM.slot_map_iter (wpAny_call_entry FM.slot_map_iter hT FM.entry_map_iter ?_ (FM.args_map_iter _))
  show wpAny _ _ (ret (.ref m)) _ _ s
  exact wpAny_pure ⟨_, rfl, "map", _, hT, FM.slot_map_next.lookup, q⟩
theorem call_xor {a b : Nat} {t u : Tok} {Q : Value → Shared → Prop} (q : ∀ t tk, Q (.int ((a ^^^ b : Nat) : Int) t) { s with toks := tk }) : wpAny (model prog w) A (call (.builtin "_operator.xor") [.int a t, .int b u]) Q E s := by
  refine Calls.call_function_entry FM.kind_xor FM.plain_xor FM.entry_xor (FM.args_xor _ _) ?_
  show wpAny _ _ (binaryOp .BitXor (.int a t) (.int b u) >>= ret) _ _ _
  refine wpAny_bind (xor_int (wpAny_pure ⟨_, rfl, ?_⟩))
  rw [bitXor_nat]; exact q _ _
end
section
variable {prog : Program} {w : World} {A : Around} {E : Value → Shared → Prop} {m T I : Addr} {x : List Nat} {St : Nat → Heap → Prop}
/-- what reduce has in hand -/
structure RedSt (s₀ h : Heap) (m T I P O : Addr) (x : List Nat) (St : Nat → Heap → Prop) (i : Nat) : Prop where
  keep : ∀ b o, s₀.get? b = some o → h.get? b = some o
  map : IsMap h m T I (.builtin "ord")
  st : St i h
  pair : ∃ a b n, h.get? P = some { cls := .type "tuple", data := .seq #[a, b] n }
  own : ∃ l n, h.get? O = some { cls := .type "tuple", data := .seq (Array.mk (.builtin "_operator.xor" :: l)) n }
theorem red_loop {c : Cfg} {s₀ : Heap} {P O : Addr} {R : Result → Shared → Prop} (W : ∀ A : Around, A.handled = none → Draws prog w A I [I] x.length (OrdP x) St) (hA : A.handled = none) (hIm : I ≠ m) (hIT : I ≠ T)
    (hI : s₀.get? I = none) (hP : s₀.get? P = none) (hPI : P ≠ I) (hOI : O ≠ I) (hPm : P ≠ m) (hPT : P ≠ T) (hPO : P ≠ O)
    (q : ∀ h' t tk, (∀ b o, s₀.get? b = some o → h'.get? b = some o) → R (.ok (.ret (.int (xs x : Nat) t))) (c.st h' tk)) :
    ∀ (k i : Nat) (h : Heap) (tk t : Nat), x.length - i = k → i ≤ x.length → RedSt s₀ h m T I P O x St i →
      codeAny (model prog w) A (.builtin "_functools.reduce.loop" ⟨[.ref P, .ref m, .ref O, .int (xs (x.take i) : Nat) t], []⟩) R (c.st h tk) := by
  intro k
  induction k with
  | zero =>
    intro i h tk t hk hi r
    have hin : i = x.length := by omega
    subst hin
    obtain ⟨l, n, ho⟩ := r.own
    refine codeAny_builtin FM.entry_reduce_loop ?_
    rw [Around.under_plainId FM.plain_reduce_loop _]
    show wpAny _ A.in1 (seqItems? (.ref O) >>= _) _ _ _
    refine wpAny_bind (wpAny_seqItems ho rfl ?_)
    show wpAny _ A.in1 (pyNext (.ref m) >>= _) _ _ _
    refine wpAny_bind (map_next_done W hA r.map r.st fun h' sb => ?_)
    refine wpAny_pure ?_
    rw [List.take_length]
    exact q h' t tk fun b o e => sb b o (fun z => by rw [z, hI] at e; cases e) (r.keep b o e)
  | succ k ih =>
    intro i h tk t hk hi r
    have hlt : i < x.length := by omega
    obtain ⟨l, n, ho⟩ := r.own
    refine codeAny_builtin FM.entry_reduce_loop ?_
    rw [Around.under_plainId FM.plain_reduce_loop _]
    show wpAny _ A.in1 (seqItems? (.ref O) >>= _) _ _ _
    refine wpAny_bind (wpAny_seqItems ho rfl ?_)
    show wpAny _ A.in1 (pyNext (.ref m) >>= _) _ _ _
    refine wpAny_bind (map_next_item W hA r.map r.st (List.getElem?_eq_getElem hlt) hIm hIT fun h' t' tk' sb st' => ?_)
    dsimp only
    obtain ⟨a, b, np, hp⟩ := r.pair
    have hp' : h'.get? P = some { cls := .type "tuple", data := .seq #[a, b] np } := (sb.2 P hPI).trans hp
    refine wpAny_bind (wpAny_seqItems hp' rfl ?_)
    refine wpAny_bind (wpAny_updateSeq hp' rfl ?_ (by show 2 ≤ sizeLine; decide) (by simp [sizeLine_eq]))
    refine wpAny_bind (wpAny_letGo ?_)
    have hp2 := Heap.get?_update_self (h := h') (Obj.mapSeq fun x_1 => x_1.setIfInBounds 0 (.int (xs (x.take i) : Nat) t)) hp' rfl
    refine wpAny_bind (wpAny_updateSeq (xs := #[.int (xs (x.take i) : Nat) t, b]) hp2 rfl ?_ (by show 2 ≤ sizeLine; decide) (by simp [sizeLine_eq]))
    refine wpAny_bind (wpAny_letGo ?_)
    refine wpAny_bind (call_xor fun t2 tk2 => ?_)
    refine wpAny_pure ⟨plainId_quiet FM.plain_reduce_loop _, ?_⟩
    have hp3 := Heap.get?_update_self (h := h'.update P (Obj.mapSeq fun x_1 => x_1.setIfInBounds 0 (.int (xs (x.take i) : Nat) t))) (Obj.mapSeq fun x_1 => x_1.setIfInBounds 1 (.int (x[i] : Nat) t')) hp2 rfl
    have e : (xs (x.take i) ^^^ x[i]) = xs (x.take (i + 1)) := (xs_take x i _ (List.getElem?_eq_getElem hlt)).symm
    rw [e]
    have ot : ∀ b, b ≠ P → (((h'.update P (Obj.mapSeq fun x_1 => x_1.setIfInBounds 0 (.int (xs (x.take i) : Nat) t))).update P (Obj.mapSeq fun x_1 => x_1.setIfInBounds 1 (.int (x[i] : Nat) t')))).get? b = h'.get? b := fun b hb =>
      (Heap.get?_update_ne _ _ _ _ hb).trans (Heap.get?_update_ne _ _ _ _ hb)
    refine ih (i + 1) _ tk2 t2 (by omega) hlt ⟨fun b o e => ?_, ⟨?_, ?_⟩, ?_, ⟨_, _, _, hp3⟩, ⟨l, n, ?_⟩⟩
    · have nP : b ≠ P := fun z => by rw [z, hP] at e; cases e
      have nI : b ≠ I := fun z => by rw [z, hI] at e; cases e
      exact (ot b nP).trans ((sb.2 b nI).trans (r.keep b o e))
    · exact (ot m (Ne.symm hPm)).trans ((sb.2 m (Ne.symm hIm)).trans r.map.m)
    · exact (ot T (Ne.symm hPT)).trans ((sb.2 T (Ne.symm hIT)).trans r.map.T)
    · exact (W A hA).frame _ _ _ st' fun b hb o e => by
        rw [List.mem_singleton.mp hb] at e ⊢
        exact (ot I (Ne.symm hPI)).trans e
    · exact (ot O (Ne.symm hPO)).trans ((sb.2 O hOI).trans ho)
theorem size_ne {h : Heap} {a : Addr} (x : ∃ o, h.get? a = some o) : a < h.objs.size := let ⟨_, e⟩ := x; Heap.lt_size e
theorem d_reduce {c : Cfg} {h : Heap} {t : Tok} {E : Value → Heap → Prop} {s₀ : Heap} {Q : Value → Heap → Prop} (W : ∀ A : Around, A.handled = none → Draws prog w A I [I] x.length (OrdP x) St) (hA : A.handled = none) (hm : IsMap h m T I (.builtin "ord")) (st : St 0 h) (hIm : I ≠ m) (hIT : I ≠ T)
    (hs : s₀.StaysIn h) (hI : s₀.get? I = none) (hIh : ∃ o, h.get? I = some o)
    (q : ∀ h' t, s₀.StaysIn h' → Q (.int (xs x : Nat) t) h') :
    D (model prog w) A c (call (.builtin "_functools.reduce") [.builtin "_operator.xor", .ref m, .int 0 t]) h Q E := by
  refine d_of0 fun tk p => call_function_tree FM.kind_reduce FM.plain_reduce FM.entry_reduce (FM.args_reduce _ _ _) ?_
  show wpAny _ A.in1 ((pyIter (.ref m)).tryCatch _ >>= _) _ _ _
  refine wpAny_bind (wpAny_tryCatch (map_iter (s := c.st h tk) hm ?_))
  refine wpAny_bind (wpAny_holding (wpAny_newTuple ?_ (by show 2 ≤ sizeLine; decide)))
  refine wpAny_bind (wpAny_holding (wpAny_newTuple ?_ (by show 3 ≤ sizeLine; decide)))
  refine wpAny_pure ⟨plainId_quiet FM.plain_reduce_loop _, ?_⟩
  let h1 := h.push { cls := .type "tuple", data := .seq #[rawInt 0, rawInt 0] }
  let h2 := h1.push { cls := .type "tuple", data := .seq #[.builtin "_operator.xor", .ref m, .int 0 t] }
  have lI := size_ne hIh
  have lm := size_ne ⟨_, hm.m⟩
  have lT := size_ne ⟨_, hm.T⟩
  have z1 : h1.objs.size = h.objs.size + 1 := Heap.size_push _ _
  have k1 : h.StaysIn h1 := stays_push _
  have k2 : h1.StaysIn h2 := stays_push _
  have gP : h1.get? h.objs.size = some { cls := .type "tuple", data := .seq #[rawInt 0, rawInt 0] } := Heap.get?_push_size _ rfl
  have gO : h2.get? h1.objs.size = some { cls := .type "tuple", data := .seq #[.builtin "_operator.xor", .ref m, .int 0 t] } := Heap.get?_push_size _ rfl
  have r := red_loop (c := c) (s₀ := s₀) (P := h.objs.size) (O := h1.objs.size) (R := fun r s' => match r with | .ok (.ret v) => ∃ h' tk', s' = c.st h' tk' ∧ Q v h' | .ok _ => False | .error e => ∃ h' tk', s' = c.st h' tk' ∧ E e h')
    W hA hIm hIT hI ?_ (Nat.ne_of_gt lI) ?_ (Nat.ne_of_gt lm) (Nat.ne_of_gt lT) ?_ (fun h' t tk k => ⟨h', tk, rfl, q h' t k⟩) x.length 0 h2 tk t (by omega) (by omega)
    ⟨fun b o e => k2 _ _ (k1 _ _ (hs _ _ e)), ⟨k2 _ _ (k1 _ _ hm.m), k2 _ _ (k1 _ _ hm.T)⟩, (W A hA).frame _ _ _ st fun b _ o e => k2 _ _ (k1 _ _ e), ⟨_, _, _, k2 _ _ gP⟩, ⟨_, _, gO⟩⟩
  · exact r
  · cases e : s₀.get? h.objs.size with
    | none => rfl
    | some o => exact absurd (Heap.lt_size (hs _ _ e)) (Nat.lt_irrefl _)
  · rw [z1]; exact Nat.ne_of_gt (Nat.lt_succ_of_lt lI)
  · rw [z1]; exact Nat.ne_of_lt (Nat.lt_succ_self _)
end
section
variable {prog : Program} {w : World} {A : Around} {c : Cfg} {H h : Heap} {p : Program} {loose : List Str} {mg mb : Str → Option Value} {E : Value → Heap → Prop} {t : Tok}
theorem checksum_spec (T : Top0 w.params p loose mg mb h) (hroom : A.depth < recursionLimit) (hA : A.handled = none) (x : List Nat) (t : Tok) {R : Result → Heap → Prop}
    (k : ∀ h' t, h.StaysIn h' → R (.ok (.ret (.int (xs x : Nat) t))) h') : DC (model prog w) A c (.call (.ref 113) ⟨[.str (S x) t], []⟩) h R := by
  refine dc_enter (binds := [(Str.ofString "nmea_str", .str (S x) t)]) T.K T.T.nolimit (by k_is) (by k_is) hroom (fun _ => .of_eq rfl) (locs rfl) (fun L h₁ env hE F hL => ?_)
  repeat walk_at "d1"
  refine d_mapNew (fun h₂ m TT I St k2 n1 n2 n3 a1 a2 a3 W st hm => ?_)
  repeat walk_at "d1"
  have nI : h.get? I = none := by
    cases e : h.get? I with
    | none => rfl
    | some o => rw [F.keep _ _ e] at n1; cases n1
  have gI : ∃ o, h₂.get? I = some o := (W { } rfl).live _ _ st
  refine d_reduce W hA hm st a1 a2 (stays_trans F.keep k2) nI gI (fun h' t k' => k h' t k')
end
end
section
theorem tgi_kind : builtinKind "tuple.__getitem__" = some .slot := by decide +kernel
theorem tgi_split : splitId "tuple.__getitem__" = some ("tuple", "__getitem__") := by decide +kernel
theorem tgi_plain : plainId "tuple.__getitem__" = true := by decide +kernel
theorem seqItems_are : seqItemTypes.all (fun n => n != "") = true := by decide +kernel
section
variable {prog : Program} {w : World} {A : Around} {c : Cfg} {H h : Heap} {g : Array GenState} {d : Drawn} {t : Nat} {os : OsState} {E : Value → Shared → Prop} {tr : Addr} {xs : Array Value}
theorem IsTr.type {M : Model} (I : IsTr h tr xs) : Looks M h (typeOf (.ref tr)) (.ref 361) := let ⟨dx, e, _⟩ := I.o; (Looks.ld e).andThen .now
theorem tgi_call {j : Nat} {u : Tok} {v : Value} {Q : Value → Shared → Prop} (X : (hd.heap_39 w.params).In h) (I : IsTr h tr xs) (hj : xs[j]? = some v) (hz : j < 1000) (q : Q v ⟨h, g, d, t, os⟩) :
    wpAny (model prog w) A (call (.builtin "tuple.__getitem__") [.ref tr, .int j u]) Q E ⟨h, g, d, t, os⟩ := by
  have t1 := I.type (M := model prog w)
  have L1 := looks_subIn (M := model prog w) X (show subIn (hd.heap_39 w.params) (.ref 361) (.type "tuple") = some true by k_is)
  have L2 : Looks (model prog w) h (isInstance (.ref tr) (.type "tuple")) true := t1.andThen L1
  refine wpAny_call (codeAny_call_builtin tgi_plain F.entry_tuple_getitem (@check_slot (model prog w) _ _ _ "tuple.__getitem__" "tuple" "__getitem__" (.ref tr) [.int j u] [] _ tgi_kind tgi_split L2 (F.args_tuple_getitem_2 _ _) ?_))
  obtain ⟨dx, e, _⟩ := I.o
  show wpAny _ _ (Builtin.Tuple.tupleItemsOf (.ref tr) >>= _) _ _ _
  refine wpAny_bind ?_
  unfold Builtin.Tuple.tupleItemsOf seqItems?
  repeat lk
  rw [if_neg (by simp only [Bool.or_eq_true, decide_eq_true_eq]; omega)]
  have l : j < xs.size := by
    by_cases l : j < xs.size
    · exact l
    · rw [Array.getElem?_eq_none (by omega)] at hj; cases hj
  have sj : seqIndex? (j : Int) xs.size = some j := by
    unfold seqIndex?
    have : ¬ ((j : Int) < 0) := by omega
    simp [this, l]
  simp only [sj, Option.bind_some, hj]
  exact wpAny_pure q
theorem tr_item {j : Nat} {u : Tok} {v : Value} {Q : Value → Shared → Prop} (X : (hd.heap_39 w.params).In h) (I : IsTr h tr xs) (hj : xs[j]? = some v) (hz : j < 1000) (q : Q v ⟨h, g, d, t, os⟩) :
    wpAny (model prog w) A (getItem (.ref tr) (.int j u)) Q E ⟨h, g, d, t, os⟩ := by
  have t1 := I.type (M := model prog w)
  have hm := (tr_cls X).mro (M := model prog w)
  have L3 := looks_findIn (M := model prog w) X (show findIn (hd.heap_39 w.params) (.ref 361) "__getitem__" = some (some (.builtin "tuple.__getitem__")) by k_is)
  unfold getItem
  refine wpAny_holding (wpAny_bind ?_)
  unfold sequenceKey
  refine wpAny_bind (t1.at ?_)
  have k1 := looks_subIn (M := model prog w) X (show subIn (hd.heap_39 w.params) (.ref 361) (.type "collections.deque") = some false by k_is)
  repeat (first | ((with_reducible show wpAny _ _ (call (.builtin "tuple.__getitem__") _) _ _ _); refine tgi_call X I hj hz ?_) | lk)
  exact q
end
section
variable {prog : Program} {w : World} {A : Around} {c : Cfg} {H h : Heap} {L : Addr} {bs : List (Str × Value)} {E : Value → Heap → Prop} {tr : Addr} {xs : Array Value} {p : Program} {loose : List Str} {mg mb : Str → Option Value} {Q : Value → Heap → Prop}
theorem d_trItem {value slice : Expr} {i : Int} {j : Nat} {u : Tok} {v : Value} (X : (hd.heap_39 w.params).In h) (I : IsTr h tr xs) (hi : i = j) (hj : xs[j]? = some v) (hz : j < 1000) (q : Q v h)
    (hs : subscripted slice false (.ref tr) (.int i u) = operate [.ref tr, .int i u] (getItem (.ref tr) (.int i u)) := by with_unfolding_all rfl) : D (model prog w) A c (subscriptTail value slice (.ref tr) (.int i u)) h Q E := ⟨fun tk pp => by
  have t1 := I.type (M := model prog w)
  have L3 := looks_findIn (M := model prog w) X (show findIn (hd.heap_39 w.params) (.ref 361) "__getitem__" = some (some (.builtin "tuple.__getitem__")) by k_is)
  unfold subscriptTail
  refine wpAny_bind ?_
  unfold getitemInPython specialOf
  refine wpAny_bind (wpAny_bind (t1.here (L3.here ?_)))
  refine wpAny_pure ?_
  rw [hs]
  subst hi
  exact wpAny_bind (wpAny_operating (tr_item X I hj hz (wpAny_bind (wpAny_letTemporaryGo (wpAny_pure (.mk pp q))))))⟩
theorem d_trGet {j : Nat} {u : Tok} {v : Value} (X : (hd.heap_39 w.params).In h) (I : IsTr h tr xs) (hj : xs[j]? = some v) (hz : j < 1000) (q : Q v h) : D (model prog w) A c (call (.builtin "tuple.__getitem__") ([] ++ [.ref tr, .int j u])) h Q E := ⟨fun tk pp =>
  tgi_call X I hj hz (.mk pp q)⟩
theorem d_isTr (X : (hd.heap_39 w.params).In h) (I : IsTr h tr xs) (q : Q (.bool true) h) : D (model prog w) A c (call (.builtin "isinstance") ([] ++ [.ref tr, .ref 361])) h Q E := ⟨fun tk pp =>
  isi_call (s := c.st h tk) X (fun M => I.type) (by k_is) (fun z => by cases z) (.mk pp q)⟩
theorem d_typeOwn {x C : Addr} {ox : Obj} {od : Option Obj} (I : InstAt h x ox C od) (q : Q (.ref C) h) : D (model prog w) A c (call (.type "type") ([] ++ [.ref x])) h Q E := ⟨fun tk pp => kto_own (s := c.st h tk) I (.mk pp q)⟩
theorem IsTr.at (I : IsTr h tr xs) : ∃ dx, InstAt h tr (trO dx xs) 361 (some (dictOf [] 0)) := let ⟨dx, e, e'⟩ := I.o; ⟨dx, e, rfl, rfl, e'⟩
theorem d_subTup (X : (hd.heap_39 w.params).In h) (q : Q (.bool true) h) : D (model prog w) A c (call (.builtin "issubclass") ([] ++ [.ref 361, .type "tuple"])) h Q E := ⟨fun tk pp => by
  have L1 := looks_subIn (M := model prog w) X (show subIn (hd.heap_39 w.params) (.ref 361) (.type "tuple") = some true by k_is)
  have L2 : Looks (model prog w) h (isType (.ref 361)) true := by obtain ⟨oc, od, cd, sl, hC, e1, e2, e3, e4, e5⟩ := (tr_cls X).obj; exact (Looks.ld (part := none) hC).andThen .now
  refine call_function_tree F.kind_issubclass F.plain_issubclass F.entry_issubclass (F.args_issubclass_2 _ _) (issubclass_outer (R := fun r s' => match r with | .ok (.ret v) => Lf c Q v s' | .ok _ => False | .error e => Lf c E e s') ?_)
  unfold Builtin.«issubclass.nested»
  show wpAny _ _ _ _ _ (c.st h tk)
  unfold Cfg.st
  repeat lk
  exact .mk pp q⟩
end
end
section
section
variable {prog : Program} {w : World} {A : Around} {c : Cfg} {K : Frag} {H h : Heap} {L : Addr} {bs : List (Str × Value)} {E : Value → Heap → Prop} {tr a dx x C : Addr} {xs : Array Value} {es : List DictEntry} {n : Nat} {p : Program} {loose : List Str} {mg mb : Str → Option Value} {Q : Value → Heap → Prop} {name : Str} {expr : Bool}
theorem d_isNone {q : Addr} (k : Q (.bool false) h) : D (model prog w) A c (compareOp .Is (.ref q) .none) h Q E := ⟨fun tk pp => wpAny_is_other rfl (fun z => by cases z) (.mk pp k)⟩
theorem tgt_find : findCls [] (.type "tuple") (.type "type") (Str.ofString "__getitem__") = some (.val (.builtin "tuple.__getitem__")) := by kernel_rfl
theorem tgr_spec (T : Top0 w.params p loose mg mb h) (hroom : A.depth < recursionLimit) {j : Nat} {u : Tok} {v : Value} (I : Inst h a 283 dx es n) (hl : getL (Str.ofString "index") es = some (some (.int j u))) (It : IsTr h tr xs) (hj : xs[j]? = some v) (hz : j < 1000) {R : Result → Heap → Prop}
    (k : ∀ h', h.StaysIn h' → R (.ok (.ret v)) h') : DC (model prog w) A c (.call (.ref 266) ⟨[.ref a, .ref tr, .ref 361], []⟩) h R := by
  refine dc_enter (K := hd.heap_39 w.params) (binds := [(Str.ofString "self", .ref a), (Str.ofString "obj", .ref tr), (Str.ofString "objtype", .ref 361)]) T.K T.T.nolimit (by k_is) (by k_is) (by omega) (fun _ => binds_K (K := hd.heap_39 w.params) T.K rfl (by k_is) rfl rfl rfl) (locs rfl) (fun L h₁ env hE F hL => ?_)
  repeat walk_at "d1"
  refine d_isNone ?_
  repeat walk_at "d1"
  have T1 := T.keeps F.keep
  repeat walk_at "d1"
  obtain ⟨dt, It'⟩ := (It.keeps F.keep).at
  refine d_typeOwn It' ?_
  repeat walk_at "d1"
  refine d_subTup (T.K.keeps F.keep) ?_
  repeat walk_at "d1"
  refine d_methType F tgt_find ?_
  repeat walk_at "d1"
  refine d_getOwn (K := hd.heap_39 w.params) (T.K.keeps F.keep) (I.keeps F.keep) (by k_is) (by k_is) (attr := none) (by k_is) rfl hl rfl ?_
  repeat walk_at "d1"
  exact d_trGet (T.K.keeps F.keep) (It.keeps F.keep) hj hz (k _ F.keep)
theorem tr_isCls (P : Params) : (clsIn (hd.heap_39 P) 361).isSome = true := by
  obtain ⟨cd, h⟩ : ∃ cd, clsIn (hd.heap_39 P) 361 = some cd := ⟨_, by k_is⟩
  rw [h]; rfl
abbrev TrA (P : Params) (name : Str) (j : Nat) : Prop := ∃ a dx es n u, (hd.heap_39 P).lookup a = some (instObj 283 dx) ∧ (hd.heap_39 P).lookup dx = some (dictOf es n) ∧ findIn (hd.heap_39 P) (.ref 361) name = some (some (.ref a)) ∧ specialIn (hd.heap_39 P) (.ref a) "__get__" = some (some (.ref 266)) ∧ takesIn (hd.heap_39 P) (.ref a) = some true ∧ getL (Str.ofString "index") es = some (some (.int (j : Int) u))
theorem tra_type (P : Params) : TrA P (Str.ofString "type") 0 := ⟨347, 346, _, _, _, by k_is, by k_is, by k_is, by k_is, by k_is, rfl⟩
theorem tra_value (P : Params) : TrA P (Str.ofString "value") 1 := ⟨350, 349, _, _, _, by k_is, by k_is, by k_is, by k_is, by k_is, rfl⟩
theorem tra_units (P : Params) : TrA P (Str.ofString "units") 2 := ⟨353, 352, _, _, _, by k_is, by k_is, by k_is, by k_is, by k_is, rfl⟩
theorem tra_id (P : Params) : TrA P (Str.ofString "id") 3 := ⟨356, 355, _, _, _, by k_is, by k_is, by k_is, by k_is, by k_is, rfl⟩
theorem ga_kind : builtinKind "tuple.__getattribute__" = some .slot := by decide +kernel
theorem ga_split : splitId "tuple.__getattribute__" = some ("tuple", "__getattribute__") := by decide +kernel
theorem d_trAttr (T : Top0 w.params p loose mg mb h) (hroom : A.depth < recursionLimit) {j : Nat} {v : Value} (It : IsTr h tr xs) (ha : TrA w.params name j)
    (hj : xs[j]? = some v) (hz : j < 1000) (hv : handedIn v = true) (k : ∀ h', h.StaysIn h' → Q v h') : D (model prog w) A c (getAttr (.ref tr) name expr) h Q E := by
  obtain ⟨a, dx, es, n, u, h1, h2, h3, h5, h6, h4⟩ := ha
  obtain ⟨dt, It'⟩ := It.at
  have t1 := It.type (M := model prog w)
  have X := T.K
  have L1 := looks_findIn (M := model prog w) X (show findIn (hd.heap_39 w.params) (.ref 361) "__getattribute__" = some (some (.builtin "tuple.__getattribute__")) by k_is)
  have L2 := looks_findIn (M := model prog w) X (show findIn (hd.heap_39 w.params) (.ref 361) "__getattr__" = some none by k_is)
  have L3 := looks_find (M := model prog w) X It' (findObj_data (tr_isCls w.params) h3 h5 h6)
  have L4 : Looks (model prog w) h (isInstance (.ref tr) (.type "tuple")) true := t1.andThen (looks_subIn X (by k_is))
  refine ⟨fun tk pp => ?_⟩
  unfold getAttr getAttrBy
  refine wpAny_bind (wpAny_mkText (wpAny_holding (wpAny_bind (t1 _ _ _ _ (fun _ _ e => e) (wpAny_bind (L1 _ _ _ _ (fun _ _ e => e) ?_))))))
  dsimp only
  rw [if_neg (by decide)]
  unfold getAttrByItsOwn hookBefore
  refine wpAny_bind (L2 _ _ _ _ (fun _ _ e => e) (wpAny_bind (wpAny_attempt (wpAny_holding ?_))))
  unfold callGetattribute
  rw [if_neg (by cases expr <;> decide)]
  unfold boundAndCalled
  rw [F.slot_tuple_getattribute.bind]
  refine wpAny_bind (wpAny_pure ?_)
  show wpAny _ _ (call (.builtin "tuple.__getattribute__") [.ref tr, .str name tk]) _ _ _
  refine wpAny_call (codeAny_call_builtin F.slot_tuple_getattribute.plain F.entry_tuple_ga (@check_slot (model prog w) _ _ ⟨h, c.gens, c.drawn, tk + 1, c.os⟩ "tuple.__getattribute__" "tuple" "__getattribute__" (.ref tr) [.str name tk] [] _ ga_kind ga_split L4 (F.args_tuple_getattribute_2 _ _) ?_))
  show wpAny _ _ (typeOf (.ref tr) >>= _) _ _ _
  refine wpAny_bind (t1 _ _ _ _ (fun _ _ e => e) (wpAny_bind (L3 _ _ _ _ (fun _ _ e => e) ?_)))
  show wpAny _ _ (holding [.ref a] (call (.ref 266) [.ref a, .ref tr, .ref 361]) >>= ret) _ _ _
  have base := (d_call (M := model prog w) (E := fun _ _ => False) (Q := fun r h' => r = v ∧ Q v h') (tgr_spec (c := c) (A := A.in1) (R := fun r h' => match r with | .ok (.ret r) => r = v ∧ Q v h' | .ok _ => False | .error e => False) T hroom ⟨X _ _ h1, X _ _ h2⟩ h4 It hj hz fun h' k' => ⟨rfl, k h' k'⟩)).run (tk + 1) (Nat.succ_pos _)
  refine wpAny_bind (wpAny_holding (wpAny_mono base (fun r s' z => ?_) fun _ _ z => by obtain ⟨_, _, _, _, z⟩ := z; exact z.elim))
  obtain ⟨h', tk', p', rfl, rfl, q⟩ := z
  refine wpAny_pure ?_
  show wpAny _ _ (handedOut r) _ _ _
  rw [handedOut_of hv]
  exact wpAny_pure (.mk p' q)
end
end
section
section
variable {prog : Program} {w : World} {A : Around} {c : Cfg} {K : Frag} {H h : Heap} {L : Addr} {bs : List (Str × Value)} {E : Value → Heap → Prop} {x dx l a : Addr} {es : List DictEntry} {n : Nat} {p : Program} {loose : List Str} {mg mb : Str → Option Value} {name : Str} {expr : Bool} {tk st : Value} {vs : Array Value} {pos : Pos} {env : Env}
theorem xdr_isCls (P : Params) : (clsIn (hd.heap_39 P) 394).isSome = true := by
  obtain ⟨cd, h⟩ : ∃ cd, clsIn (hd.heap_39 P) 394 = some cd := ⟨_, by k_is⟩
  rw [h]; rfl
theorem d_numtr (T : Top0 w.params p loose mg mb h) (hroom : A.depth + 9 < recursionLimit) (Sn : Sen w.params h x dx l tk st vs) (hz : vs.size ≤ 16000000) {Q : Value → Heap → Prop}
    (k : ∀ h' t, h.StaysIn h' → Q (.int (vs.size / 4 : Nat) t) h') : D (model prog w) A c (getAttr (.ref x) (Str.ofString "num_transducers") expr) h Q E := by
  have Sn' := Sn
  obtain ⟨⟨ta, tb, tc, I⟩, Il⟩ := Sn
  refine d_getBind (K := hd.heap_39 w.params) (hk := some (.ref 132)) (g := .builtin "property.__get__") (a := .ref 384) T.K I.at (by k_is) (findObj_data (xdr_isCls w.params) (by k_is) (by k_is) (by k_is)) (by k_is) (d_call ⟨fun tk' pp => ?_⟩)
  exact prop_get (s := c.st h tk') (fget := 383) T.K (by k_is) ((numtr_spec (A := A.in1) T hroom Sn' hz fun h' t k' => ⟨rfl, k h' t k'⟩).run tk' pp)
/-- a method of an XDR looked up: the class has a hook, so a method object is made -/
theorem d_meth {f : Addr} {pl : Sem Bool} {Q : Value × List Value → Heap → Prop} (X : (hd.heap_39 w.params).In h) (Sn : Sen w.params h x dx l tk st vs)
    (hf : findIn (hd.heap_39 w.params) (.ref 394) name = some (some (.ref f))) (hg : specialIn (hd.heap_39 w.params) (.ref f) "__get__" = some (some (.builtin "function.__get__"))) (ht : takesIn (hd.heap_39 w.params) (.ref f) = some false)
    (hty : typeIn (hd.heap_39 w.params) (.ref f) = some (.type "function")) (hc : copiedNames.contains name = false) (hn : ∀ ta tb tc, getL name (xes w.params ta tb tc tk st l) = some none)
    (k : ∀ h' q, h.StaysIn h' → h.get? q = none → h'.get? q = some (methodObj (.ref f) (.ref x)) → Q (.ref q, []) h') : D (model prog w) A c (getMethod (.ref x) name pl) h Q E := by
  obtain ⟨⟨ta, tb, tc, I⟩, Il⟩ := Sn
  have base : D (model prog w) A c (getAttr (.ref x) name) h (fun v h' => Q (v, []) h') E := by
    refine d_getBind (K := hd.heap_39 w.params) (hk := some (.ref 132)) (g := .builtin "function.__get__") (a := .ref f) X I.at (by k_is) (findObj_bind (by k_is) hf hg ht hc (hn _ _ _)) (by k_is) (d_call ⟨fun tk' pp => ?_⟩)
    exact fn_get (s := c.st h tk') X hty (.mk (h := h.push _) pp ⟨rfl, k _ _ (stays_push _) (not_get_size h) (Heap.get?_push_size _ rfl)⟩)
  have L0 := I.at.type (M := model prog w)
  have L1 := looks_findIn (M := model prog w) X (show findIn (hd.heap_39 w.params) (.ref 394) "__getattribute__" = some (some (.builtin "object.__getattribute__")) by k_is)
  have L2 := looks_findIn (M := model prog w) X (show findIn (hd.heap_39 w.params) (.ref 394) "__getattr__" = some (some (.ref 132)) by k_is)
  have hcan := PySem.F.canon_object_ga
  refine ⟨fun tk' pp => ?_⟩
  unfold getMethod specialOf
  refine wpAny_bind (wpAny_bind (L0 _ _ _ _ (fun _ _ e => e) (L1 _ _ _ _ (fun _ _ e => e) ?_)))
  dsimp only
  rw [hcan, if_neg (by decide)]
  refine wpAny_bind (wpAny_bind (L0 _ _ _ _ (fun _ _ e => e) (L2 _ _ _ _ (fun _ _ e => e) ?_)))
  rw [if_pos (show (some (Value.ref 132)).isSome = true from rfl)]
  exact wpAny_bind (wpAny_mono (base.run tk' pp) (fun v s' z => wpAny_pure z) fun _ _ z => z)
theorem d_withM {f q : Addr} {self : Value} {args : List Expr} {Q : Value → Heap → Prop} (hf : fnIn K f = true) (hK : K.In h) (hq : h.get? q = some (methodObj (.ref f) self))
    (k : D (model prog w) A c (spliced (backTo pos (starEach args env))) h (fun vs h' => h.StaysIn h' ∧ DC (model prog w) A c (.call (.ref f) ⟨self :: vs, []⟩) h' (fun r h' => match r with | .ok (.ret v) => Q v h' | .ok _ => False | .error e => E e h')) E) (hp : (starEach args env).any (·.1) = false := by rfl) :
    D (model prog w) A c (callWith pos (.ref q) [] (backTo pos (starEach args env)) []) h Q E :=
  ⟨fun tk' pp => callWith_of (P := MethP K q f self) (by rw [any_backTo hp]; rfl) (keeps_M hf) (wpAny_mono ((d_args (f := .ref q) (Q := fun a h' => h.StaysIn h' ∧ a.kw = [] ∧ DC (model prog w) A c (.call (.ref f) ⟨self :: a.pos, []⟩) h' (fun r h' => match r with | .ok (.ret v) => Q v h' | .ok _ => False | .error e => E e h')) hp
    (d_conseq k fun vs h' z => ⟨z.1, rfl, z.2⟩)).run tk' pp) (fun a s' ⟨h', tk2, p', e, k1, ea, q⟩ => by
      subst e
      refine ⟨⟨k1 _ _ hq, hK.keeps k1⟩, ?_⟩
      rw [ea]
      exact wpAny_call (codeAny_mono (method_call (s := c.st h' tk2) (k1 _ _ hq) (q.run tk2 p')) fun r s x => by
        obtain ⟨h', tk', p', rfl, q⟩ := x
        rcases r with e | (_ | _ | _ | v) <;> first | exact q.elim | exact .mk p' q)) fun _ _ e => e)⟩
end
end
section
def typ (n : Int) : List Nat := match (n.fmod 4).toNat with | 0 => sg "C" | 1 => sg "P" | 2 => sg "A" | _ => sg "G"
def uni (n : Int) : List Nat := match ((n.fdiv 2).fmod 4).toNat with | 0 => sg "C" | 1 => sg "B" | 2 => sg "D" | _ => sg ""
def val (n : Int) : List Nat := txt (n.fmod 200 - 50) ++ sg "." ++ txt ((n.fdiv 3).fmod 10)
def idn (n : Int) : List Nat := sg "T" ++ txt ((n.fdiv 5).fmod 3)
def rd (n : Int) : List (List Nat) := [typ n, val n, uni n, idn n]
theorem log2_lt {i : Int} (h : i.natAbs < 2 ^ 60) : i.natAbs.log2 < 1920 := by
  by_cases e : i.natAbs = 0
  · rw [e]; decide
  · exact Nat.lt_of_lt_of_le ((Nat.log2_lt e).mpr h) (by decide)
theorem fmod_bd (a : Int) {b : Int} (hb : 0 < b) : 0 ≤ a.fmod b ∧ a.fmod b < b := ⟨Int.fmod_nonneg_of_pos a hb, Int.fmod_lt_of_pos a hb⟩
theorem txt_len {i : Int} (h : i.natAbs < 10 ^ 12) : (txt i).length ≤ 13 := by
  have e := int_text_length_le10 (k := 12) (by decide) h
  rw [← PySem.ofString_length] at e
  unfold txt
  rw [Array.length_toList]
  exact e

theorem types_at {n : Int} : ∃ t, (List.toArray [.str (Str.ofString "C") 972, .str (Str.ofString "P") 973, .str (Str.ofString "A") 974, .str (Str.ofString "G") 975] : Array Value)[(n.fmod 4).toNat]? = some (.str (S (typ n)) t) := by
  have b := fmod_bd n (b := 4) (by decide)
  have : (n.fmod 4).toNat < 4 := by omega
  unfold typ
  generalize (n.fmod 4).toNat = j at *
  rcases j with _ | _ | _ | _ | j <;> first | exact ⟨_, rfl⟩ | omega
theorem units_at {n : Int} : ∃ t, (List.toArray [.str (Str.ofString "C") 977, .str (Str.ofString "B") 978, .str (Str.ofString "D") 979, .str (Str.ofString "") 980] : Array Value)[((n.fdiv 2).fmod 4).toNat]? = some (.str (S (uni n)) t) := by
  have b := fmod_bd (n.fdiv 2) (b := 4) (by decide)
  have : ((n.fdiv 2).fmod 4).toNat < 4 := by omega
  unfold uni
  generalize ((n.fdiv 2).fmod 4).toNat = j at *
  rcases j with _ | _ | _ | _ | j <;> first | exact ⟨_, rfl⟩ | omega

section
variable {prog : Program} {w : World} {A : Around} {c : Cfg} {H h : Heap} {p : Program} {loose : List Str} {mg mb : Str → Option Value}
theorem reading_spec (T : Top0 w.params p loose mg mb h) (hroom : A.depth < recursionLimit) (n : Int) (t : Tok) {R : Result → Heap → Prop}
    (k : ∀ h' a vs, h.StaysIn h' → h.get? a = none → IsTup h' a (List.toArray vs) → Strs vs (rd n) → R (.ok (.ret (.ref a))) h') : DC (model prog w) A c (.call (.ref 445) ⟨[.int n t], []⟩) h R := by
  refine dc_enter (binds := [(Str.ofString "n", .int n t)]) T.K T.T.nolimit (by k_is) (by k_is) hroom (fun _ => .of_eq rfl) (locs rfl) (fun L h₁ env hE F hL => ?_)
  try dsimp only
  have b1 := fmod_bd n (b := 200) (by decide)
  have b2 := fmod_bd (n.fdiv 3) (b := 10) (by decide)
  have b3 := fmod_bd (n.fdiv 5) (b := 3) (by decide)
  have l1 : (n.fmod 200 - 50).natAbs.log2 < 1920 := log2_lt (by omega)
  have l2 : ((n.fdiv 3).fmod 10).natAbs.log2 < 1920 := log2_lt (by omega)
  have l3 : ((n.fdiv 5).fmod 3).natAbs.log2 < 1920 := log2_lt (by omega)
  have m1 : (txt (n.fmod 200 - 50)).length ≤ 13 := txt_len (by omega)
  have m2 : (txt ((n.fdiv 3).fmod 10)).length ≤ 13 := txt_len (by omega)
  have m3 : (txt ((n.fdiv 5).fmod 3)).length ≤ 13 := txt_len (by omega)
  have e1 : (sg ".").length = 1 := by decide
  have e2 : (sg "T").length = 1 := by decide
  repeat walk_at "d1"
  have b4 := fmod_bd n (b := 4) (by decide)
  have b5 := fmod_bd (n.fdiv 2) (b := 4) (by decide)
  obtain ⟨t1, ht1⟩ := types_at (n := n)
  obtain ⟨t2, ht2⟩ := units_at (n := n)
  refine d_tailTup (tupK (T.K.keeps (FrL.keep (by assumption))) (by k_is)) (j := (n.fmod 4).toNat) (by omega) (by omega) ht1 ?_
  repeat walk_at "d1"
  refine d_tailTup (tupK (T.K.keeps (FrL.keep (by assumption))) (by k_is)) (j := ((n.fdiv 2).fmod 4).toNat) (by omega) (by omega) ht2 ?_
  repeat walk_at "d1"
  refine d_newTuple (by assumption) (by simp) (fun H' h' a k1 F2 k2 k3 k4 => ?_)
  exact k h' a _ (stays_trans k1 F2.keep) (by
    cases e : h.get? a with
    | none => rfl
    | some o => rw [FrL.keep (by assumption) _ _ e] at k3; cases k3) (k4.keeps F2.keep) (.cons (.cons (.cons (.cons .nil))))
end
end
section
/-- a heap without some objects -/
def cut (ws : List Addr) (h : Heap) : Heap := ws.foldr (fun a h => h.hide a) h
theorem cut_of {ws : List Addr} {h : Heap} {b : Addr} {o : Obj} (e : h.get? b = some o) (n : b ∉ ws) : (cut ws h).get? b = some o := by
  induction ws with
  | nil => exact e
  | cons a ws ih => exact hide_of (ih fun z => n (.tail _ z)) fun z => n (z ▸ .head _)
theorem of_cut {ws : List Addr} {h : Heap} {b : Addr} {o : Obj} (e : (cut ws h).get? b = some o) : h.get? b = some o := by
  induction ws with
  | nil => exact e
  | cons a ws ih => exact ih (Heap.of_hide e)
theorem cut_no {ws : List Addr} {h : Heap} {b : Addr} (m : b ∈ ws) : (cut ws h).get? b = none := by
  induction ws with
  | nil => cases m
  | cons a ws ih =>
    by_cases z : b = a
    · rw [z]; exact Heap.hide_self _ _
    · show ((cut ws h).hide a).get? b = none
      have m' : b ∈ ws := by cases m with | head => exact absurd rfl z | tail _ m => exact m
      cases e : ((cut ws h).hide a).get? b with
      | none => rfl
      | some o => have := Heap.of_hide e; rw [ih m'] at this; cases this
theorem cut_mono {ws : List Addr} {h h' : Heap} (k : Keeps1 ws h h') : (cut ws h).StaysIn (cut ws h') := fun b o e => by
  have n : b ∉ ws := fun m => by rw [cut_no m] at e; cases e
  exact cut_of (k b o n (of_cut e)) n
theorem cut_in {ws : List Addr} {h : Heap} : (cut ws h).StaysIn h := fun b o e => of_cut e
theorem keeps1_trans {ws : List Addr} {a b c : Heap} (x : Keeps1 ws a b) (y : Keeps1 ws b c) : Keeps1 ws a c := fun p o n e => y p o n (x p o n e)
theorem keeps1_of {ws : List Addr} {a b : Heap} (x : a.StaysIn b) : Keeps1 ws a b := fun p o n e => x p o e
theorem keeps1_more {ws ws' : List Addr} {a b : Heap} (x : Keeps1 ws a b) (m : ∀ p ∈ ws, p ∈ ws') : Keeps1 ws' a b := fun p o n e => x p o (fun z => n (m p z)) e
theorem keeps1_hide {a b : Heap} {L : Addr} (x : (a.hide L).StaysIn b) : Keeps1 [L] a b := fun p o n e => x p o (hide_of e (by simpa using n))

section
variable {prog : Program} {w : World} {A : Around} {c : Cfg} {H h : Heap} {L : Addr} {bs : List (Str × Value)} {E : Value → Heap → Prop} {env cenv : Env} {pos px : Pos} {scope sc : Scope}
theorem FrL.ns' (F : FrL H L h bs) : ∃ m, h.Ns L m := let ⟨m, n, _⟩ := F.ns; ⟨m, n⟩
theorem ns_same {h h' : Heap} {L : Addr} {m} (n : h.Ns L m) (k : h.StaysIn h') : h'.Ns L m := let ⟨oL, a1, a2, hL, a3⟩ := n; ⟨oL, a1, a2, k _ _ hL, a3⟩
theorem FrL.of {h : Heap} {L : Addr} {m} (n : h.Ns L m) : FrL (h.hide L) L h [] := ⟨⟨m, n, fun _ _ e => nomatch e⟩, fun _ _ e => Heap.of_hide e, Heap.hide_self _ _⟩

/-- a comprehension: its own frame C over the heap -/
theorem d_comp {e : Expr} {newAcc first : Sem Value} {g : Comprehension} {gs : List Comprehension} {use : Option (Value → Sem Unit)} {Q : Value → Heap → Prop} (hE : EnvIs sc L env)
    (k : D (model prog w) A c first h (fun x h₁ => D (model prog w) A c (pyIter x) h₁ (fun it h₂ => D (model prog w) A c newAcc h₂ (fun acc h₃ => ∀ h₄ C cenv, h₃.get? C = none → h₃.StaysIn h₄ → (∃ m, h₄.Ns C m) → EnvIs scope C cenv →
      DC (model prog w) A c (.compStart e 0 it acc cenv) h₄ (fun r h₅ => match r, use with
        | .ok _, none => ∃ m, h₅.Ns C m ∧ ∀ h', Heap.SameBut C h₅ h' → Q acc h'
        | .ok _, some u => D (model prog w) A c (u acc) h₅ (fun _ h₆ => ∃ m, h₆.Ns C m ∧ ∀ h', Heap.SameBut C h₆ h' → Q .none h') E
        | .error _, _ => False)) E) E) E)
    (hcl : clausesOf e = g :: gs) (hs : ∀ x, foldedSetIterable g.iter env x = pure x) (hfree : ∀ x ∈ scope.names, x.2 ≠ .free) (hkind : scope.kind = .function) (hnames : ∀ x ∈ scope.names, x.2 = .local → scope.names.lookup x.1 = some .local)
    (hcell : ∀ x ∈ scope.names, x.2 ≠ .cell) :
    D (model prog w) A c (comprehension e scope env pos newAcc false first use) h Q E := ⟨fun tk p => by
  have rl : relabel scope env = scope := by
    unfold relabel
    rw [map_eq_self (l := scope.names) (fun x hx => by
      obtain ⟨n, k⟩ := x
      have : (k == NameKind.free) = false := by simpa using hfree _ hx
      simp [this])]
  refine wpAny_comprehension_free hcl hs (closureFor_none hfree) hkind hnames (wpAny_mono (k.run tk p) (fun x s₁ ⟨h₁, t₁, p₁, e₁, q₁⟩ => ?_) fun _ _ z => z)
  subst e₁
  refine wpAny_mono (q₁.run t₁ p₁) (fun it s₂ ⟨h₂, t₂, p₂, e₂, q₂⟩ => ?_) fun _ _ z => z
  subst e₂
  refine wpAny_mono (q₂.run t₂ p₂) (fun acc s₃ ⟨h₃, t₃, p₃, e₃, q₃⟩ => ?_) fun _ _ z => z
  subst e₃
  refine wpAny_newFunctionEnv hcell (by intro y hy; simp at hy) (fun h₄ hns hsb => ?_) hkind
  rw [rl]
  show codeAny _ _ (.compStart e 0 it acc (compEnv scope h₃.objs.size env)) _ (c.st h₄ t₃)
  refine codeAny_mono ((q₃ h₄ h₃.objs.size (compEnv scope h₃.objs.size env) (not_get_size h₃) (fun b o e => hsb.extBut b o (Nat.ne_of_lt (Heap.lt_size e)) (Heap.get?_push_of_some _ e)) ⟨_, hns⟩ ⟨rfl, rfl, hE.glob, hE.blt⟩).run t₃ p₃) (fun r s₅ ⟨h₅, t₅, p₅, e₅, q₅⟩ => ?_)
  subst e₅
  unfold compPost
  cases r with
  | error x => cases use <;> exact q₅.elim
  | ok f =>
    cases use with
    | none => exact q₅.imp fun m z => ⟨z.1, fun h' sb => .mk p₅ (z.2 h' sb)⟩
    | some u => exact wpAny_mono (q₅.run t₅ p₅) (fun _ s₆ ⟨h₆, t₆, p₆, e₆, q₆⟩ => by subst e₆; exact q₆.imp fun m z => ⟨z.1, fun h' sb => .mk p₆ (z.2 h' sb)⟩) fun _ _ z => z⟩

/-- the turns of a list comprehension with one name -/
theorem dc_compL {elt iter : Expr} {x : Str} {I Da C : Addr} {fp wr : List Addr} {n : Nat} {P : Nat → Value → Prop} {St : Nat → Heap → Prop} {R : Result → Heap → Prop}
    (W : Src prog w I fp wr n P St) (hA : A.handled = none) (hE : EnvIs scope C cenv) (hwr : ∀ b ∈ wr, b = I) (hC : C ∉ fp) (hD : Da ∉ fp) (hCD : C ≠ Da) (hCI : C ≠ I) (hDI : Da ≠ I) (hz : n ≤ 16000000)
    (live : ∀ i h, St i h → ∃ o, h.get? I = some o) (hst : St 0 h) (hda : h.IsList Da #[]) (hns : ∃ m, h.Ns C m)
    (Fy : Nat → Value → Heap → Prop) (hF : ∀ i y h h', h.StaysIn h' → Fy i y h → Fy i y h')
    (step : ∀ i v h₁, i < n → P i v → (cut [I, Da, C] h).StaysIn h₁ → (∃ o, h₁.get? I = some o) → (∃ o, h₁.get? Da = some o) → FrL (h₁.hide C) C h₁ [(x, v)] →
      D (model prog w) A c (eval elt cenv) h₁ (fun y h₂ => (h₁.hide C).StaysIn h₂ ∧ (∃ m, h₂.Ns C m) ∧ Fy i y (cut [I, Da, C] h₂)) (fun _ _ => False))
    (done : ∀ h' (ys : List Value), Keeps1 [I, Da, C] h h' → h'.IsList Da ys.toArray → ys.length = n → (∀ i y, ys[i]? = some y → Fy i y (cut [I, Da, C] h')) → (∃ m, h'.Ns C m) → R (.ok .next) h')
    (hx : scope.names.lookup x = some .local) (hkind : scope.kind = .function) :
    DC (model prog w) A c (.compStart (.ListComp elt [⟨.Name x px, iter, [], 0⟩] scope pos) 0 (.ref I) (.ref Da) cenv) h R := by
  refine ⟨fun tk p => ?_⟩
  have wz := W A hA
  have Ib : ∀ {j h'}, St j h' → ∃ o, h'.get? I = some o := fun {j h'} st => live _ _ st
  have key : ∀ tk, 0 < tk → codeAny (model prog w) A (.compLoop (.ListComp elt [⟨.Name x px, iter, [], 0⟩] scope pos) 0 (.ref I) (.ref Da) cenv) (Lf c R) (c.st h tk) := by
    intro tk p
    refine codeAny_compLoop_list (I := fun k s => ∃ (i : Nat) (h' : Heap) (tk' : Nat) (ys : List Value), s = c.st h' tk' ∧ 0 < tk' ∧ i ≤ n ∧ k = n + 1 - i ∧ St i h' ∧ Keeps1 [I, Da, C] h h' ∧ h'.IsList Da ys.toArray ∧ ys.length = i ∧ (∀ i y, ys[i]? = some y → Fy i y (cut [I, Da, C] h')) ∧ (∃ m, h'.Ns C m))
      (fun k s => ?_) (n + 1) ⟨0, h, tk, [], rfl, p, Nat.zero_le _, rfl, hst, keeps1_of (stays_refl h), hda, rfl, fun i y e => by simp at e, hns⟩
    rintro ⟨i, h', tk', ys, rfl, p', hi, rfl, st, kk, hl, hlen, hf, ⟨m, hns⟩⟩
    by_cases hlt : i < n
    · refine wpAny_with_toks (n := tk') (Nat.le_refl _) (wz.item i _ _ _ hlt st fun v h₁ tk₁ hP st₁ k₁ l₁ => ?_)
      dsimp only
      have k1' : Keeps1 [I] h' h₁ := fun b o n e => k₁ b o (fun m => n (by rw [hwr b m]; simp)) e
      have ns1 : h₁.Ns C m := let ⟨oL, a1, a2, hL, a3⟩ := hns; ⟨oL, a1, a2, k1' _ _ (by simpa using hCI) hL, a3⟩
      have hl1 : h₁.IsList Da ys.toArray := let ⟨o, e, r⟩ := hl; ⟨o, k1' _ _ (by simpa using hDI) e, r⟩
      have F1 := FrL.of ns1
      refine wpAny_assign_Name (wpAny_mono ((d_store (c := c) (A := A) (E := fun _ _ => False) (Q := fun _ h₂ => FrL (h₁.hide C) C h₂ [(x, v)]) hE F1 (fun h₂ F2 => F2) hkind hx).run tk₁ (Nat.lt_of_lt_of_le p' l₁)) (fun _ s₂ ⟨h₂, t₂, p₂, e₂, F2⟩ => ?_) fun _ _ ⟨_, _, _, _, z⟩ => z.elim)
      subst e₂
      have st2 : St (i + 1) h₂ := src_kept W st₁ hC F2.keep
      have kk2 : Keeps1 [I, Da, C] h h₂ := keeps1_trans kk (keeps1_trans (keeps1_more k1' (by simp)) (keeps1_more (keeps1_hide F2.keep) (by simp)))
      have hl2 : h₂.IsList Da ys.toArray := let ⟨o, e, r⟩ := hl1; ⟨o, F2.keep _ _ (hide_of e (Ne.symm hCD)), r⟩
      have F3 := F2.all
      refine wpAny_mono ((step i v h₂ hlt hP (fun b o e => of_cut (cut_mono kk2 b o e)) (Ib st2) (let ⟨o, e, _⟩ := hl2; ⟨o, e⟩) F3).run t₂ p₂) (fun y s₃ ⟨h₃, t₃, p₃, e₃, k₃, ⟨m₃, ns3⟩, f₃⟩ => ?_) fun _ _ ⟨_, _, _, _, z⟩ => z.elim
      subst e₃
      have st3 : St (i + 1) h₃ := src_kept W st2 hC k₃
      have hl3 : h₃.IsList Da ys.toArray := let ⟨o, e, r⟩ := hl2; ⟨o, k₃ _ _ (hide_of e (Ne.symm hCD)), r⟩
      refine wpAny_list_append (s := c.st h₃ t₃) hl3 (fun h₄ hl4 sb => ?_) (by rw [sizeLine_eq, List.size_toArray, hlen]; omega)
      refine ⟨n + 1 - (i + 1), by omega, i + 1, h₄, t₃, ys ++ [y], rfl, p₃, by omega, rfl, ?_, ?_, ?_, by simp [hlen], ?_, ⟨m₃, ?_⟩⟩
      · exact wz.frame _ _ _ st3 fun b hb o e => (sb.2 b fun z => hD (z ▸ hb)).trans e
      · have : Keeps1 [I, Da, C] h₃ h₄ := fun b o n e => (sb.2 b fun z => n (by simp [z])).trans e
        exact keeps1_trans kk2 (keeps1_trans (keeps1_more (keeps1_hide k₃) (by simp)) this)
      · simpa using hl4
      · have k34 : Keeps1 [I, Da, C] h₃ h₄ := fun b o n e => (sb.2 b fun z => n (by simp [z])).trans e
        have k23 : Keeps1 [I, Da, C] h' h₃ := keeps1_trans (keeps1_more k1' (by simp)) (keeps1_trans (keeps1_more (keeps1_hide F2.keep) (by simp)) (keeps1_more (keeps1_hide k₃) (by simp)))
        intro j z hz'
        by_cases hj : j < ys.length
        · rw [List.getElem?_append_left hj] at hz'
          exact hF _ _ _ _ (cut_mono (keeps1_trans k23 k34)) (hf j z hz')
        · rw [List.getElem?_append_right (by omega)] at hz'
          have hj0 : j - ys.length = 0 := by
            cases hq : j - ys.length with
            | zero => rfl
            | succ q => rw [hq] at hz'; simp at hz'
          rw [hj0] at hz'; simp at hz'; subst hz'
          have : j = i := by omega
          subst this
          exact hF _ _ _ _ (cut_mono k34) f₃
      · exact let ⟨oL, a1, a2, hL, a3⟩ := ns3; ⟨oL, a1, a2, (sb.2 C hCD).trans hL, a3⟩
    · have hin : i = n := by omega
      subst hin
      refine wpAny_with_toks (n := tk') (Nat.le_refl _) (wz.done _ _ _ st fun h₁ tk₁ k₁ l₁ => ?_)
      have k1' : Keeps1 [I] h' h₁ := fun b o n e => k₁ b o (fun m => n (by rw [hwr b m]; simp)) e
      have k3 : Keeps1 [I, Da, C] h' h₁ := keeps1_more k1' (by simp)
      exact .mk (h := h₁) (Nat.lt_of_lt_of_le p' l₁) (done h₁ ys (keeps1_trans kk k3) (let ⟨o, e, r⟩ := hl; ⟨o, k1' _ _ (by simpa using hDI) e, r⟩) hlen (fun i y e => hF _ _ _ _ (cut_mono k3) (hf i y e)) ⟨m, let ⟨oL, a1, a2, hL, a3⟩ := hns; ⟨oL, a1, a2, k1' _ _ (by simpa using hCI) hL, a3⟩⟩)
  exact codeAny_compStart_list (key tk p) (wz.self 0 _ _ _ hst (key tk p))
end
end
section
open PySem.Builtin.SmallTypes (nextOf)
section
variable {prog : Program} {w : World} {A : Around} {E : Value → Shared → Prop} {s : Shared}
/-- a tuple's iterator asked once: the item, or the end -/
theorem tupAsk {it t : Addr} {i : Nat} {items : Array Value} {Q : Value → Shared → Prop} (hit : s.heap.IsTupleIter it t i) (ht : s.heap.IsTuple t items)
    (more : ∀ x h', items[i]? = some x → h'.IsTupleIter it t (i + 1) → Heap.SameBut it s.heap h' → Q x { s with heap := h' })
    (over : items[i]? = none → A.handled = none ∧ ∀ h' e, Heap.ExtBut it s.heap h' → (∃ o, h'.get? e = some o ∧ o.cls = .type "StopIteration") → E (.ref e) { s with heap := h' }) : wpAny (model prog w) A (nextOf (.ref it)) Q E s := by
  have ty := hit.typeIs
  obtain ⟨⟨c, d, _, sl⟩, e0, rfl, rfl⟩ := hit
  obtain ⟨oT, eT, -, m, dT⟩ := ht
  unfold nextOf
  refine wpAny_bind (wpAny_callSpecial?_slot (name := Str.ofString "__next__") ty F.slot_tuple_iterator_next (wpAny_call_entry F.slot_tuple_iterator_next ty F.entry_tuple_iterator_next ?_ (F.args_tuple_iterator_next_1 _)))
  wp_walk using wpAny_field e0 rfl (x := .ref t) rfl, wpAny_field e0 rfl (x := .int i 0) rfl, wpAny_seqItems eT dT
  rw [Int.toNat_natCast]
  cases at_ : items[i]? with
  | some x =>
    wp_walk using wpAny_setField e0 rfl
    · simp
    · exact wpAny_pure ⟨x, rfl, wpAny_pure (more x _ at_ ⟨_, Heap.get?_update_self _ e0 rfl, rfl, rfl⟩ (Heap.SameBut.update ..))⟩
  | none =>
    obtain ⟨hh, over⟩ := over at_
    wp_walk using wpAny_setField e0 rfl
    · simp
    · show wpAny _ _ (newExc (.type "StopIteration") [] >>= raiseNew) _ _ _
      unfold newExc newTuple
      wp_walk using wpAny_newObj_type, wpAny_raiseNew_none (show A.in1.handled = none from hh)
      · refine over _ _ (fun b o n e => ?_) ⟨_, Heap.get?_push_size _ rfl, rfl⟩
        exact Heap.get?_push_of_some _ (Heap.get?_push_of_some _ (((Heap.SameBut.update ..).2 b n).trans e))
      all_goals size_fits
theorem tupDraws (hh : A.handled = none) (it l : Addr) (hne : l ≠ it) (items : Array Value) : Draws prog w A it [it, l] items.size (fun i v => items[i]? = some v) (fun i h => h.IsTupleIter it l i ∧ h.IsTuple l items) := by
  constructor
  · rintro i h ⟨⟨o, e, -⟩, -⟩
    exact ⟨o, e⟩
  · rintro i h h' ⟨⟨o, e, q⟩, u, f, r⟩ k
    exact ⟨⟨o, k _ (List.mem_cons_self ..) _ e, q⟩, u, k _ (List.mem_cons_of_mem _ (List.mem_singleton.mpr rfl)) _ f, r⟩
  · intro i s Q E _ st k
    exact tupAsk st.1 st.2 (fun x h' e a b => k x h' s.toks e ⟨a, st.2.extBut b.extBut hne⟩ b) fun e => by rw [Array.getElem?_eq_none_iff] at e; omega
  · intro s Q E st k
    exact tupAsk st.1 st.2 (fun x h' e _ _ => by rw [Array.getElem?_eq_none (Nat.le_refl _)] at e; cases e) fun _ => ⟨hh, k⟩
abbrev tupIt (t : Addr) : Obj := { cls := .type "tuple_iterator", data := .fields #[.ref t, .int 0 0] }
abbrev enumOf (it : Addr) : Obj := { cls := .type "enumerate", data := .fields #[.none, .bool false, .ref it, rawInt 0, .none, .none] }
theorem meets_enumT (l : Addr) (items : Array Value) (n : Nat) (dct : Option Addr) (sl : Array (Option Value)) : Meets (Builtin.«enumerate.__new__» ⟨[.type "enumerate", .ref l], []⟩) (fun _ R s => s.heap.get? l = some ⟨.type "tuple", dct, .seq items n, sl⟩ ∧
      R (.ok (.ret (.ref (s.heap.push (tupIt l)).objs.size))) { s with heap := (s.heap.push (tupIt l)).push (enumOf s.heap.objs.size) }) := by
  refine .of_wp fun prog w A R s z => ?_
  have tup : Heap.IsTuple s.heap l items := ⟨_, z.1, rfl, n, rfl⟩
  have isE := sub_enumerate
  wp_walk using AutoSeq1.wpAny_loadPart' z.1
  refine wpAny_stack_any fun st => wpAny_pure ?_
  split
  case' h_1 q _ _ _ _ _ => cases q == Value.type "enumerate"
  all_goals (wp_walk using AutoSeq1.wpAny_loadPart' z.1, wpAny_pyIter_tuple tup; exact ⟨_, rfl, z.2⟩)
end
section
variable {prog : Program} {w : World} {A : Around} {c : Cfg} {H h : Heap} {L : Addr} {bs : List (Str × Value)} {E : Value → Heap → Prop} {Q : Value → Heap → Prop}
abbrev EnumSrc (prog : Program) (w : World) (e it t : Addr) (items : Array Value) : Prop := ∀ A : Around, A.handled = none → WalksT prog w A e [e, it, t] [e, it] items.size
      (fun i vals => ∃ t x, items[i]? = some x ∧ vals = #[.int i t, x]) (fun i h => (∃ old, IsEnum h e it i old) ∧ (h.IsTupleIter it t i ∧ h.IsTuple t items))
      (fun i T h => (∃ x, IsEnumOut h e it ((i : Int) + 1) x T) ∧ (h.IsTupleIter it t (i + 1) ∧ h.IsTuple t items) ∧ T ≠ e ∧ T ≠ it)
theorem d_enumTup {t : Addr} {items : Array Value} (ht : h.IsTuple t items)
    (q : ∀ h' e it, h.StaysIn h' → h.get? e = none → h.get? it = none → e ≠ it → EnumSrc prog w e it t items → (∃ old, IsEnum h' e it (0 : Nat) old) → h'.IsTupleIter it t 0 → h'.IsTuple t items → Q (.ref e) h') :
    D (model prog w) A c (call (.type "enumerate") ([] ++ [.ref t])) h Q E := ⟨fun tk p => by
  obtain ⟨⟨cl, dct, dt, sl⟩, hl, hc, n, hd⟩ := ht
  replace hc : cl = .type "tuple" := hc
  replace hd : dt = .seq items n := hd
  subst hc hd
  refine callType_new F.called_enumerate (by decide) (F.typeCall_enumerate_1 _) (F.newCall_enumerate_1 _) (fun obj => F.args_object_init_2 obj _) F.entry_enumerate_new (meets_enumT t items n dct sl) ⟨hl, ?_⟩
  have hz : (h.push { cls := .type "tuple_iterator", data := .fields #[.ref t, .int 0 0] }).objs.size = h.objs.size + 1 := Heap.size_push ..
  show _ ∧ _
  rw [show (c.st h tk).heap = h from rfl, hz]
  have he : IsEnum ((h.push { cls := .type "tuple_iterator", data := .fields #[.ref t, .int 0 0] }).push
      { cls := .type "enumerate", data := .fields #[.none, .bool false, .ref h.objs.size, rawInt 0, .none, .none] }) (h.objs.size + 1) h.objs.size (0 : Nat) .none := by
    have := Heap.get?_push_size (h.push { cls := .type "tuple_iterator", data := .fields #[.ref t, .int 0 0] })
      (o := { cls := .type "enumerate", data := .fields #[.none, .bool false, .ref h.objs.size, rawInt 0, .none, .none] }) rfl
    rw [hz] at this; exact this
  have kk : h.StaysIn ((h.push { cls := .type "tuple_iterator", data := .fields #[.ref t, .int 0 0] }).push { cls := .type "enumerate", data := .fields #[.none, .bool false, .ref h.objs.size, rawInt 0, .none, .none] }) := stays_trans (stays_push _) (stays_push _)
  have n1 : h.get? (h.objs.size + 1) = none := by
    cases e : h.get? (h.objs.size + 1) with
    | none => rfl
    | some o => exact absurd (Heap.lt_size e) (Nat.not_lt.mpr (Nat.le_succ _))
  have tne : t ≠ h.objs.size := Nat.ne_of_lt (Heap.lt_size hl)
  have tne1 : t ≠ h.objs.size + 1 := Nat.ne_of_lt (Nat.lt_succ_of_lt (Heap.lt_size hl))
  exact ⟨⟨_, he, rfl⟩, .mk (h := _) p (q _ (h.objs.size + 1) h.objs.size kk n1 (not_get_size h) (Nat.succ_ne_self _)
    (fun A hA => WalksT.enumerateD (tupDraws (A := A.in1) hA h.objs.size t tne items) (h.objs.size + 1) (Nat.succ_ne_self _) (by simp [Nat.succ_ne_self, Ne.symm tne1]) (by simp))
    ⟨_, he⟩ ⟨_, Heap.get?_push_of_some _ (Heap.get?_push_size _ rfl), rfl, rfl⟩ ⟨_, kk _ _ hl, rfl, n, rfl⟩)⟩⟩
end

section
variable {prog : Program} {w : World} {A : Around} {c : Cfg} {H h : Heap} {L : Addr} {bs : List (Str × Value)} {E : Value → Heap → Prop} {Q : Value → Heap → Prop} {cenv : Env} {pos px py pt : Pos} {scope : Scope}
/-- a tuple of names is bound -/
theorem d_assign2 {x y : Str} {T : Addr} {v u : Value} {k : Nat} {Q : Unit → Heap → Prop} (hA : A.handled = none) (hT : h.IsTuple T #[v, u])
    (q : ∀ h', h.StaysIn h' → D (model prog w) A c (storeName cenv x v) h' (fun _ h₁ => D (model prog w) A c (storeName cenv y u) h₁ Q E) E) :
    D (model prog w) A c (assign (.Tuple [.Name x px, .Name y py] k pt) cenv (.ref T)) h Q E := ⟨fun tk p => by
  refine wpAny_assign_Tuple (s := c.st h tk) hA hT rfl rfl (fun h' eb => ?_)
  have kk : h.StaysIn h' := fun b o e => eb b o (Nat.ne_of_lt (Heap.lt_size e)) e
  show wpAny _ _ (assignInOrder [fun v => assign (.Name x px) cenv v, fun v => assign (.Name y py) cenv v] [v, u]) _ _ (c.st h' tk)
  refine wpAny_assignInOrder_more (wpAny_assign_Name (wpAny_mono ((q h' kk).run tk p) (fun _ s ⟨h₁, t₁, p₁, e₁, q₁⟩ => ?_) fun _ _ z => z))
  subst e₁
  exact wpAny_assignInOrder_more (wpAny_assign_Name (wpAny_mono (q₁.run t₁ p₁) (fun _ s z => wpAny_assignInOrder_none z) fun _ _ z => z))⟩
theorem valueAt_stored {K : Type} [DecidableEq K] (kvs : List (K × Value)) (k k' : K) (v : Value) : valueAt (stored kvs k v) k' = if k' = k then some v else valueAt kvs k' := by
  unfold stored
  by_cases ha : (kvs.any fun kv => decide (kv.1 = k)) = true
  · rw [if_pos ha]
    induction kvs with
    | nil => simp at ha
    | cons kv r ih =>
      unfold valueAt at ih ⊢
      rw [List.map_cons, List.find?_cons, List.find?_cons]
      by_cases h1 : kv.1 = k
      · simp only [h1, if_true]
        by_cases h2 : k = k'
        · subst h2; simp
        · have h3 : ¬ k' = k := fun z => h2 z.symm
          simp only [decide_eq_false h2, if_neg h3]
          by_cases hr : (r.any fun kv => decide (kv.1 = k)) = true
          · have := ih hr; rw [if_neg h3] at this; exact this
          · congr 1
            have : r.map (fun kv => if kv.1 = k then (kv.1, v) else kv) = r := by
              conv => rhs; rw [← List.map_id r]
              refine List.map_congr_left fun x hx => ?_
              have : ¬ x.1 = k := fun z => hr (List.any_eq_true.mpr ⟨x, hx, by simpa using z⟩)
              simp [this]
            rw [this]
      · simp only [h1, if_false]
        by_cases h2 : kv.1 = k'
        · have h3 : ¬ k' = k := fun z => h1 (h2.trans z)
          simp [h2, h3]
        · simp only [decide_eq_false h2]
          have hr : (r.any fun kv => decide (kv.1 = k)) = true := by
            rw [List.any_cons] at ha; simpa [h1] using ha
          exact ih hr
  · rw [if_neg ha]
    unfold valueAt
    rw [List.find?_append]
    by_cases h2 : k' = k
    · subst h2
      have : (kvs.find? fun kv => decide (kv.1 = k')) = none := by
        rw [List.find?_eq_none]; intro x hx hz
        exact ha (List.any_eq_true.mpr ⟨x, hx, hz⟩)
      rw [this]; simp
    · have h3 : ¬ k = k' := fun z => h2 z.symm
      simp [h3, h2]
/-- {KEY: VALUE for i, f in enumerate(t)} -/
theorem dc_compD {kx vx iter : Expr} {x y : Str} {k : Nat} {e it Da C t : Addr} {items : Array Value} {R : Result → Heap → Prop} (nm : Nat → Str)
    (W : EnumSrc prog w e it t items) (hA : A.handled = none) (hE : EnvIs scope C cenv) (hCe : C ≠ e) (hCi : C ≠ it) (hCt : C ≠ t) (hDe : Da ≠ e) (hDi : Da ≠ it) (hDt : Da ≠ t) (hCD : C ≠ Da) (hz : items.size ≤ 16000000)
    (hst : ∃ old, IsEnum h e it (0 : Nat) old) (hit : h.IsTupleIter it t 0) (ht : h.IsTuple t items) (hda : h.DictOf (strKind prog w) Da []) (hns : ∃ m, h.Ns C m)
    (step : ∀ (i : Nat) v u h₁, items[i]? = some v → (cut [e, it, Da, C] h).StaysIn h₁ → FrL (h₁.hide C) C h₁ [(y, v), (x, .int i u)] →
      D (model prog w) A c (eval kx cenv) h₁ (fun kv h₂ => (∃ t, kv = .str (nm i) t) ∧ FrL (h₁.hide C) C h₂ [(y, v), (x, .int i u)] ∧ D (model prog w) A c (eval vx cenv) h₂ (fun vv h₃ => (∃ t, vv = .int i t) ∧ FrL (h₁.hide C) C h₃ [(y, v), (x, .int i u)]) (fun _ _ => False)) (fun _ _ => False))
    (hinj : ∀ i j, i < items.size → j < items.size → nm i = nm j → i = j)
    (done : ∀ h' kvs, Keeps1 [e, it, Da, C] h h' → h'.DictOf (strKind prog w) Da kvs → (∀ i < items.size, ∃ u, valueAt kvs (nm i) = some (.int i u)) → (∃ m, h'.Ns C m) → R (.ok .next) h')
    (hx : scope.names.lookup x = some .local) (hy : scope.names.lookup y = some .local) (hkind : scope.kind = .function) :
    DC (model prog w) A c (.compStart (.DictComp kx vx [⟨.Tuple [.Name x px, .Name y py] k pt, iter, [], 0⟩] scope pos) 0 (.ref e) (.ref Da) cenv) h R := by
  refine ⟨fun tk p => ?_⟩
  have wz := W A hA
  have key : ∀ tk, 0 < tk → codeAny (model prog w) A (.compLoop (.DictComp kx vx [⟨.Tuple [.Name x px, .Name y py] k pt, iter, [], 0⟩] scope pos) 0 (.ref e) (.ref Da) cenv) (Lf c R) (c.st h tk) := by
    intro tk p
    refine codeAny_loop rfl (fun k s => ∃ (i : Nat) (h' : Heap) (tk' : Nat) (kvs : List (Str × Value)), s = c.st h' tk' ∧ 0 < tk' ∧ i ≤ items.size ∧ k = items.size + 1 - i ∧ ((∃ old, IsEnum h' e it i old) ∧ (h'.IsTupleIter it t i ∧ h'.IsTuple t items)) ∧ Keeps1 [e, it, Da, C] h h' ∧
        h'.DictOf (strKind prog w) Da kvs ∧ kvs.length ≤ i ∧ (∀ j < i, ∃ u, valueAt kvs (nm j) = some (.int j u)) ∧ (∃ m, h'.Ns C m))
      (fun k s => ?_) (items.size + 1) ⟨0, h, tk, [], rfl, p, Nat.zero_le _, rfl, ⟨hst, hit, ht⟩, keeps1_of (stays_refl h), hda, Nat.le_refl _, fun j hj => absurd hj (Nat.not_lt_zero _), hns⟩
    rintro ⟨i, h', tk', kvs, rfl, p', hi, rfl, st, kk, hd, hlen, hf, ⟨m, hns⟩⟩
    show wpAny _ A ((compTurn _ 0 (.ref e) (.ref Da) cenv).onRaise (fun x => do noteFrame x cenv; theTreesLotGoes x)) _ _ _
    refine wpAny_noted ?_
    rw [compTurn_dict]
    refine wpAny_bind (wpAny_standAt (wpAny_bind ?_))
    by_cases hlt : i < items.size
    · refine wpAny_with_toks (n := tk') (Nat.le_refl _) (wz.item i _ _ _ hlt st fun T vals h₁ tk₁ hP hTs hT mid k₁ l₁ => ?_)
      obtain ⟨u, v, hv, rfl⟩ := hP
      refine wpAny_bind (wz.go _ _ _ i T _ _ _ mid fun h₂ st₂ k₂ => ?_)
      have hapart := wz.apart i T _ mid
      have hT2 : h₂.IsTuple T #[.int i u, v] := let ⟨o, e, r⟩ := hT; ⟨o, k₂ _ o hapart e, r⟩
      have k02 : Keeps1 [e, it] h' h₂ := keeps1_trans k₁ k₂
      have ns2 : h₂.Ns C m := let ⟨oL, a1, a2, hL, a3⟩ := hns; ⟨oL, a1, a2, k02 _ _ (by simp [hCe, hCi]) hL, a3⟩
      have hd2 : h₂.DictOf (strKind prog w) Da kvs := hd.at fun o e => k02 _ _ (by simp [hDe, hDi]) e
      have kk2 : Keeps1 [e, it, Da, C] h h₂ := keeps1_trans kk (keeps1_more k02 (by simp))
      have as := (d_assign2 (prog := prog) (w := w) (c := c) (A := A) (E := fun _ _ => False) (cenv := cenv) (px := px) (py := py) (pt := pt) (x := x) (y := y) (k := k) (Q := fun _ h₃ => FrL (h₂.hide C) C h₃ [(y, v), (x, .int i u)]) hA hT2 (fun h2' kk' =>
        d_store hE (FrL.of (ns_same ns2 kk')) (fun h₃ F3 => d_store hE F3 (fun h₄ F4 => F4.down (cut_mono (ws := [C]) (keeps1_of kk')) (Heap.hide_self _ _)) hkind hy) hkind hx)).run tk₁ (Nat.lt_of_lt_of_le p' l₁)
      refine wpAny_bind (wpAny_mono as (fun _ s₃ ⟨h₃, t₃, p₃, e₃, F3⟩ => ?_) fun _ _ ⟨_, _, _, _, z⟩ => z.elim)
      subst e₃
      have kk3 : Keeps1 [e, it, Da, C] h h₃ := keeps1_trans kk2 (keeps1_more (keeps1_hide F3.keep) (by simp))
      refine wpAny_bind (wpAny_tests_nil ?_)
      rw [if_pos rfl]
      refine wpAny_bind (wpAny_bind (wpAny_mono ((step i v u h₃ hv (fun b o e => of_cut (cut_mono kk3 b o e)) F3.all).run t₃ p₃) (fun kv s₄ ⟨h₄, t₄, p₄, e₄, ⟨tt, ekv⟩, F4, z4⟩ => ?_) fun _ _ ⟨_, _, _, _, z⟩ => z.elim))
      subst e₄ ekv
      refine wpAny_bind (wpAny_holding (wpAny_mono (z4.run t₄ p₄) (fun vv s₅ ⟨h₅, t₅, p₅, e₅, ⟨tv, evv⟩, F5⟩ => ?_) fun _ _ ⟨_, _, _, _, z⟩ => z.elim))
      subst e₅ evv
      have k25 : Keeps1 [C] h₂ h₅ := keeps1_trans (keeps1_hide F3.keep) (keeps1_hide F5.keep)
      have hd5 : h₅.DictOf (strKind prog w) Da kvs := hd2.at fun o e => k25 _ _ (by simpa using Ne.symm hCD) e
      refine wpAny_bind (wpAny_standAt (wpAny_holding (wpAny_dictSet_pairs (s := c.st h₅ t₅) (hsz := by rw [sizeLine_eq]; omega) (strKind_is prog w (nm i) tt) hd5 (fun h₆ hd6 sb => ?_))))
      refine wpAny_pure ⟨rfl, items.size + 1 - (i + 1), by omega, i + 1, h₆, t₅ + 1, stored kvs (nm i) (.int i tv), rfl, Nat.succ_pos _, by omega, rfl, ?_, ?_, hd6, ?_, ?_, ?_⟩
      · refine wz.frame _ _ _ st₂ fun b hb o e => (sb.2 b fun z => ?_).trans (k25 b o (by
          simp at hb ⊢; rcases hb with rfl | rfl | rfl
          · exact Ne.symm hCe
          · exact Ne.symm hCi
          · exact Ne.symm hCt) e)
        simp at hb; rcases hb with rfl | rfl | rfl
        · exact hDe z.symm
        · exact hDi z.symm
        · exact hDt z.symm
      · exact keeps1_trans kk2 (keeps1_trans (keeps1_more k25 (by simp)) fun b o n e => (sb.2 b fun z => n (by simp [z])).trans e)
      · have := stored_length_le kvs (nm i) (.int i tv); omega
      · intro j hj
        rw [valueAt_stored]
        by_cases hji : j = i
        · subst hji; rw [if_pos rfl]; exact ⟨_, rfl⟩
        · rw [if_neg fun z => hji (hinj j i (by omega) hlt z)]
          exact hf j (by omega)
      · obtain ⟨m5, n5, _⟩ := F5.ns
        exact ⟨m5, let ⟨oL, a1, a2, hL, a3⟩ := n5; ⟨oL, a1, a2, (sb.2 C hCD).trans hL, a3⟩⟩
    · have hin : i = items.size := by omega
      subst hin
      refine wpAny_with_toks (n := tk') (Nat.le_refl _) (wz.done _ _ _ st fun h₁ tk₁ k₁ l₁ => ?_)
      refine wpAny_pure ?_
      exact .mk (h := h₁) (Nat.lt_of_lt_of_le p' l₁) (done h₁ kvs (keeps1_trans kk (keeps1_more k₁ (by simp))) (hd.at fun o e => k₁ _ _ (by simp [hDe, hDi]) e) (fun j hj => hf j hj)
        ⟨m, let ⟨oL, a1, a2, hL, a3⟩ := hns; ⟨oL, a1, a2, k₁ _ _ (by simp [hCe, hCi]) hL, a3⟩⟩)
  exact codeAny_compStart_dict (key tk p) (wz.self 0 (c.st h tk) _ _ ⟨hst, hit, ht⟩ (key tk p))
end
end
section
def nmz : List String := ["type", "value", "units", "id"]
def nm (j : Nat) : Str := Str.ofString (nmz[j]?.getD "")
theorem nm_inj : ∀ i j, i < 4 → j < 4 → nm i = nm j → i = j := by
  have h : ∀ i : Fin 4, ∀ j : Fin 4, nm i = nm j → i = j := by decide +kernel
  intro i j hi hj e
  have := h ⟨i, hi⟩ ⟨j, hj⟩ e
  simpa using this
def fldA : Array Value := #[.ref 372, .ref 373, .ref 374, .ref 375]
section
variable {prog : Program} {w : World} {A : Around} {c : Cfg} {K : Frag} {H h : Heap} {L C : Addr} {bs : List (Str × Value)} {E : Value → Heap → Prop} {env : Env} {pos : Pos} {p : Program} {loose : List Str} {mg mb : Str → Option Value} {x dx l : Addr} {tk st : Value} {vs : Array Value}
theorem ite_no {P Q : Prop} {b : Bool} (h : b = false) (q : Q) : (if b = true then P else Q) := by subst h; exact q
theorem ite_yes {P Q : Prop} {b : Bool} (h : b = true) (p : P) : (if b = true then P else Q) := by subst h; exact p
theorem d_try {body orelse : List Stmt} {h₀ : ExceptHandler} {hs : List ExceptHandler} {Q : Flow → Heap → Prop}
    (k : D (model prog w) A c (execs body env) h (fun f h₁ => match f with | .next => D (model prog w) A c (execs orelse env) h₁ Q E | f => Q f h₁) (fun _ _ => False)) : D (model prog w) A c (exec (.Try body (h₀ :: hs) orelse [] pos) env) h Q E :=
  ⟨fun tk p => wpAny_Try_except (wpAny_mono (k.run tk p) (fun f s ⟨h', tk', p', e, q⟩ => by subst e; cases f <;> first | exact q.run tk' p' | exact .mk p' q) fun _ _ ⟨_, _, _, _, z⟩ => z.elim)⟩
theorem d_clsVal {mc v : Value} {name : Str} {expr : Bool} {Q : Value → Heap → Prop} (X : K.In h) (hr : readsIn K C mc = true) (e : findCls K (.ref C) mc name = some (.val v)) (hh : handedIn v = true) (q : Q v h) : D (model prog w) A c (getAttr (.ref C) name expr) h Q E :=
  ⟨fun tk p => cls_value (s := c.st h tk) X hr e hh (.mk (Nat.succ_pos _) q)⟩
theorem d_dictComp {kx vx : Expr} {gens : List Comprehension} {scope : Scope} {Q : Value → Heap → Prop}
    (k : D (model prog w) A c (comprehension (.DictComp kx vx gens scope pos) scope env (firstIterPos gens pos) newDict (firstAsync gens) (firstIter gens env)) h Q E) : D (model prog w) A c (eval (.DictComp kx vx gens scope pos) env) h Q E := k
theorem d_newDict {Q : Value → Heap → Prop} (q : ∀ h' D, h.StaysIn h' → h.get? D = none → h'.DictOf (strKind prog w) D [] → Q (.ref D) h') : D (model prog w) A c newDict h Q E := ⟨fun tk p =>
  wpAny_newObj_type (.mk (h := h.push _) p (q _ _ (stays_push _) (not_get_size h) (Heap.DictOf.new h)))⟩
theorem d_tailDict {value slice : Expr} {d : Addr} {kvs : List (Str × Value)} {x : Str} {t : Tok} {v : Value} {Q : Value → Heap → Prop} (hd : h.DictOf (strKind prog w) d kvs) (hv : valueAt kvs x = some v) (q : Q v h)
    (hs : subscripted slice false (.ref d) (.str x t) = operate [.ref d, .str x t] (getItem (.ref d) (.str x t)) := by with_unfolding_all rfl) : D (model prog w) A c (subscriptTail value slice (.ref d) (.str x t)) h Q E := ⟨fun tk p =>
  tail_any (s := c.st h tk) (Heap.DictOf.typeIs hd) slot_dict_getitem.lookup (wpAny_getItem_of (strKind_is prog w x t) hd.mapOf hv (.mk (Nat.succ_pos _) q)) hs⟩
theorem d_lenTup {a : Addr} {items : Array Value} {Q : Value → Heap → Prop} (ha : IsTup h a items) (hz : items.size ≤ 16000000) (q : ∀ t, Q (.int items.size t) h) : D (model prog w) A c (call (.builtin "len") [.ref a]) h Q E := ⟨fun tk pp =>
  len_tuple (s := c.st h tk) ha (by omega) (.mk (h := h) (Nat.succ_pos _) (q _))⟩
theorem fld_K (P : Params) : ∃ oc od sl n, (hd.heap_39 P).lookup 376 = some ⟨oc, od, .seq fldA n, sl⟩ ∧ oc = .type "tuple" := ⟨_, _, _, _, by k_is, rfl⟩
theorem fld_at (P : Params) : ∀ i v, fldA[i]? = some v → ∃ a d t oc od sl n, v = .ref a ∧ (hd.heap_39 P).lookup a = some ⟨oc, od, .seq #[d, .str (nm i) t] n, sl⟩ ∧ oc = .type "tuple" := by
  intro i v e
  have : i < 4 := by
    by_cases z : i < 4
    · exact z
    · rw [Array.getElem?_eq_none (by show fldA.size ≤ i; have : fldA.size = 4 := rfl; omega)] at e; cases e
  rcases i with _ | _ | _ | _ | i
  · cases e; exact ⟨372, _, _, _, _, _, _, rfl, by k_is, rfl⟩
  · cases e; exact ⟨373, _, _, _, _, _, _, rfl, by k_is, rfl⟩
  · cases e; exact ⟨374, _, _, _, _, _, _, rfl, by k_is, rfl⟩
  · cases e; exact ⟨375, _, _, _, _, _, _, rfl, by k_is, rfl⟩
  · omega
theorem d_kof {fn : Expr} {args : List Expr} {q1 q2 q3 q4 q5 q6 q7 q8 pz : Pos} {scope sc : Scope} {Q : Value → Heap → Prop} (hE : EnvIs sc L env) (hA : A.handled = none) (hsc : scope = { kind := .function, names := [(Str.ofString ".0", .local), (Str.ofString "k", .local), (Str.ofString "f", .local)], isGenerator := false, isCoroutine := false })
    (k : D (model prog w) A c (eval (.Call fn args [] q7) env) h (fun xv h₁ => ∃ e it, xv = .ref e ∧ EnumSrc prog w e it 376 fldA ∧ e ≠ it ∧ (∃ old, IsEnum h₁ e it (0 : Nat) old) ∧ h₁.IsTupleIter it 376 0 ∧ h₁.IsTuple 376 fldA ∧ (hd.heap_39 w.params).In (cut [e, it] h₁) ∧
      ∀ h' kvs D', Keeps1 [e, it] h₁ h' → h₁.get? D' = none → h'.DictOf (strKind prog w) D' kvs → (∀ i < 4, ∃ u, valueAt kvs (nm i) = some (.int i u)) → Q (.ref D') h') E) :
    D (model prog w) A c (eval (.DictComp (.Subscript (.Name (Str.ofString "f") q1) (.Constant (.int 1) 0 q2) q3) (.Name (Str.ofString "k") q4) [⟨.Tuple [.Name (Str.ofString "k") q5, .Name (Str.ofString "f") q6] 0 q8, .Call fn args [] q7, [], 0⟩] scope pz) env) h Q E := by
  subst hsc
  refine d_dictComp (d_comp hE (d_conseq k fun xv h₁ z => ?_) rfl (by intro _; rfl) (by decide) rfl (by decide) (by decide))
  obtain ⟨e, it, rfl, W, hei, he, hit, ht, X, q⟩ := z
  obtain ⟨old, he0⟩ := he
  refine ⟨fun tk p => (W A hA).self 0 (c.st h₁ tk) _ _ ⟨⟨old, he0⟩, hit, ht⟩ (.mk p (d_newDict (fun h₂ Da k2 n2 hda => ?_)))⟩
  intro h₃ C cenv nC k3 nsC hEc
  have gone : ∀ {a : Addr} {hh : Heap}, h₁.StaysIn hh → (∃ o, h₁.get? a = some o) → hh.get? C = none → C ≠ a := fun kk ⟨o, e⟩ n z => by rw [z, kk _ _ e] at n; cases n
  have e1 : ∃ o, h₁.get? e = some o := ⟨_, he0⟩
  have i1 : ∃ o, h₁.get? it = some o := let ⟨o, e, _⟩ := hit; ⟨o, e⟩
  have t1 : ∃ o, h₁.get? 376 = some o := let ⟨o, e, _⟩ := ht; ⟨o, e⟩
  have dne : ∀ {a : Addr}, (∃ o, h₁.get? a = some o) → Da ≠ a := fun ⟨o, e⟩ z => by rw [z, e] at n2; cases n2
  have d2 : ∃ o, h₂.get? Da = some o := let ⟨o, _, _, e, _⟩ := hda; ⟨o, e⟩
  have CD : C ≠ Da := fun z => by obtain ⟨o, e⟩ := d2; rw [z, e] at nC; cases nC
  have k13 := stays_trans k2 k3
  refine dc_compD (t := 376) nm W hA hEc (gone k2 e1 nC) (gone k2 i1 nC) (gone k2 t1 nC) (dne e1) (dne i1) (dne t1) CD (by decide) ⟨old, k13 _ _ he0⟩ (let ⟨o, e, r⟩ := hit; ⟨o, k13 _ _ e, r⟩) (let ⟨o, e, r⟩ := ht; ⟨o, k13 _ _ e, r⟩) (hda.at fun o e => k3 _ _ e) nsC ?_ (fun i j hi hj => nm_inj i j hi hj) ?_ rfl rfl rfl
  · intro i v u h₄ hv kc F
    obtain ⟨a, d, t, oc, od, sl, n, rfl, hl, hoc⟩ := fld_at w.params i v hv
    have Xa : h₄.get? a = some ⟨oc, od, .seq #[d, .str (nm i) t] n, sl⟩ := by
      have y := X _ _ hl
      have na : a ∉ [e, it] := fun m => by rw [cut_no m] at y; cases y
      have y1 := of_cut y
      refine kc _ _ (cut_of (k13 _ _ y1) ?_)
      simp only [List.mem_cons, List.not_mem_nil, or_false, not_or] at na ⊢
      exact ⟨na.1, na.2, fun z => dne ⟨_, y1⟩ z.symm, fun z => gone k2 ⟨_, y1⟩ nC z.symm⟩
    repeat walk_at "d1"
    refine d_tailTup (j := 1) ⟨_, Xa, hoc, n, rfl⟩ rfl (by decide) rfl ?_
    refine ⟨⟨t, rfl⟩, F, ?_⟩
    repeat walk_at "d1"
    exact ⟨⟨_, rfl⟩, F⟩
  · intro h₄ kvs k4 hd hval ⟨m, ns⟩
    refine ⟨m, ns, fun h' sb => ?_⟩
    refine q h' kvs Da ?_ n2 (hd.sameBut sb (Ne.symm CD)) hval
    intro b o nb eb
    have nbC : b ≠ C := fun z => gone k2 ⟨_, eb⟩ nC z.symm
    refine (sb.2 b nbC).trans (k4 b o ?_ (k13 _ _ eb))
    simp only [List.mem_cons, List.not_mem_nil, or_false, not_or] at nb ⊢
    exact ⟨nb.1, nb.2, fun z => dne ⟨_, eb⟩ z.symm, nbC⟩
theorem getattr_spec (T : Top0 w.params p loose mg mb h) (hroom : A.depth + 9 < recursionLimit) (hA : A.handled = none) (Sn : Sen w.params h x dx l tk st vs) (hz : vs.size ≤ 16000000) {j : Nat} (hj : j < 4) {t : Tok} {v : Value} (hv : vs[j]? = some v) {R : Result → Heap → Prop}
    (k : ∀ h', h.StaysIn h' → R (.ok (.ret v)) h') : DC (model prog w) A c (.call (.ref 132) ⟨[.ref x, .str (nm j) t], []⟩) h R := by
  refine dc_enter (K := hd.heap_39 w.params) (binds := [(Str.ofString "self", .ref x), (Str.ofString "name", .str (nm j) t)]) T.K T.T.nolimit (by k_is) (by k_is) (by omega) (fun _ => .of_eq rfl) (locs rfl) (fun L h₁ env hE F hL => ?_)
  repeat walk_at "d1"
  obtain ⟨⟨ta, tb, tc, I⟩, Il⟩ := Sn.keeps F.keep
  refine d_typeOwn I.at ?_
  repeat walk_at "d1"
  rename_i h₂ F2
  refine d_try ?_
  repeat walk_at "d1"
  refine d_kof hE hA rfl ?_
  repeat walk_at "d1"
  refine d_clsVal (K := hd.heap_39 w.params) (mc := .type "type") (T.K.keeps F2.keep) (by k_is) (v := .ref 376) (by k_is) rfl ?_
  repeat walk_at "d1"
  obtain ⟨oc, od, sl, n, hl, hoc⟩ := fld_K w.params
  have ht : h₂.IsTuple 376 fldA := ⟨_, F2.keep _ _ (T.K _ _ hl), hoc, n, rfl⟩
  refine d_enumTup ht (fun h₃ e it k3 ne ni hei W he hit ht3 => ?_)
  have F3 := F2.back k3
  have eL : e ≠ L := ne_of_new ne F2.at
  have iL : it ≠ L := ne_of_new ni F2.at
  have he0 : h.get? e = none := none_back F2 ne
  have hi0 : h.get? it = none := none_back F2 ni
  refine ⟨e, it, rfl, W, hei, he, hit, ht3, fun b o q => cut_of (F3.keep _ _ (T.K _ _ q)) ?_, fun h₄ kvs D' k4 nD hdd hval => ?_⟩
  · intro m
    have y := T.K _ _ q
    simp only [List.mem_cons, List.not_mem_nil, or_false] at m
    rcases m with rfl | rfl
    · rw [he0] at y; cases y
    · rw [hi0] at y; cases y
  have F4 := F3.but k4 (by simp [Ne.symm eL, Ne.symm iL]) (by simp [he0, hi0])
  repeat walk_at "d1"
  obtain ⟨u, hu⟩ := hval j hj
  refine d_tailDict hdd hu ?_
  repeat walk_at "d1"
  refine d_clsVal (K := hd.heap_39 w.params) (mc := .type "type") (T.K.keeps (FrL.keep (by assumption))) (by k_is) (v := .ref 376) (by k_is) rfl ?_
  repeat walk_at "d1"
  have hsz : fldA.size = 4 := rfl
  obtain ⟨vf, hvf⟩ : ∃ v, fldA[j]? = some v := ⟨fldA[j]'(by omega), Array.getElem?_eq_getElem (by omega)⟩
  have ht4 : ∀ {hh : Heap}, h.StaysIn hh → IsTup hh 376 fldA := fun kk => ⟨_, kk _ _ (T.K _ _ hl), hoc, n, rfl⟩
  refine d_tailTup (ht4 (FrL.keep (by assumption))) rfl (by omega) hvf ?_
  repeat walk_at "d1"
  rename_i h₅ F5
  obtain ⟨⟨ta5, tb5, tc5, I5⟩, Il5⟩ := Sn.keeps F5.keep
  refine d_getOwn (K := hd.heap_39 w.params) (T.K.keeps F5.keep) I5 (by k_is) (by k_is) (attr := none) (by k_is) rfl (v := .ref l) rfl rfl ?_
  repeat walk_at "d1"
  refine d_lenList Il5 hz (fun t => ?_)
  repeat walk_at "d1"
  have hlt : j < vs.size := by
    by_cases z : j < vs.size
    · exact z
    · rw [Array.getElem?_eq_none (by omega)] at hv; cases hv
  rw [decide_eq_true (by omega : ((j : Nat) : Int) < vs.size)]
  repeat walk_at "d1"
  refine d_getOwn (K := hd.heap_39 w.params) (T.K.keeps F5.keep) I5 (by k_is) (by k_is) (attr := none) (by k_is) rfl (v := .ref l) rfl rfl ?_
  repeat walk_at "d1"
  refine d_tailList Il5 rfl (by omega) hv ?_
  repeat walk_at "d1"
  rename_i h₆ F6
  obtain ⟨a, d, ts, oc', od', sl', n', rfl, hl', hoc'⟩ := fld_at w.params j vf hvf
  refine d_lenTup ⟨_, F6.keep _ _ (T.K _ _ hl'), hoc', n', rfl⟩ (by simp) (fun t => ?_)
  repeat walk_at "d1"
  exact k _ F6.keep
theorem nm_none (P : Params) (ta tb tc : Nat) (tk st : Value) (l : Addr) : ∀ j, j < 4 → getL (nm j) (xes P ta tb tc tk st l) = some none := by
  intro j hj
  rcases j with _ | _ | _ | _ | j <;> first | rfl | omega
theorem nm_cls (P : Params) : ∀ j, j < 4 → findIn (hd.heap_39 P) (.ref 394) (nm j) = some none := by
  intro j hj
  rcases j with _ | _ | _ | _ | j
  · show findIn (hd.heap_39 P) (.ref 394) (Str.ofString "type") = _; k_is
  · show findIn (hd.heap_39 P) (.ref 394) (Str.ofString "value") = _; k_is
  · show findIn (hd.heap_39 P) (.ref 394) (Str.ofString "units") = _; k_is
  · show findIn (hd.heap_39 P) (.ref 394) (Str.ofString "id") = _; k_is
  · omega
theorem nm_plain : ∀ j, j < 4 → copiedNames.contains (nm j) = false := by
  have h : ∀ i : Fin 4, copiedNames.contains (nm i) = false := by decide +kernel
  intro j hj; exact h ⟨j, hj⟩
/-- s.type and its like -/
theorem d_field (T : Top0 w.params p loose mg mb h) (hroom : A.depth + 9 < recursionLimit) (hA : A.handled = none) (Sn : Sen w.params h x dx l tk st vs) (hz : vs.size ≤ 16000000) {j : Nat} (hj : j < 4) {v : Value} (hv : vs[j]? = some v) (hh : handedIn v = true) {expr : Bool} {Q : Value → Heap → Prop}
    (k : ∀ h', h.StaysIn h' → Q v h') : D (model prog w) A c (getAttr (.ref x) (nm j) expr) h Q E := by
  obtain ⟨⟨ta, tb, tc, I⟩, Il⟩ := id Sn
  refine d_getHook (K := hd.heap_39 w.params) (f := 132) T.K I (by k_is) (findObj_none (by k_is) (nm_cls w.params j hj) (nm_plain j hj) (nm_none w.params ta tb tc tk st l j hj)) (by k_is) (by k_is) (fun t => d_call (getattr_spec (A := A.in1) T hroom hA Sn hz hj hv fun h' k' => ⟨hh, k h' k'⟩))
end
end
section
section
variable {prog : Program} {w : World} {A : Around} {c : Cfg} {H0 h : Heap} {p : Program} {loose : List Str} {mg mb : Str → Option Value} {x dx l : Addr} {tk st : Value} {vs : Array Value}
theorem setfield_spec (T : Top0 w.params p loose mg mb H0) (k0 : H0.StaysIn h) (hroom : A.depth + 9 < recursionLimit) (hA : A.handled = none) (Sn : Sen w.params h x dx l tk st vs) (nl : H0.get? l = none) (hz : vs.size ≤ 1000) {j : Nat} (hj : j < 4) (hjv : j < vs.size) {t u : Tok} {z : Int} (hzz : z.natAbs.log2 < 1920) {R : Result → Heap → Prop}
    (k : ∀ h' t', (∀ b o, b ≠ l → h.get? b = some o → h'.get? b = some o) → h'.IsList l (vs.setIfInBounds j (.str (S (txt z)) t')) → R (.ok (.ret .none)) h') : DC (model prog w) A c (.call (.ref 137) ⟨[.ref x, .str (nm j) t, .int z u], []⟩) h R := by
  refine dc_enter (K := hd.heap_39 w.params) (binds := [(Str.ofString "self", .ref x), (Str.ofString "name", .str (nm j) t), (Str.ofString "value", .int z u)]) (T.K.keeps k0) (T.T.nolimit.keeps k0) (by k_is) (by k_is) (by omega) (fun _ => .of_eq rfl) (locs rfl) (fun L h₁ env hE F0 hL => ?_)
  have T1 := T.keeps k0
  have lL : l ≠ L := fun z => by
    obtain ⟨o, e, _⟩ := Sn.l; rw [z, ← hL] at e; exact absurd (Heap.lt_size e) (Nat.lt_irrefl _)
  repeat walk_at "d1"
  obtain ⟨⟨ta, tb, tc, I⟩, Il⟩ := Sn.keeps F0.keep
  refine d_typeOwn I.at ?_
  repeat walk_at "d1"
  rename_i h₂ F2
  refine d_kof hE hA rfl ?_
  repeat walk_at "d1"
  refine d_clsVal (K := hd.heap_39 w.params) (mc := .type "type") (T1.K.keeps F2.keep) (by k_is) (v := .ref 376) (by k_is) rfl ?_
  repeat walk_at "d1"
  obtain ⟨oc, od, sl, n, hl, hoc⟩ := fld_K w.params
  have ht : h₂.IsTuple 376 fldA := ⟨_, F2.keep _ _ (T1.K _ _ hl), hoc, n, rfl⟩
  refine d_enumTup ht (fun h₃ e it k3 ne ni hei W he hit ht3 => ?_)
  have F3 := F2.back k3
  have eL : e ≠ L := ne_of_new ne F2.at
  have iL : it ≠ L := ne_of_new ni F2.at
  have he0 : h.get? e = none := none_back F2 ne
  have hi0 : h.get? it = none := none_back F2 ni
  refine ⟨e, it, rfl, W, hei, he, hit, ht3, fun b o q => cut_of (F3.keep _ _ (T1.K _ _ q)) ?_, fun h₄ kvs D' k4 nD hdd hval => ?_⟩
  · intro m
    have y := T1.K _ _ q
    simp only [List.mem_cons, List.not_mem_nil, or_false] at m
    rcases m with rfl | rfl
    · rw [he0] at y; cases y
    · rw [hi0] at y; cases y
  have F4 := F3.but k4 (by simp [Ne.symm eL, Ne.symm iL]) (by simp [he0, hi0])
  repeat walk_at "d1"
  obtain ⟨u, hu⟩ := hval j hj
  refine d_tailDict hdd hu ?_
  repeat walk_at "d1"
  rename_i h₅ F5 t5
  obtain ⟨⟨ta5, tb5, tc5, I5⟩, Il5⟩ := Sn.keeps F5.keep
  refine d_getOwn (K := hd.heap_39 w.params) (T1.K.keeps F5.keep) I5 (by k_is) (by k_is) (attr := none) (by k_is) rfl (v := .ref l) rfl rfl ?_
  repeat walk_at "d1"
  refine d_setItem Il5 rfl hjv (by omega) (fun h₆ hl6 sb => ?_)
  repeat walk_at "d1"
  exact k h₆ t5 (fun b o nb e => (sb.2 b nb).trans (F5.keep b o e)) hl6
end
end
section
open PySem.Builtin.Str in
def hexd (k : Nat) : Nat := if k < 10 then 48 + k else 55 + k
def hex2 (n : Nat) : List Nat := [hexd (n / 16), hexd (n % 16)]
open PySem.Builtin.Str in
def F2 : Percent := { zero := true, width := some 2, type := 88 }
open PySem.Builtin.Str in
def T2 (n : Nat) : List Nat := percentInt F2 (decide ((n : Int) < 0)) ((Nat.toDigits 16 (n : Int).natAbs).map Char.toNat)
open PySem.Builtin.Str in
theorem hex_case (n : Nat) (hn : n < 256) : (percentField F2 true (T2 n) = none ∧ T2 n = hex2 n) ∨ percentField F2 true (T2 n) = some (hex2 n) := by
  have h : ∀ i : Fin 256, (percentField F2 true (percentInt F2 false ((Nat.toDigits 16 i.1).map Char.toNat)) = none ∧ percentInt F2 false ((Nat.toDigits 16 i.1).map Char.toNat) = hex2 i.1) ∨ percentField F2 true (percentInt F2 false ((Nat.toDigits 16 i.1).map Char.toNat)) = some (hex2 i.1) := by decide +kernel
  have := h ⟨n, hn⟩
  have e : decide ((n : Int) < 0) = false := decide_eq_false (by omega)
  unfold T2
  rw [e]; exact this
open PySem.Builtin.Str in
theorem hex_res {tx : List Nat} {n : Nat} (hc : (percentField F2 true tx = none ∧ tx = hex2 n) ∨ percentField F2 true tx = some (hex2 n)) (r : Option (List Nat)) (e : percentField F2 true tx = r) : (r = none → tx = hex2 n) ∧ (∀ l, r = some l → l = hex2 n) := by
  subst e
  rcases hc with ⟨e1, e2⟩ | e
  · exact ⟨(fun _ => e2), (fun l z => by rw [e1] at z; cases z)⟩
  · exact ⟨(fun z => by rw [e] at z; cases z), fun l z => by rw [e] at z; cases z; rfl⟩
local macro_rules | `(tactic| walk_at "sz2") => `(tactic| first | decide +kernel | exact Nat.le_of_ble_eq_true rfl | (simp only [S_len]; (try simp only [hex2, List.length_cons, List.length_nil]); have hsl : (Str.ofString "*").length = 1 := rfl; omega))
local macro_rules | `(tactic| walk_at "ck") => `(tactic| refine wpAny_ite (KPc.ite_no (KPc.short_good (by kpc_g) (by walk_at "sz2")) ?_))
section
variable {prog : Program} {w : World} {A : Around} {c : Cfg} {h : Heap} {E : Value → Shared → Prop}
theorem hex_meets1 (n : Nat) (hn : n < 256) (t u : Tok) : Meets (Builtin.«str.__mod__» ⟨[.str ⟨#[42, 37, 48, 50, 88]⟩ t, .int (n : Int) u], []⟩) (fun _ R s => ∀ t' k, R (.ok (.ret (.str (S (sg "*" ++ hex2 n)) t'))) { s with toks := k }) := by
  apply KPc.meets_of
  intro _ _ _ _ _ _ hq
  rw [KPc.entry_is]
  unfold Builtin.Str.percentFormat
  refine wpAny_bind (wpAny_isInstance (typeIs_int _ _ _) F.sub_int_tuple ?_)
  refine wpAny_bind (wpAny_of_eq (a := none) rfl ?_)
  refine wpAny_bind (wpAny_of_eq (KPc.fills _ _) ?_)
  kpc_if
  refine wpAny_bind (wpAny_pure ?_)
  refine wpAny_bind ?_
  rw [KPc.range_list]
  refine KPc.start ?_
  intro _ _
  refine KPc.turn ?_; kpc_check; (repeat kpc_if)
  refine wpAny_pure ?_; kpc_piece
  refine KPc.turn ?_; kpc_check; (repeat kpc_if)
  refine wpAny_bind ?_; refine wpAny_holding ?_; (repeat kpc_if)
  have hc := hex_case n hn
  refine wpAny_bind (wpAny_of_eq (a := ((n : Nat) : Int)) rfl ?_); (repeat kpc_if)
  refine wpAny_pure (a := (T2 n, (none : Option Value), true)) ?_
  generalize T2 n = tx at hc ⊢
  dsimp only
  split
  all_goals (rename_i heq; first | have e2 := (hex_res hc _ heq).1 rfl | have e2 := (hex_res hc _ heq).2 _ rfl)
  all_goals (refine wpAny_pure ?_; refine KPc.after_add (by kpc_g) (y := S (hex2 n)) (by rw [e2]; rfl) (by kpc_obj) ?_; intro _ _)
  all_goals (refine KPc.turn ?_; walk_at "ck"; (repeat kpc_if))
  all_goals (refine wpAny_pure ?_; kpc_if; refine KPc.finish_ok (by kpc_g) (by walk_at "sz2") (T' := S (sg "*" ++ hex2 n)) (by rw [← S_app]; rfl) ?_; assumption)
theorem hex_meets2 (n : Nat) (hn : n < 256) (t u : Tok) : Meets (Builtin.«str.__mod__» ⟨[.str ⟨#[42, 37, 48, 50, 88, 13, 10]⟩ t, .int (n : Int) u], []⟩) (fun _ R s => ∀ t' k, R (.ok (.ret (.str (S (sg "*" ++ hex2 n ++ [13, 10])) t'))) { s with toks := k }) := by
  apply KPc.meets_of
  intro _ _ _ _ _ _ hq
  rw [KPc.entry_is]
  unfold Builtin.Str.percentFormat
  refine wpAny_bind (wpAny_isInstance (typeIs_int _ _ _) F.sub_int_tuple ?_)
  refine wpAny_bind (wpAny_of_eq (a := none) rfl ?_)
  refine wpAny_bind (wpAny_of_eq (KPc.fills _ _) ?_)
  kpc_if
  refine wpAny_bind (wpAny_pure ?_)
  refine wpAny_bind ?_
  rw [KPc.range_list]
  refine KPc.start ?_
  intro _ _
  refine KPc.turn ?_; kpc_check; (repeat kpc_if)
  refine wpAny_pure ?_; kpc_piece
  refine KPc.turn ?_; kpc_check; (repeat kpc_if)
  refine wpAny_bind ?_; refine wpAny_holding ?_; (repeat kpc_if)
  have hc := hex_case n hn
  refine wpAny_bind (wpAny_of_eq (a := ((n : Nat) : Int)) rfl ?_); (repeat kpc_if)
  refine wpAny_pure (a := (T2 n, (none : Option Value), true)) ?_
  generalize T2 n = tx at hc ⊢
  dsimp only
  split
  all_goals (rename_i heq; first | have e2 := (hex_res hc _ heq).1 rfl | have e2 := (hex_res hc _ heq).2 _ rfl)
  all_goals (refine wpAny_pure ?_; refine KPc.after_add (by kpc_g) (y := S (hex2 n)) (by rw [e2]; rfl) (by kpc_obj) ?_; intro _ _)
  all_goals (refine KPc.turn ?_; walk_at "ck"; (repeat kpc_if))
  all_goals (refine wpAny_pure ?_; refine KPc.after_add (by kpc_g) (y := S [13, 10]) (by rfl) (by kpc_obj) ?_; intro _ _)
  all_goals (refine KPc.turn ?_; walk_at "ck"; (repeat kpc_if))
  all_goals (refine wpAny_pure ?_; kpc_if; refine KPc.finish_ok (by kpc_g) (by walk_at "sz2") (T' := S (sg "*" ++ hex2 n ++ [13, 10])) (by rw [← S_app, ← S_app]; rfl) ?_; assumption)
theorem hex_meets3 (x : List Nat) (hx : x.length ≤ 100000) (n : Nat) (hn : n < 256) (t t1 u : Tok) (b : Addr) : Meets (Builtin.«str.__mod__» ⟨[.str ⟨#[36, 37, 115, 42, 37, 48, 50, 88]⟩ t, .ref b], []⟩)
    (fun _ R s => IsTup s.heap b #[.str (S x) t1, .int (n : Int) u] ∧ ∀ t' k, R (.ok (.ret (.str (S (sg "$" ++ x ++ sg "*" ++ hex2 n)) t'))) { s with toks := k }) := by
  apply KPt.meets_tup
  intro _ _ _ _ _ _ kptH hq
  obtain ⟨kptO, kptG, kptC, kptN, kptD⟩ := kptH
  rw [KPt.entry_is_r]
  unfold Builtin.Str.percentFormat
  refine wpAny_bind (wpAny_isInstance (T := "tuple") ⟨kptO, kptG, kptC⟩ KPt.sub_tt ?_)
  refine wpAny_bind (KPt.asStr_ref kptG kptD ?_)
  refine wpAny_bind (KPt.fills_ref ⟨kptO, kptG, kptC⟩ ?_)
  intro _
  kpc_if
  refine wpAny_bind (wpAny_seqItems kptG kptD ?_)
  refine wpAny_bind (wpAny_pure ?_)
  refine wpAny_bind ?_
  rw [KPc.range_list]
  refine KPc.start ?_
  intro _ _
  have hxl : (S x).length ≤ 100000 := by rw [S_len]; exact hx
  refine KPc.turn ?_; kpc_check; (repeat kpc_if)
  refine wpAny_pure ?_; kpc_piece
  refine KPc.turn ?_; kpc_check; (repeat kpc_if)
  refine wpAny_bind ?_; refine wpAny_holding ?_; (repeat kpc_if)
  refine wpAny_bind ?_; kpc_if; refine wpAny_of_eq (KPc.strOf_str _ _) ?_; refine wpAny_bind (wpAny_of_eq (a := some _) rfl ?_)
  refine wpAny_pure ?_; refine wpAny_pure ?_
  refine KPc.after_str (by kpc_g) (y := S x) hxl (by kpc_obj) ?_; intro _ _
  refine KPc.turn ?_; kpc_check; (repeat kpc_if)
  refine wpAny_pure ?_; kpc_piece
  refine KPc.turn ?_; kpc_check; (repeat kpc_if)
  refine wpAny_bind ?_; refine wpAny_holding ?_; (repeat kpc_if)
  have hc := hex_case n hn
  refine wpAny_bind (wpAny_of_eq (a := ((n : Nat) : Int)) rfl ?_); (repeat kpc_if)
  refine wpAny_pure (a := (T2 n, (none : Option Value), true)) ?_
  generalize T2 n = tx at hc ⊢
  dsimp only
  split
  all_goals (rename_i heq; first | have e2 := (hex_res hc _ heq).1 rfl | have e2 := (hex_res hc _ heq).2 _ rfl)
  all_goals (refine wpAny_pure ?_; refine KPc.after_add (by kpc_g) (y := S (hex2 n)) (by rw [e2]; rfl) (by kpc_obj) ?_; intro _ _)
  all_goals (refine KPc.turn ?_; walk_at "ck"; (repeat kpc_if))
  all_goals (refine wpAny_pure ?_; kpc_if; refine KPc.finish_ok (by kpc_g) (by walk_at "sz2") (T' := S (sg "$" ++ x ++ sg "*" ++ hex2 n)) (by rw [← S_app, ← S_app, ← S_app]; rfl) ?_; assumption)
end
end
section
local macro_rules | `(tactic| walk_at "sz2") => `(tactic| first | decide +kernel | exact Nat.le_of_ble_eq_true rfl | (simp only [S_len]; (try simp only [hex2, List.length_cons, List.length_nil]); have hsl : (Str.ofString "*").length = 1 := rfl; omega))
local macro_rules | `(tactic| walk_at "ck") => `(tactic| refine wpAny_ite (KPc.ite_no (KPc.short_good (by kpc_g) (by walk_at "sz2")) ?_))
local macro_rules | `(tactic| walk_at "hx") => `(tactic| (
  refine wpAny_pure ?_; refine KPc.after_add (by kpc_g) (y := S (hex2 _)) (by rw [e2]; rfl) (by kpc_obj) ?_; intro _ _
  refine KPc.turn ?_; walk_at "ck"; (repeat kpc_if)))
section
variable {prog : Program} {w : World} {A : Around} {c : Cfg} {h : Heap}
open PySem.Builtin.Str in
theorem hex_piece {M : Model} {A : Around} {E : Value → Shared → Prop} {s : Shared} {P : List Value} {R : List Nat} {w' : Writer} {T : Str} {N n : Nat} {o : Option Value} {f : Percent} {tx : List Nat} {K : ForInStep (List Value × Writer × List Nat) → Shared → Prop} (g : KPc.Good w' T N) (hn : n < 256) (hf : f = F2) (htx : tx = T2 n) (ho : o = none)
    (k : ∀ w'', KPc.Good w'' (T ++ S (hex2 n)) (N + 2) → K (.yield (P, w'', R)) s) :
    wpAny M A (match percentField f true tx with
      | none => pure (ForInStep.yield (P, w'.add ⟨tx.toArray⟩ o, R))
      | some laid => pure (ForInStep.yield (P, w'.add ⟨laid.toArray⟩, R))) K E s := by
  subst hf htx ho
  have hc := hex_case n hn
  generalize T2 n = tx at hc ⊢
  split
  all_goals (rename_i heq; first | have e2 := (hex_res hc _ heq).1 rfl | have e2 := (hex_res hc _ heq).2 _ rfl)
  all_goals (refine wpAny_pure (k _ ?_); rw [e2]; exact KPc.good_add g (KPc.obj_none rfl))
set_option maxHeartbeats 1000000 in
theorem hex_meets4 (n m : Nat) (hn : n < 256) (hm : m < 256) (t t1 u : Tok) (b : Addr) : Meets (Builtin.«str.__mod__» ⟨[.str ⟨#[99, 104, 101, 99, 107, 115, 117, 109, 32, 100, 111, 101, 115, 32, 110, 111, 116, 32, 109, 97, 116, 99, 104, 58, 32, 37, 48, 50, 88, 32, 33, 61, 32, 37, 48, 50, 88]⟩ t, .ref b], []⟩)
    (fun _ R s => IsTup s.heap b #[.int (n : Int) t1, .int (m : Int) u] ∧ ∀ t' k, R (.ok (.ret (.str (S (sg "checksum does not match: " ++ hex2 n ++ sg " != " ++ hex2 m)) t'))) { s with toks := k }) := by
  apply KPt.meets_tup
  intro _ _ _ _ _ _ kptH hq
  obtain ⟨kptO, kptG, kptC, kptN, kptD⟩ := kptH
  rw [KPt.entry_is_r]
  unfold Builtin.Str.percentFormat
  refine wpAny_bind (wpAny_isInstance (T := "tuple") ⟨kptO, kptG, kptC⟩ KPt.sub_tt ?_)
  refine wpAny_bind (KPt.asStr_ref kptG kptD ?_)
  refine wpAny_bind (KPt.fills_ref ⟨kptO, kptG, kptC⟩ ?_)
  intro _
  kpc_if
  refine wpAny_bind (wpAny_seqItems kptG kptD ?_)
  refine wpAny_bind (wpAny_pure ?_)
  refine wpAny_bind ?_
  rw [KPc.range_list]
  refine KPc.start ?_
  intro _ _
  refine KPc.turn ?_; kpc_check; (repeat kpc_if)
  refine wpAny_pure ?_; kpc_piece
  refine KPc.turn ?_; kpc_check; (repeat kpc_if)
  refine wpAny_bind ?_; refine wpAny_holding ?_; (repeat kpc_if)
  refine wpAny_bind (wpAny_of_eq (a := ((n : Nat) : Int)) rfl ?_); (repeat kpc_if)
  refine wpAny_pure (a := (T2 n, (none : Option Value), true)) ?_
  refine hex_piece (by kpc_g) hn rfl rfl rfl ?_; intro _ _
  refine KPc.turn ?_; walk_at "ck"; (repeat kpc_if)
  refine wpAny_pure ?_; refine KPc.after_add (by kpc_g) (y := S (sg " != ")) (by rfl) (by kpc_obj) ?_; intro _ _
  refine KPc.turn ?_; walk_at "ck"; (repeat kpc_if)
  refine wpAny_bind ?_; refine wpAny_holding ?_; (repeat kpc_if)
  refine wpAny_bind (wpAny_of_eq (a := ((m : Nat) : Int)) rfl ?_); (repeat kpc_if)
  refine wpAny_pure (a := (T2 m, (none : Option Value), true)) ?_
  refine hex_piece (by kpc_g) hm rfl rfl rfl ?_; intro _ _
  refine KPc.turn ?_; walk_at "ck"; (repeat kpc_if)
  refine wpAny_pure ?_; kpc_if; refine KPc.finish_ok (by kpc_g) (by walk_at "sz2") (T' := S (sg "checksum does not match: " ++ hex2 n ++ sg " != " ++ hex2 m)) (by rw [← S_app, ← S_app, ← S_app]; rfl) ?_; assumption
theorem d_pct1 {n : Nat} (hn : n < 256) {t u : Tok} {Q : Value → Heap → Prop} {E : Value → Heap → Prop} (q : ∀ t, Q (.str (S (sg "*" ++ hex2 n)) t) h) : D (model prog w) A c (binaryOp .Mod (.str (S (sg "*%02X")) t) (.int n u)) h Q E :=
  d_of0 fun tk p => KPc.mod_lit (by rfl) (Nat.lt_of_le_of_lt (Nat.log2_le_self _) (by omega)) (fun _ _ => hex_meets1 n hn t u) (fun t' k => ⟨h, k, rfl, q t'⟩)
theorem d_pct2 {n : Nat} (hn : n < 256) {t u : Tok} {Q : Value → Heap → Prop} {E : Value → Heap → Prop} (q : ∀ t, Q (.str (S (sg "*" ++ hex2 n ++ [13, 10])) t) h) : D (model prog w) A c (binaryOp .Mod (.str (S (sg "*%02X\r\n")) t) (.int n u)) h Q E :=
  d_of0 fun tk p => KPc.mod_lit (by rfl) (Nat.lt_of_le_of_lt (Nat.log2_le_self _) (by omega)) (fun _ _ => hex_meets2 n hn t u) (fun t' k => ⟨h, k, rfl, q t'⟩)
theorem d_pctT {X : Str} {t : Tok} {b : Addr} {its : Array Value} {T : Str} {Q : Value → Heap → Prop} {E : Value → Heap → Prop} (ht : IsTup h b its)
    (hm : Meets (Builtin.«str.__mod__» ⟨[.str X t, .ref b], []⟩) (fun _ R s => IsTup s.heap b its ∧ ∀ t' k, R (.ok (.ret (.str T t'))) { s with toks := k })) (q : ∀ t, Q (.str T t) h) :
    D (model prog w) A c (binaryOp .Mod (.str X t) (.ref b)) h Q E :=
  d_of0 fun tk p => KPt.bin_left (s := c.st h tk) (T := "str") (U := "tuple") (op := .Mod) (by decide) (typeIs_str _ X t) (IsTup.typeIs ht) F.fills_str_mod KPt.fills_tuple F.slot_str_mod
    (call_meets F.slot_str_mod (typeIs_str _ X t) F.entry_str_mod (F.args_str_mod_2 _ _) hm ⟨ht, fun t' k => ⟨(fun e => nomatch e), h, k, rfl, q t'⟩⟩)
end
end
section
open PySem.Builtin.Str in
/-! texts in pieces -/
def jn (c : Nat) : List (List Nat) → List Nat
  | [] => []
  | [x] => x
  | x :: y :: r => x ++ c :: jn c (y :: r)
theorem jn_cons {c : Nat} {x : List Nat} {r : List (List Nat)} (h : r ≠ []) : jn c (x :: r) = x ++ c :: jn c r := by
  cases r with
  | nil => exact absurd rfl h
  | cons y r => rfl
theorem S_list (s : Str) : S s.cps.toList = s := by cases s; simp [S]
theorem join_S (c : Nat) : ∀ ps : List (List Nat), Str.join (S [c]) (ps.map S) = S (jn c ps)
  | [] => rfl
  | [x] => rfl
  | x :: y :: r => by
    have ih := join_S c (y :: r)
    show S x ++ S [c] ++ Str.join (S [c]) ((y :: r).map S) = _
    rw [ih, S_app, S_app]
    show _ = S (x ++ c :: jn c (y :: r))
    simp
theorem jn_inj {c : Nat} : ∀ {p q : List (List Nat)}, p ≠ [] → q ≠ [] → (∀ x ∈ p, c ∉ x) → (∀ x ∈ q, c ∉ x) → jn c p = jn c q → p = q
  | [], _, h, _, _, _, _ => absurd rfl h
  | _, [], _, h, _, _, _ => absurd rfl h
  | x :: p, y :: q, _, _, hp, hq, e => by
    have hx := hp x (.head _)
    have hy := hq y (.head _)
    have split_ : ∀ {a b r s : List Nat}, c ∉ a → c ∉ b → a ++ c :: r = b ++ c :: s → a = b ∧ r = s := by
      intro a
      induction a with
      | nil => intro b r s ha hb e
               cases b with
               | nil => exact ⟨rfl, by simpa using e⟩
               | cons k b => simp at e; exact absurd (e.1 ▸ .head _) hb
      | cons k a ih => intro b r s ha hb e
                       cases b with
                       | nil => simp at e; exact absurd (e.1 ▸ .head _) ha
                       | cons k' b =>
                         simp at e
                         obtain ⟨h1, h2⟩ := ih (fun m => ha (.tail _ m)) (fun m => hb (.tail _ m)) e.2
                         exact ⟨by rw [e.1, h1], h2⟩
    by_cases zp : p = []
    · by_cases zq : q = []
      · subst zp zq; simp [jn] at e; rw [e]
      · subst zp; rw [jn_cons zq] at e
        have : c ∈ x := by show c ∈ x; have : x = y ++ c :: jn c q := e; rw [this]; simp
        exact absurd this hx
    · by_cases zq : q = []
      · subst zq; rw [jn_cons zp] at e
        have : c ∈ y := by have : x ++ c :: jn c p = y := e; rw [← this]; simp
        exact absurd this hy
      · rw [jn_cons zp, jn_cons zq] at e
        obtain ⟨h1, h2⟩ := split_ hx hy e
        rw [h1, jn_inj zp zq (fun x m => hp x (.tail _ m)) (fun x m => hq x (.tail _ m)) h2]
/-- a text cut at a sign -/
def spl (c : Nat) (x : List Nat) : List (List Nat) := (Txt.split (S x) (S [c])).map (·.cps.toList)
theorem split_S (c : Nat) (x : List Nat) : Txt.split (S x) (S [c]) = (spl c x).map S := by
  unfold spl
  rw [List.map_map]
  conv => lhs; rw [← List.map_id (Txt.split (S x) (S [c]))]
  exact List.map_congr_left fun s _ => (S_list s).symm
theorem spl_ne (c : Nat) (x : List Nat) : spl c x ≠ [] := by
  have := split_pos (S x) (S [c])
  intro e
  unfold spl at e
  rw [List.map_eq_nil_iff] at e
  rw [e] at this; simp at this
theorem spl_free (c : Nat) (x : List Nat) : ∀ p ∈ spl c x, c ∉ p := by
  intro p m
  unfold spl at m
  obtain ⟨s, hs, rfl⟩ := List.mem_map.mp m
  exact StrLaws.split_free (S x) c s hs
theorem jn_spl (c : Nat) (x : List Nat) : jn c (spl c x) = x := by
  have := StrLaws.join_split (S x) (S [c])
  rw [split_S, join_S] at this
  exact S_inj this
theorem spl_jn {c : Nat} {p : List (List Nat)} (h : p ≠ []) (hf : ∀ x ∈ p, c ∉ x) : spl c (jn c p) = p :=
  jn_inj (spl_ne _ _) h (spl_free _ _) hf (jn_spl _ _)
theorem spl_self {c : Nat} {x : List Nat} (h : c ∉ x) : spl c x = [x] := spl_jn (p := [x]) (by simp) (by simpa using h)
theorem replace_S {c : Nat} {x : List Nat} {z : Str} (h : c ∉ x) : Txt.replace (S x) (S [c]) z = S x := by
  have := StrLaws.replace_one (S x) z c
  show Txt.replace (S x) ⟨#[c]⟩ z = _
  rw [this]
  have e := split_S c x
  rw [spl_self h] at e
  show Str.join z (Txt.split (S x) (S [c])) = _
  rw [e]; rfl
theorem spl_len (c : Nat) (x : List Nat) : (spl c x).length ≤ x.length + 1 := by
  have key : ∀ ps : List (List Nat), ps ≠ [] → ps.length ≤ (jn c ps).length + 1 := by
    intro ps
    induction ps with
    | nil => intro h; exact absurd rfl h
    | cons y r ih =>
      intro _
      by_cases z : r = []
      · subst z; simp
      · rw [jn_cons z]; have := ih z; simp; omega
  have := key (spl c x) (spl_ne c x)
  rwa [jn_spl] at this
theorem at_one (x : List Nat) (c i : Nat) : StrLaws.At (S x) (S [c]) (S x).length i ↔ x[i]? = some c := by
  have h := StrLaws.subAt_one (S x) c i
  have e : (S x).cps.toList = x := by simp [S]
  rw [e] at h
  exact h
theorem occ_S {c : Nat} {a b : List Nat} (h : c ∉ a) : ∃ r, Builtin.Str.occurrences (S (a ++ c :: b)) (S [c]) 0 (S (a ++ c :: b)).length 1 = a.length :: r := by
  rcases StrLaws.occ_head (S (a ++ c :: b)) (S [c]) 1 (Nat.le_refl 1) with ⟨h0, hn⟩ | ⟨i, r, h0, hi, hn⟩
  · exact absurd ((at_one _ _ a.length).mpr (by simp)) (hn a.length)
  · rw [at_one] at hi
    have h1 : ¬ i < a.length := fun z => h (by rw [List.getElem?_append_left z] at hi; exact List.mem_of_getElem? hi)
    have h2 : ¬ a.length < i := fun z => hn _ z ((at_one _ _ _).mpr (by simp))
    exact ⟨r, by rw [h0]; congr 1; omega⟩
theorem part_S {c : Nat} {a b : List Nat} (h : c ∉ a) : Txt.partition (S (a ++ c :: b)) (S [c]) = (S a, S [c], S b) := by
  obtain ⟨r, e⟩ := occ_S (b := b) h
  unfold Txt.partition
  rw [e]
  dsimp only
  have e1 : Builtin.Str.strSub (S (a ++ c :: b)) 0 a.length = S a := by simp [Builtin.Str.strSub, S]
  have e2 : Builtin.Str.strSub (S (a ++ c :: b)) (a.length + (S [c]).length) (S (a ++ c :: b)).length = S b := by
    rw [S_len, S_len]; simp [Builtin.Str.strSub, S]; exact List.take_of_length_le (by omega)
  rw [e1, e2]
theorem lstrip_S {k : Nat} {r : List Nat} (h : Unicode.isSpace k = false) : Txt.lstrip (S (k :: r)) = S (k :: r) := by
  unfold Txt.lstrip Txt.stripBy
  rw [if_pos]
  unfold stripSame stripLo stripHi
  have e : (S (k :: r)).cps.toList = k :: r := by simp [S]
  rw [if_pos rfl, if_neg (by decide), e, List.takeWhile_cons, h]
  simp
def talkers : List (List Nat) := [sg "YX", sg "II", sg "WI"]
def hexs : List Nat := sg "0123456789ABCDEFabcdef"
theorem strip_hex : ∀ n, n < 256 → Txt.stripChars (S (hex2 n)) (S hexs) = S [] := by
  have h : ∀ i : Fin 256, Txt.stripChars (S (hex2 i.1)) (S hexs) = S [] := by decide +kernel
  intro n hn; exact h ⟨n, hn⟩
theorem strip_nil : Txt.strip (S []) = S [] := by decide +kernel
theorem strip_cr : Txt.strip (S [13]) = S [] := by decide +kernel
theorem alnum4 : ∀ t ∈ talkers, Txt.isalnum (S ((t ++ sg "XDR").take 4)) = true := by decide +kernel
theorem alnum5 : ∀ t ∈ talkers, Txt.isalnum (S (t ++ sg "XDR")) = true := by decide +kernel
theorem upper6 : ∀ t ∈ talkers, Txt.upper (S (t ++ sg "XDR,")) = S (t ++ sg "XDR,") := by decide +kernel
theorem talk_len : ∀ t ∈ talkers, t.length = 2 := by decide +kernel
theorem talk_head : ∀ t ∈ talkers, Unicode.isSpace (t.headD 0) = false ∧ t.headD 0 ≠ 36 ∧ t.headD 0 ≠ 80 ∧ t.headD 0 ≠ 112 := by decide +kernel
theorem talk_under : ∀ t ∈ talkers, 95 ∉ t ∧ 42 ∉ t := by decide +kernel
theorem sp36 : Unicode.isSpace 36 = false := by decide +kernel
section
variable {prog : Program} {w : World} {A : Around} {c : Cfg} {h : Heap} {E : Value → Heap → Prop} {Q : Value → Heap → Prop} {x y : List Nat} {t u v : Tok}
theorem d_gm {name : Str} {id : String} {pl : Sem Bool} {Q : Value × List Value → Heap → Prop} (g : ∀ (M : Model) (A : Around) (E : Value → Shared → Prop) (s : Shared) (Q : Value × List Value → Shared → Prop), Q (.builtin id, [.str (S x) t]) s → wpAny M A (getMethod (.str (S x) t) name pl) Q E s) (q : Q (.builtin id, [.str (S x) t]) h) :
    D (model prog w) A c (getMethod (.str (S x) t) name pl) h Q E := ⟨fun tk p => g _ _ _ _ _ (.mk p q)⟩
theorem d_lstrip {y : List Nat} (e : Txt.lstrip (S x) = S y) (hz : x.length ≤ 16000000) (q : ∀ t, Q (.str (S y) t) h) : D (model prog w) A c (call (.builtin "str.lstrip") ([.str (S x) t] ++ [])) h Q E :=
  d_of0 fun tk p => SC.lstrip (s := c.st h tk) (fun t' k => ⟨h, k, rfl, by rw [e]; exact q t'⟩) (by rw [S_len, sizeLine_eq]; omega)
theorem d_strip {y : List Nat} (e : Txt.strip (S x) = S y) (hz : x.length ≤ 16000000) (q : ∀ t, Q (.str (S y) t) h) : D (model prog w) A c (call (.builtin "str.strip") ([.str (S x) t] ++ [])) h Q E :=
  d_of0 fun tk p => SC.strip (s := c.st h tk) (fun t' k => ⟨h, k, rfl, by rw [e]; exact q t'⟩) (by rw [S_len, sizeLine_eq]; omega)
theorem d_stripChars {y z : List Nat} (e : Txt.stripChars (S x) (S y) = S z) (hz : x.length ≤ 16000000) (q : ∀ t, Q (.str (S z) t) h) : D (model prog w) A c (call (.builtin "str.strip") ([.str (S x) t] ++ [.str (S y) u])) h Q E :=
  d_of0 fun tk p => SC.stripChars (s := c.st h tk) (fun t' k => ⟨h, k, rfl, by rw [e]; exact q t'⟩) (by rw [S_len, sizeLine_eq]; omega)
theorem d_isalnum (q : Q (.bool (Txt.isalnum (S x))) h) : D (model prog w) A c (call (.builtin "str.isalnum") ([.str (S x) t] ++ [])) h Q E := ⟨fun tk p => SC.isalnum (.mk p q)⟩
theorem d_upper {y : List Nat} (e : Txt.upper (S x) = S y) (hz : y.length ≤ 16000000) (q : ∀ t, Q (.str (S y) t) h) : D (model prog w) A c (call (.builtin "str.upper") ([.str (S x) t] ++ [])) h Q E := ⟨fun tk p =>
  SC.upper (by rw [e, S_len]; unfold Builtin.Str.tooLong; exact decide_eq_false (by rw [sizeLine_eq]; omega)) (.mk (Nat.succ_pos _) (by rw [e]; exact q _))⟩
theorem d_replace {k : Nat} {z : List Nat} (hk : k ∉ x) (hu : u ≠ 0) (hv : v ≠ 0) (huv : u ≠ v) (hne : ([k] == z) = false) (hz : x.length ≤ 1000) (hzz : z.length ≤ 10) (q : ∀ t, Q (.str (S x) t) h) : D (model prog w) A c (call (.builtin "str.replace") ([.str (S x) t] ++ [.str (S [k]) u, .str (S z) v])) h Q E :=
  d_of0 fun tk p => SC.replace (s := c.st h tk) hu hv huv (by rw [S_beq]; exact hne) (by rw [S_len, S_len]; have : (x.length + 1) * z.length ≤ 1001 * 10 := Nat.mul_le_mul (by omega) hzz; omega) (fun t' k' => ⟨h, k', rfl, by rw [replace_S hk]; exact q t'⟩)
theorem strsAre_of : ∀ {vs : List Value} {ls : List (List Nat)}, Strs vs ls → StrsAre vs (ls.map S)
  | [], [], _ => .nil
  | [], l :: ls, h => by have := h.1; simp at this
  | v :: vs, [], h => by have := h.1; simp at this
  | v :: vs, l :: ls, h => by
    obtain ⟨t, e⟩ := h.2 0 l rfl
    simp at e; subst e
    exact .cons (S l) t (strsAre_of ⟨by have := h.1; simpa using this, fun i m em => by simpa using h.2 (i + 1) m (by simpa using em)⟩)
theorem strs_map : ∀ {l : List (Str × Tok)} {ls : List (List Nat)}, l.map (·.1) = ls.map S → Strs (strValues l) ls
  | [], [], _ => .nil
  | [], _ :: _, h => by simp at h
  | _ :: _, [], h => by simp at h
  | (x, t) :: l, m :: ls, h => by
    simp at h
    obtain ⟨h1, h2⟩ := h
    subst h1
    have ih := strs_map (l := l) (ls := ls) (by simpa using h2)
    exact .cons ih
theorem jn_len (c : Nat) : ∀ ps : List (List Nat), (jn c ps).length ≤ (ps.map List.length).sum + ps.length
  | [] => by simp [jn]
  | [x] => by simp [jn]
  | x :: y :: r => by have := jn_len c (y :: r); simp [jn] at this ⊢; omega
theorem d_join {D' : Addr} {items : Array Value} {k : Nat} {ls : List (List Nat)} (hl : h.IsList D' items) (hs : Strs items.toList ls) (hok : (ls.map List.length).sum + ls.length ≤ 16000000) (q : ∀ t, Q (.str (S (jn k ls)) t) h) :
    D (model prog w) A c (call (.builtin "str.join") ([.str (S [k]) t] ++ [.ref D'])) h Q E :=
  d_of0 fun tk p => join_list (s := c.st h tk) hl (strsAre_of hs) (by rw [List.map_map, S_len]; have e : (fun x => Str.length x) ∘ S = List.length := by funext z; exact S_len z
                                                                      rw [e, List.length_map]; simp; omega) (fun t' k' => ⟨h, k', rfl, by rw [show Txt.join (S [k]) (ls.map S) = S (jn k ls) from (StrLaws.glued_eq_join _ _).trans (join_S k ls)]; exact q t'⟩)
end
end
section
section
variable {prog : Program} {w : World} {A : Around} {c : Cfg} {h : Heap} {E : Value → Heap → Prop} {Q : Value → Heap → Prop} {x : List Nat} {t u : Tok} {k : Nat}
theorem strs_split {l : List (Str × Tok)} (e : l.map (·.1) = Txt.split (S x) (S [k])) : Strs (strValues l) (spl k x) := strs_map (e.trans (split_S k x))
/-- a list of no dict, as it lies -/
abbrev LObj (items : Array Value) (n : Nat) : Obj := { cls := .type "list", data := .seq items n }
theorem LObj.isList {h : Heap} {D : Addr} {items : Array Value} {n : Nat} (e : h.get? D = some (LObj items n)) : h.IsList D items := ⟨_, e, rfl, _, rfl⟩
theorem d_splitL (hz : x.length ≤ 16000000) (q : ∀ h' D items n, h.StaysIn h' → h.get? D = none → h'.get? D = some (LObj items n) → Strs items.toList (spl k x) → Q (.ref D) h') : D (model prog w) A c (call (.builtin "str.split") ([.str (S x) t] ++ [.str (S [k]) u])) h Q E :=
  d_of0 fun tk p => by
    have hsz : (S x).length ≤ sizeLine := by rw [S_len, sizeLine_eq]; omega
    have hy : ((S [k]).length == 0) = false := rfl
    have fin : ∀ (l : List (Str × Tok)) tk', l.map (·.1) = Txt.split (S x) (S [k]) → ∃ h' tk'', ({ heap := h.push { cls := .type "list", data := .seq (strValues l).toArray }, gens := c.gens, drawn := c.drawn, toks := tk', os := c.os } : Shared) = c.st h' tk'' ∧ Q (.ref h.objs.size) h' :=
      fun l tk' e => ⟨_, tk', rfl, q _ _ _ _ (stays_push _) (not_get_size h) (Heap.get?_push_size _ rfl) (strs_split e)⟩
    have fin2 : ∃ h' tk'', ({ heap := h.push { cls := .type "list", data := .seq [.str (S x) t].toArray }, gens := c.gens, drawn := c.drawn, toks := tk, os := c.os } : Shared) = c.st h' tk'' ∧ (Txt.split (S x) (S [k]) = [S x] → Q (.ref h.objs.size) h') :=
      ⟨_, tk, rfl, fun e => q _ _ _ _ (stays_push _) (not_get_size h) (Heap.get?_push_size _ rfl) (strs_split (l := [(S x, t)]) e.symm)⟩
    cases h1 : (decide ((S x).length < (S [k]).length) || decide (PySem.Builtin.Str.strKind (S x) < PySem.Builtin.Str.strKind (S [k])))
    · cases hf : (Builtin.Str.occurrences (S x) (S [k]) 0 (S x).length ((S x).length + 1)).isEmpty
      · have es : Txt.split (S x) (S [k]) = Builtin.Str.partsBetween (S x) (Builtin.Str.occurrences (S x) (S [k]) 0 (S x).length ((S x).length + 1)) (S [k]).length := (if_neg (ne_true_of_eq_false h1)).trans (if_neg (ne_true_of_eq_false hf))
        have hl : (Builtin.Str.partsBetween (S x) (Builtin.Str.occurrences (S x) (S [k]) 0 (S x).length ((S x).length + 1)) (S [k]).length).length ≤ sizeLine := by
          rw [← es, split_S, List.length_map, sizeLine_eq]; have := spl_len k x; omega
        refine call_meets (s := c.st h tk) F.slot_str_split (typeIs_str _ _ _) F.entry_str_split (F.args_str_split_2 _ _) (meets_str_split_sep (S x) (S [k]) t u h1 hy hf hsz hl) ?_
        rw [strsFrom_eq]
        exact fin (numbered tk _) _ ((numbered_texts _ _).trans es.symm)
      · obtain ⟨h', tk'', e, z⟩ := fin2
        exact call_meets (s := c.st h tk) F.slot_str_split (typeIs_str _ _ _) F.entry_str_split (F.args_str_split_2 _ _) (meets_str_split_not_found (S x) (S [k]) t u h1 hy hf) ⟨h', tk'', e, z ((if_neg (ne_true_of_eq_false h1)).trans (if_pos hf))⟩
    · obtain ⟨h', tk'', e, z⟩ := fin2
      exact call_meets (s := c.st h tk) F.slot_str_split (typeIs_str _ _ _) F.entry_str_split (F.args_str_split_2 _ _) (meets_str_split_cannot_occur (S x) (S [k]) t u h1) ⟨h', tk'', e, z (if_pos h1)⟩
theorem d_split (hz : x.length ≤ 16000000) (q : ∀ h' D items, h.StaysIn h' → h.get? D = none → h'.IsList D items → Strs items.toList (spl k x) → Q (.ref D) h') : D (model prog w) A c (call (.builtin "str.split") ([.str (S x) t] ++ [.str (S [k]) u])) h Q E :=
  d_splitL hz fun h' D items n k1 k2 k3 k4 => q h' D items k1 k2 (LObj.isList k3) k4
theorem d_part3 {a b : List Nat} (hk : k ∉ a) (hz : (a ++ k :: b).length ≤ 16000000) (q : ∀ h' D ta tb tc, h.StaysIn h' → h.get? D = none → IsTup h' D #[.str (S a) ta, .str (S [k]) tb, .str (S b) tc] → Q (.ref D) h') :
    D (model prog w) A c (call (.builtin "str.partition") ([.str (S (a ++ k :: b)) t] ++ [.str (S [k]) u])) h Q E :=
  d_of0 fun tk p => by
    refine call_meets (s := c.st h tk) F.slot_str_partition (typeIs_str _ _ _) F.entry_str_partition (F.args_str_partition_2 _ _) (meets_str_partition (S (a ++ k :: b)) (S [k]) t u rfl (by rw [S_len, sizeLine_eq]; omega)) ?_
    have hp := part_S (b := b) hk
    obtain ⟨r, e⟩ := occ_S (b := b) hk
    unfold Txt.partition at hp
    rw [e] at hp ⊢
    simp only [Prod.mk.injEq] at hp
    obtain ⟨e1, _, e3⟩ := hp
    dsimp only
    rw [e1, e3]
    exact ⟨_, _, rfl, q _ _ _ _ _ (stays_push _) (not_get_size h) ⟨_, Heap.get?_push_size _ rfl, rfl, _, rfl⟩⟩
end
section
variable {M : Model} {A : Around} {c : Cfg} {h : Heap} {E : Value → Heap → Prop} {Q : Value → Heap → Prop} {env : Env} {pos : Pos}
theorem d_band {e₁ e₂ : Expr} {rest : List Expr} (k : D M A c (eval e₁ env) h (fun v h₁ => D M A c (truthy v) h₁ (fun b h₂ => if b = true then D M A c (eval (.BoolOp .And (e₂ :: rest) pos) env) h₂ Q E else Q v h₂) E) E) :
    D M A c (eval (.BoolOp .And (e₁ :: e₂ :: rest) pos) env) h Q E := ⟨fun tk p => BoolOp_and (wpAny_mono (k.run tk p) (fun v s ⟨h₁, t₁, p₁, e₁, q₁⟩ => by
      subst e₁
      exact wpAny_mono (q₁.run t₁ p₁) (fun b s ⟨h₂, t₂, p₂, e₂, q₂⟩ => by
        subst e₂
        cases b
        · exact .mk p₂ q₂
        · exact q₂.run t₂ p₂) fun _ _ z => z) fun _ _ z => z)⟩
theorem d_bone {e : Expr} {op : BoolOp} (k : D M A c (eval e env) h Q E) : D M A c (eval (.BoolOp op [e] pos) env) h Q E := ⟨fun tk p => BoolOp_one (k.run tk p)⟩
theorem d_strC2 {a b : String} {k1 k2 : Nat} {p1 p2 : Pos} {Q : List Value → Heap → Prop} (q : ∀ u v, u ≠ 0 → v ≠ 0 → u ≠ v → Q [.str (S (sg a)) u, .str (S (sg b)) v] h) :
    D M A c (spliced (backTo pos (starEach [.Constant (.str (Str.ofString a)) k1 p1, .Constant (.str (Str.ofString b)) k2 p2] env))) h Q E := ⟨fun tk p =>
  Calls.spliced_cons (wpAny_Constant_str (k := k1) (pos := p1) (Calls.spliced_cons (wpAny_Constant_str (k := k2) (pos := p2) (Calls.spliced_nil (.mk (h := h) (Nat.succ_pos _) (q tk (tk + 1) (Nat.ne_of_gt p) (Nat.succ_ne_zero _) (Nat.ne_of_lt (Nat.lt_succ_self _))))))))⟩
end
section
variable {prog : Program} {w : World} {A : Around} {c : Cfg} {h : Heap} {p : Program} {loose : List Str} {mg mb : Str → Option Value}
theorem wordlike_spec (T : Top0 w.params p loose mg mb h) (hroom : A.depth + 9 < recursionLimit) {x : List Nat} {n : Int} {t u : Tok} (hz : x.length ≤ 1000) (hx : 95 ∉ x) {R : Result → Heap → Prop}
    (k : ∀ h', h.StaysIn h' → R (.ok (.ret (.bool (((x.length : Int) == n) && Txt.isalnum (S x))))) h') : DC (model prog w) A c (.call (.ref 98) ⟨[.str (S x) t, .int n u], []⟩) h R := by
  refine dc_enter (K := hd.heap_39 w.params) (binds := [(Str.ofString "s", .str (S x) t), (Str.ofString "size", .int n u)]) T.K T.T.nolimit (by k_is) (by k_is) (by omega) (fun _ => .of_eq rfl) (locs rfl) (fun L h₁ env hE F hL => ?_)
  repeat walk_at "d1"
  refine d_band ?_
  repeat walk_at "d1"
  refine d_lenStr (by omega) (fun t2 => ?_)
  repeat walk_at "d1"
  by_cases hn : ((x.length : Int) == n) = true
  · rw [hn, if_pos rfl]
    refine d_bone ?_
    repeat walk_at "d1"
    refine d_gm (fun M A E s Q q => GM.replace q) ?_
    dsimp only
    refine d_withB (d_strC2 (fun u v hu hv huv => d_replace (k := 95) (z := sg "a") hx hu hv huv (by decide) (by omega) (by decide) (fun t3 => ?_)))
    refine d_gm (fun M A E s Q q => GM.isalnum q) ?_
    repeat walk_at "d1"
    refine d_isalnum ?_
    have := k _ F.keep
    rw [hn, Bool.true_and] at this
    exact this
  · rw [Bool.not_eq_true] at hn
    rw [hn, if_neg (by decide)]
    have := k _ F.keep
    rw [hn, Bool.false_and] at this
    exact this
end
end
section
section
variable {prog : Program} {w : World} {A : Around} {c : Cfg} {h : Heap} {E : Value → Heap → Prop} {Q : Value → Heap → Prop} {env : Env} {pos : Pos} {out : List Nat}
theorem d_joined {v₁ v₂ : Expr} {rest : List Expr} (k : D (model prog w) A c (joinParts (S []) (eval v₁ env :: eval v₂ env :: evalEach rest env)) h Q E) : D (model prog w) A c (eval (.JoinedStr (v₁ :: v₂ :: rest) pos) env) h Q E := ⟨fun tk p => JoinedStr_many (k.run tk p)⟩
theorem d_jnil (hz : out.length ≤ 16000000) (q : ∀ t, Q (.str (S out) t) h) : D (model prog w) A c (joinParts (S out) []) h Q E := ⟨fun tk p => joinParts_nil (.mk (Nat.succ_pos _) (q _)) (by rw [S_len, sizeLine_eq]; omega)⟩
theorem d_jcons {x : Sem Value} {rest : List (Sem Value)} (k : D (model prog w) A c x h (fun v h₁ => ∃ y t, v = .str (S y) t ∧ out.length + y.length ≤ 16000000 ∧ D (model prog w) A c (joinParts (S (out ++ y)) rest) h₁ Q E) E) : D (model prog w) A c (joinParts (S out) (x :: rest)) h Q E :=
  ⟨fun tk p => joinParts_cons (wpAny_mono (k.run tk p) (fun v s ⟨h₁, t₁, p₁, e₁, y, t, ev, hz, q⟩ => by
    subst e₁ ev
    refine ⟨by rw [S_app, S_len, sizeLine_eq]; simp; omega, ?_⟩
    rw [S_app]; exact q.run t₁ p₁) fun _ _ z => z)⟩
theorem d_fv {value : Expr} (k : D (model prog w) A c (eval value env) h (fun v h₁ => ∃ y t, v = .str (S y) t ∧ y.length ≤ 16000000 ∧ ∀ t, Q (.str (S y) t) h₁) E) : D (model prog w) A c (eval (.FormattedValue value 115 none pos) env) h Q E :=
  ⟨fun tk p => wpAny_with_toks (n := tk) (Nat.le_refl _) (wpAny_FormattedValue_s (wpAny_mono (k.run tk p) (fun v s ⟨h₁, t₁, p₁, e₁, y, t, ev, hz, q⟩ => by
    subst e₁ ev
    exact habitSame_str (s := c.st h₁ t₁) (fun t' tk' => PyProof.Rows.formatField_str (fun t'' tk'' l => ⟨h₁, tk'', Nat.lt_of_lt_of_le p l, rfl, q t''⟩) (by rw [S_len, sizeLine_eq]; omega)) (by rw [S_len, sizeLine_eq]; omega)) fun e s ⟨h₁, t₁, p₁, e₁, q⟩ l => ⟨h₁, t₁, p₁, e₁, q⟩))⟩
end
section
variable {prog : Program} {w : World} {A : Around} {c : Cfg} {H0 h : Heap} {p : Program} {loose : List Str} {mg mb : Str → Option Value} {x dx l : Addr} {tk st : Value} {vs : Array Value} {ta sy : List Nat}
theorem ident_spec (T : Top0 w.params p loose mg mb h) (hroom : A.depth + 9 < recursionLimit) {t1 t2 : Tok} (Sn : Sen w.params h x dx l (.str (S ta) t1) (.str (S sy) t2) vs) (hz : ta.length + sy.length ≤ 1000) {R : Result → Heap → Prop}
    (k : ∀ h' t, h.StaysIn h' → R (.ok (.ret (.str (S (ta ++ sy ++ sg ",")) t))) h') : DC (model prog w) A c (.call (.ref 187) ⟨[.ref x], []⟩) h R := by
  refine dc_enter (K := hd.heap_39 w.params) (binds := [(Str.ofString "self", .ref x)]) T.K T.T.nolimit (by k_is) (by k_is) (by omega) (fun _ => .of_eq rfl) (locs rfl) (fun L h₁ env hE F hL => ?_)
  obtain ⟨⟨da, db, dc, I⟩, Il⟩ := Sn.keeps F.keep
  repeat walk_at "d1"
  refine d_joined (d_jcons (d_fv ?_))
  repeat walk_at "d1"
  refine d_getOwn (K := hd.heap_39 w.params) (T.K.keeps F.keep) I (by k_is) (by k_is) (attr := none) (by k_is) rfl (v := .str (S ta) t1) rfl rfl ?_
  refine ⟨ta, t1, rfl, by omega, fun t => ⟨ta, t, rfl, by simp; omega, d_jcons (d_fv ?_)⟩⟩
  repeat walk_at "d1"
  refine d_getOwn (K := hd.heap_39 w.params) (T.K.keeps F.keep) I (by k_is) (by k_is) (attr := none) (by k_is) rfl (v := .str (S sy) t2) rfl rfl ?_
  refine ⟨sy, t2, rfl, by omega, fun t => ⟨sy, t, rfl, by simp; omega, d_jcons ?_⟩⟩
  repeat walk_at "d1"
  refine ⟨sg ",", _, rfl, by have : (sg ",").length = 1 := rfl
                             simp; omega, d_jnil (by have : (sg ",").length = 1 := rfl
                                                     simp; omega) (fun t => ?_)⟩
  rw [List.nil_append]
  exact k _ _ F.keep
end
end
section
section
variable {prog : Program} {w : World} {A : Around} {c : Cfg} {K : Frag} {H0 h : Heap} {E : Value → Heap → Prop} {p : Program} {loose : List Str} {mg mb : Str → Option Value} {x dx l : Addr} {tk st : Value} {vs : Array Value} {ta sy : List Nat}
/-- a static method looked up on a class of the text -/
theorem d_methStatic {C p0 : Addr} {f : Value} {rest : List Value} {name : Str} {pl : Sem Bool} {Q : Value × List Value → Heap → Prop} (X : K.In h) (hg : specialIn K (.ref C) "__getattribute__" = some (some (.builtin "type.__getattribute__"))) (hr : readsIn K C (.type "type") = true)
    (e : findCls K (.ref C) (.type "type") name = some (.get (.builtin "staticmethod.__get__") (.ref p0) .none (.ref C))) (hp : recIn K p0 "staticmethod" = some (f :: rest)) (hv : handedIn f = true) (q : Q (f, []) h) :
    D (model prog w) A c (getMethod (.ref C) name pl) h Q E := ⟨fun tk pp =>
  method_cls (s := c.st h tk) X hg (cls_bind (mc := .type "type") X hr e (wpAny_call (sm_get (s := { (c.st h tk) with toks := tk + 1 }) X hp (handed_on hv (.mk (h := h) (Nat.succ_pos _) q)))))⟩
theorem render_spec (T : Top0 w.params p loose mg mb h) (hroom : A.depth + 20 < recursionLimit) (hA : A.handled = none) {t1 t2 : Tok} (Sn : Sen w.params h x dx l (.str (S ta) t1) (.str (S sy) t2) vs) {ls : List (List Nat)} (hs : Strs vs.toList ls) (hz : ta.length + sy.length ≤ 100) (hls : (ls.map List.length).sum + ls.length ≤ 10000)
    (hx : xs (ta ++ sy ++ sg "," ++ jn 44 ls) < 256) {R : Result → Heap → Prop}
    (k : ∀ h' t, h.StaysIn h' → R (.ok (.ret (.str (S (sg "$" ++ (ta ++ sy ++ sg "," ++ jn 44 ls ++ (sg "*" ++ hex2 (xs (ta ++ sy ++ sg "," ++ jn 44 ls))))) ) t))) h') : DC (model prog w) A c (.call (.ref 152) ⟨[.ref x], []⟩) h R := by
  refine dc_enter (K := hd.heap_39 w.params) (binds := [(Str.ofString "self", .ref x), (Str.ofString "checksum", .bool true), (Str.ofString "dollar", .bool true), (Str.ofString "newline", .bool false)]) T.K T.T.nolimit (by k_is) (by k_is) (by omega) (fun _ => binds_K (K := hd.heap_39 w.params) T.K rfl (by k_is) rfl rfl rfl) (locs rfl) (fun L h₁ env hE F hL => ?_)
  repeat walk_at "d1"
  refine d_meth (T.K.keeps F.keep) (Sn.keeps F.keep) (f := 187) (by k_is) (by k_is) (by k_is) (by k_is) (by decide +kernel) (fun _ _ _ => rfl) (fun h₂ q k2 n2 hq => ?_)
  have F2 := F.back k2
  refine d_withM (K := hd.heap_39 w.params) (by k_is) (T.K.keeps F2.keep) hq ?_
  repeat walk_at "d1"
  refine ⟨stays_refl _, ident_spec (T.keeps F2.keep) (by show A.depth + 1 + 9 < _; omega) (Sn.keeps F2.keep) (by omega) (fun h₃ t3 k3 => ?_)⟩
  have F3 := F2.back k3
  repeat walk_at "d1"
  refine d_gm (fun M A E s Q q => GM.join q) ?_
  repeat walk_at "d1"
  obtain ⟨⟨da, db, dc, I⟩, Il⟩ := Sn.keeps F3.keep
  refine d_getOwn (K := hd.heap_39 w.params) (T.K.keeps F3.keep) I (by k_is) (by k_is) (attr := none) (by k_is) rfl (v := .ref l) rfl rfl ?_
  repeat walk_at "d1"
  refine d_join (k := 44) Il hs (by omega) (fun t4 => ?_)
  have h1 : (sg ",").length = 1 := rfl
  have h2 := jn_len 44 ls
  have h3 : (sg "*").length = 1 := rfl
  have h4 : (sg "$").length = 1 := rfl
  have h5 : (hex2 (xs (ta ++ sy ++ sg "," ++ jn 44 ls))).length = 2 := rfl
  refine d_addStr (by simp only [List.length_append]; omega) (fun t5 => ?_)
  repeat walk_at "d1"
  rename_i h₄ F4 t40 t41
  refine d_methStatic (K := hd.heap_39 w.params) (T.K.keeps F4.keep) (by k_is) (by k_is) (p0 := 115) (f := .ref 113) (rest := [.bool false]) (by k_is) (by k_is) rfl ?_
  dsimp only
  refine d_withK (K := hd.heap_39 w.params) (by k_is) ?_
  repeat walk_at "d1"
  refine ⟨T.K.keeps F4.keep, d_call (checksum_spec (A := A.deeper env) (T.keeps F4.keep) (by show A.depth + 1 < recursionLimit; omega) hA _ _ (fun h₅ t6 k5 => ?_))⟩
  have F5 := F4.back k5
  refine d_pct1 hx (fun t7 => ?_)
  refine d_iaddStr (by simp only [List.length_append]; omega) (fun t8 => ?_)
  clear F4 F2 F3 F
  repeat walk_at "d1"
  rename_i h₇ F7
  exact k _ _ F7.keep
end
end
section
open PySem.NumText
theorem hex_read : ∀ n, n < 256 → (int_private% "readNumeral") 0 16 (hex2 n) = (int_private% "Numeral.value") (n : Int) := by
  have e : (List.range 256).map (fun n => (int_private% "readNumeral") 0 16 (hex2 n)) = (List.range 256).map (fun n => (int_private% "Numeral.value") ((n : Nat) : Int)) := by kernel_rfl
  intro n hn
  exact List.map_inj_left.mp e n (List.mem_range.mpr hn)
theorem hex_zero : ∀ n, n < 256 → (hex2 n).takeWhile (· != 0) = hex2 n ∧ ((S (hex2 n)).cps.all (· < 128)) = true := by
  have h : ∀ i : Fin 256, (hex2 i.1).takeWhile (· != 0) = hex2 i.1 ∧ ((S (hex2 i.1)).cps.all (· < 128)) = true := by decide +kernel
  intro n hn; exact h ⟨n, hn⟩
theorem hex_text {M : Model} {A : Around} {E : Value → Shared → Prop} {s : Shared} {Q : Value → Shared → Prop} {v : Value} {n : Nat} {text : List Nat} (hn : n < 256) (ht : text = hex2 n) (h : Q (.int n s.toks) { s with toks := s.toks + 1 }) :
    wpAny M A ((int_private% "intFromText") v text 16) Q E s := by
  subst ht
  obtain ⟨hp, g, d, tk, os⟩ := s
  have hz := (hex_zero n hn).1
  have hr := hex_read n hn
  have hl : (hex2 n).length ≤ 640 := by simp [hex2]
  repeat (any_goals (first
    | assumption
    | (with_reducible refine wpAny_ite_true (decide_eq_true hl) ?_)
    | wp_step))
  all_goals (rw [hz, hr]; try dsimp only)
  repeat (any_goals (first
    | assumption
    | (with_reducible refine wpAny_ite_true (beq_self_eq_true _) ?_)
    | wp_step))
set_option maxHeartbeats 4000000 in
theorem gives_hex {n : Nat} {u v : Tok} (hn : n < 256) : Gives (Builtin.«int.__new__» ⟨[.type "int", .str (S (hex2 n)) u, .int 16 v], []⟩) (.int n) :=
  .of_wp fun M A E s Q h => by
    obtain ⟨hp, g, d, tk, os⟩ := s
    have f1 := F.conv_sub_int
    have f2 := F.madeHere_int
    have hz := (hex_zero n hn).2
    have hk := KIN.Hid.mk hn
    clear hn
    have hid := KIN.Hid.mk hz
    clear hz
    repeat (any_goals (first
      | assumption
      | ((with_reducible show wpAny _ _ ((int_private% "intFromText") _ _ _) _ _ _); refine hex_text (n := n) hk.out ((if_pos hid.out).trans (by simp [S])) ?_)
      | wp_step))
    all_goals first | exact ⟨_, rfl, h⟩ | skip
theorem typeCall_int_2 (a b : Value) : checkTypeCall "int" ⟨[a, b], []⟩ = pure () := by kernel_rfl
theorem newCall_int_2 (a b : Value) : checkBuiltinCall "int.__new__" ⟨[.type "int", a, b], []⟩ = pure () := by kernel_rfl
section
variable {prog : Program} {w : World} {A : Around} {c : Cfg} {h : Heap} {E : Value → Heap → Prop} {Q : Value → Heap → Prop}
theorem d_intHex {n : Nat} {u v : Tok} (hn : n < 256) (q : ∀ t, Q (.int n t) h) : D (model prog w) A c (call (.type "int") ([] ++ [.str (S (hex2 n)) u, .int 16 v])) h Q E := ⟨fun tk p =>
  callType_new F.called_int F.newNe_int (typeCall_int_2 _ _) (newCall_int_2 _ _) (fun obj => F.args_object_init_3 obj _ _) F.entry_int_new (gives_hex hn).meets (show (Made.int n).post _ (c.st h tk) from ⟨rfl, .mk (h := h) (Nat.succ_pos _) (q _)⟩)⟩
end
end
section
section
variable {prog : Program} {w : World} {A : Around} {c : Cfg} {K : Frag} {h : Heap} {E : Value → Heap → Prop} {Q : Value → Heap → Prop} {kd : Addr} {kvs : List (Str × Value)}
theorem d_gmDict {name : Str} {id : String} {pl : Sem Bool} {Q : Value × List Value → Heap → Prop} (slot : Slot "dict" name id) (hty : typeOf (.builtin id) = pure (.type "method_descriptor")) (hd : h.DictOf (strKind prog w) kd kvs) (q : Q (.builtin id, [.ref kd]) h) :
    D (model prog w) A c (getMethod (.ref kd) name pl) h Q E := ⟨fun tk p => getMethod_builtin (s := c.st h tk) (Heap.DictOf.typeIs hd) PySem.F.plainAttrs_dict slot hty hd.mapOf.noDict (.mk p q)⟩
theorem d_dictGet {x : Str} {t : Tok} (hk : (kd == sysModules) = false) (hd : h.DictOf (strKind prog w) kd kvs) (q : Q ((valueAt kvs x).getD .none) h) : D (model prog w) A c (call (.builtin "dict.get") ([.ref kd] ++ [.str x t])) h Q E := ⟨fun tk p =>
  call_meetsIn (s := c.st h tk) PySem.F.slot_dict_get (Heap.DictOf.typeIs hd) PySem.F.entry_dict_get (PySem.F.args_dict_get_2 _ _) (meets_dict_get (strKind prog w) kd (strKind_is prog w x t) hk) ⟨_, hd.mapOf, .mk (h := h) (Nat.succ_pos _) q⟩⟩
theorem no_bool_type : typeLookup (.type "type") "__bool__" = pure none := by rw [typeLookup_type, builtinLookup_eq_fast]; kernel_rfl
theorem no_len_type : typeLookup (.type "type") "__len__" = pure none := by rw [typeLookup_type, builtinLookup_eq_fast]; kernel_rfl
theorem d_truthyCls {C : Addr} {Q : Bool → Heap → Prop} (X : K.In h) (ht : typeIn K (.ref C) = some (.type "type")) (q : Q true h) : D (model prog w) A c (truthy (.ref C)) h Q E := ⟨fun tk p => by
  have L0 := looks_typeIn (M := model prog w) X ht
  have L1 : Looks (model prog w) h (typeLookup (.type "type") "__bool__") none := Looks.of_pure no_bool_type
  have L2 : Looks (model prog w) h (typeLookup (.type "type") "__len__") none := Looks.of_pure no_len_type
  show wpAny _ _ _ _ _ (⟨h, c.gens, c.drawn, tk, c.os⟩ : Shared)
  unfold truthy callSpecial?
  repeat lk
  exact .mk (h := h) p q⟩
end
end
section
theorem xcls {P : Params} {h : Heap} (X : (hd.heap_39 P).In h) : ∃ oc od cd sl, h.get? 89 = some ⟨oc, od, .cls cd, sl⟩ ∧ cd.hasDel = false ∧ cd.abstract = false ∧ cd.mro = [.ref 89, .ref 64, .type "ValueError", .type "Exception", .type "BaseException", .type "object"] ∧ sl.toList[4]? = some (some (.builtin "ValueError.__new__")) := by
  obtain ⟨oc, od, cd, sl, ho, e1, e2, e3, e5⟩ : ∃ oc od cd sl, (hd.heap_39 P).lookup 89 = some ⟨oc, od, .cls cd, sl⟩ ∧ cd.hasDel = false ∧ cd.abstract = false ∧ cd.mro = [.ref 89, .ref 64, .type "ValueError", .type "Exception", .type "BaseException", .type "object"] ∧ sl.toList[4]? = some (some (.builtin "ValueError.__new__")) :=
    ⟨_, _, _, _, by k_is, rfl, rfl, rfl, rfl⟩
  exact ⟨oc, od, cd, sl, X _ _ ho, e1, e2, e3, e5⟩
section
variable {M : Model} {prog : Program} {w : World} {A : Around} {h : Heap} {g : Array GenState} {d : Drawn} {t : Nat} {os : OsState} {R : Result → Shared → Prop}
theorem x_mro {P : Params} (X : (hd.heap_39 P).In h) : Looks M h (mroOf (.ref 89)) [.ref 89, .ref 64, .type "ValueError", .type "Exception", .type "BaseException", .type "object"] := by
  obtain ⟨oc, od, cd, sl, ho, e1, e2, e3, e5⟩ := xcls X
  rw [← e3]
  exact ((Looks.ld (part := none) ho).andThen .now).andThen .now
theorem x_made {P : Params} (X : (hd.heap_39 P).In h) : Looks M h (Bind.madeBy (.ref 89)) (some "ValueError.__new__") := by
  obtain ⟨oc, od, cd, sl, ho, e1, e2, e3, e5⟩ := xcls X
  intro A Q E s k q
  unfold Bind.madeBy
  refine wpAny_bind (x_mro X A _ E s k ?_)
  rw [List.forIn_cons]
  refine wpAny_bind (wpAny_bind (wpAny_bind (wpAny_bind (wpAny_loadPart (k _ _ ho) (wpAny_pure ?_)))))
  dsimp only
  rw [← Array.getElem?_toList, e5]
  exact wpAny_pure (wpAny_pure (wpAny_pure q))
theorem x_base {P : Params} (X : (hd.heap_39 P).In h) : Looks M h (Bind.staticBase (.ref 89)) (.ref 89) := by
  intro A Q E s k q
  unfold Bind.staticBase
  refine wpAny_bind (x_mro X A _ E s k ?_)
  rw [List.forIn_cons]
  exact wpAny_bind (wpAny_bind (wpAny_bind (x_made X A _ E s k (wpAny_pure (wpAny_pure (wpAny_pure q))))))
abbrev excO (C a : Addr) : Obj := { cls := .ref C, data := .fields #[.ref a, .none, .none, .none, .bool false, .none] }
theorem x_new {P : Params} {m v : Value} (X : (hd.heap_39 P).In h) (hq : R (.ok (.ret (.ref (h.objs.size + 1)))) ⟨(h.push { cls := .type "tuple", data := .seq [m, v].toArray }).push (excO 89 h.objs.size), g, d, t, os⟩) :
    codeAny (model prog w) A (.builtin "ValueError.__new__" ⟨[.ref 89, m, v], []⟩) R ⟨h, g, d, t, os⟩ := by
  obtain ⟨oc, od, cd, sl, ho, e1, e2, e3, e5⟩ := xcls X
  have hm := x_mro (M := model prog w) X
  have made := x_made (M := model prog w) X
  have base := x_base (M := model prog w) X
  have s1 := looks_subIn (M := model prog w) X (show subIn (hd.heap_39 P) (.ref 89) (.type "ValueError") = some true by k_is)
  have s2 := looks_subIn (M := model prog w) X (show subIn (hd.heap_39 P) (.ref 89) (.type "AttributeError") = some false by k_is)
  have s3 := looks_subIn (M := model prog w) X (show subIn (hd.heap_39 P) (.ref 89) (.type "NameError") = some false by k_is)
  have here : Looks (model prog w) h (Bind.madeHere "BaseException.__new__" (.ref 89)) () := by
    unfold Bind.madeHere
    exact base.andThen (made.andThen (Looks.of_pure (by kernel_rfl)))
  refine codeAny_builtinAt F.excCall_ValueError.entry ?_
  unfold Builtin.«BaseException.__new__»
  refine PySem.wpAt_bind ?_
  show PySem.wpAt _ _ _ (stack >>= _) _ _ _
  refine PySem.wpAt_bind (PySem.wpAt_stack fun p below => PySem.wpAt_of_wpAny ?_)
  have hends := F.excCall_ValueError.ends
  wp_walk
  refine PySem.wpAt_of_wpAny ?_
  rw [F.excCall_ValueError.owner]
  repeat lk
  refine nd_load (Heap.get?_push_of_some _ (Heap.get?_push_of_some _ ho)) ?_
  refine wpAny_pure (wpAny_pure ?_)
  rw [e1, if_neg (by decide)]
  refine wpAny_pure (wpAny_pure ?_)
  rw [Heap.size_push]
  exact hq
end
end
section
theorem wd_entry : entryFor table "wrapper_descriptor.__get__" = some Builtin.«wrapper_descriptor.__get__» := entryFor_of_tree (by kernel_rfl)
theorem wd_plain : plainId "wrapper_descriptor.__get__" = true := by decide +kernel
theorem wd_type : typeOf (.builtin "ValueError.__init__") = pure (.type "wrapper_descriptor") := by kernel_rfl
theorem wd_lookup : typeLookup (.type "wrapper_descriptor") "__get__" = pure (some (.builtin "wrapper_descriptor.__get__")) := by rw [typeLookup_type, builtinLookup_eq_fast]; kernel_rfl
theorem wd_slot : Slot "wrapper_descriptor" "__get__" "wrapper_descriptor.__get__" := .of (owner := "wrapper_descriptor") (n := "__get__") (by rw [typeLookup_type, builtinLookup_eq_fast]; kernel_rfl) (by decide +kernel) (by decide +kernel) (by decide +kernel)
  (by first | exact .inl (by decide +kernel) | exact .inr (by decide +kernel)) (by rw [isSubtype_type]; kernel_rfl)
theorem wd_args (a b c : Value) : argsOk "wrapper_descriptor.__get__" ⟨[a, b, c], []⟩ := by unfold argsOk; kernel_rfl
section
variable {prog : Program} {w : World} {A : Around} {E : Value → Shared → Prop} {h : Heap} {g : Array GenState} {d : Drawn} {t : Nat} {os : OsState}
abbrev mwObj (x : Addr) : Obj := { cls := .type "method-wrapper", data := .fields #[.builtin "ValueError.__init__", .ref x] }
theorem wd_get {x C : Addr} {z : Value} {Q : Value → Shared → Prop} (hi : Looks (model prog w) h (isInstance (.ref x) (.type "ValueError")) true) (hz : z = .ref x) (hq : Q (.ref h.objs.size) ⟨h.push (mwObj x), g, d, t, os⟩) :
    wpAny (model prog w) A (call (.builtin "wrapper_descriptor.__get__") [.builtin "ValueError.__init__", z, .ref C]) Q E ⟨h, g, d, t, os⟩ := by
  subst hz
  have hT : (⟨h, g, d, t, os⟩ : Shared).TypeIs (.builtin "ValueError.__init__") "wrapper_descriptor" := by
    first | exact wd_type | exact ⟨_, rfl, rfl⟩ | skip
  refine wpAny_call_entry wd_slot hT wd_entry ?_ (wd_args _ _ _)
  unfold Builtin.«wrapper_descriptor.__get__»
  refine wpAny_bind (wpAny_of_eq (a := (.builtin "ValueError.__init__", some (.ref x), some (.ref C))) (by first | rfl | kernel_rfl) ?_)
  dsimp only
  show wpAny _ _ (_ >>= _) _ _ _
  refine wpAny_bind ?_
  refine wpAny_bind (wpAny_of_eq (a := (Str.ofString "__init__", Value.type "ValueError")) (by first | rfl | kernel_rfl) ?_)
  dsimp only
  refine wpAny_bind (hi.at ?_)
  rw [show (!true) = false from rfl]
  rw [if_neg (by decide)]
  refine wpAny_pure ?_
  unfold newFields
  refine wpAny_bind (wpAny_newObj_type ?_ (by size_fits))
  exact wpAny_pure ⟨_, rfl, hq⟩
/-- what super() of a ChecksumError hands out for __init__ -/
abbrev supObj (e : Addr) : Obj := { cls := .type "super", dict := none, data := .fields #[.ref 64, .ref e, .ref 89], slots := #[] }
theorem own_init : classOwn (.type "ValueError") (Str.ofString "__init__") = pure (some (.builtin "ValueError.__init__")) := by kernel_rfl
theorem x_pick {so e : Addr} {tk : Tok} {Q : Fin → Shared → Prop} (X : (hd.heap_39 w.params).In h) (hso : h.get? so = some (supObj e)) (hi : Looks (model prog w) h (isInstance (.ref e) (.type "ValueError")) true) (hne : e ≠ 89)
    (hq : Q (.done (.ret (.ref h.objs.size))) ⟨h.push (mwObj e), g, d, t, os⟩) : wpAny (model prog w) A (Builtin.«super.__getattribute__» ⟨[.ref so, .str (Str.ofString "__init__") tk], []⟩) Q E ⟨h, g, d, t, os⟩ := by
  have no : nsIn (hd.heap_39 w.params) cStatics "thirdparty.any" = some none := by k_is
  have apart : (Value.ref e == Value.ref 89) = false := beq_eq_false_iff_ne.mpr fun z => hne (Value.ref.inj z)
  have ty := wd_type
  have lk := wd_lookup
  have ow := own_init
  wp_walk using wpAny_field hso rfl (x := .ref 64) rfl, wpAny_field hso rfl (x := .ref e) rfl, wpAny_field hso rfl (x := .ref 89) rfl, ks_wpAny_notOpaque (looks_opaque X no), Looks.at (x_mro X), wd_get hi
  · rw [apart]; rfl
  wp_walk
  exact hq
theorem x_getInit {so e : Addr} {pl : Sem Bool} {Q : Value × List Value → Shared → Prop} (X : (hd.heap_39 w.params).In h) (hso : h.get? so = some (supObj e)) (hi : Looks (model prog w) h (isInstance (.ref e) (.type "ValueError")) true) (hne : e ≠ 89)
    (hq : Q (.ref h.objs.size, []) ⟨h.push (mwObj e), g, d, t + 1, os⟩) : wpAny (model prog w) A (getMethod (.ref so) (Str.ofString "__init__") pl) Q E ⟨h, g, d, t, os⟩ := by
  have ty : ∀ n, Shared.TypeIs ⟨h, g, d, n, os⟩ (.ref so) "super" := fun _ => ⟨supObj e, hso, rfl⟩
  have sl := F.ks_slot_super_ga
  have cn := F.ks_canon_super_ga
  have body : ∀ {R : Value → Shared → Prop} {E' : Value → Shared → Prop}, R (.ref h.objs.size) ⟨h.push (mwObj e), g, d, t + 1, os⟩ → wpAny (model prog w) A (call (.builtin "super.__getattribute__") ([.ref so] ++ [.str (Str.ofString "__init__") t])) R E' ⟨h, g, d, t + 1, os⟩ :=
    fun r => wpAny_call_entry sl (ty _) F.ks_entry_super_ga (x_pick X hso hi hne ⟨_, rfl, r⟩) (F.ks_gaArgs_super _ _)
  unfold getMethod
  wp_walk using wpAny_specialOf (ty _) sl.lookup, wpAny_typeOf (ty _), wpAny_of_eq sl.lookup, wpAny_of_eq (sl.bind _), body
  exact hq
theorem x_keeper {M : Model} {x q : Addr} (hq : h.get? q = some (mwObj x)) : ∃ k, (k = Keeper.frame ∨ k = Keeper.machine ∨ k = Keeper.boundFrame) ∧ Looks M h (keeperOf (.ref q)) k :=
  ⟨.machine, .inr (.inl rfl), (Looks.ld (part := none) hq).andThen .now⟩
end
section
end
section
variable {prog : Program} {w : World} {A : Around} {E : Value → Shared → Prop} {h : Heap} {g : Array GenState} {d : Drawn} {t : Nat} {os : OsState}
theorem x_checkBound {e : Addr} {oe : Obj} {rest : List Value} {Q : Unit → Shared → Prop} (X : (hd.heap_39 w.params).In h) (he : h.get? e = some oe) (hc : oe.cls = .ref 89) (hq : Q () ⟨h, g, d, t, os⟩) :
    wpAny (model prog w) A (checkBoundCall "ValueError.__init__" ⟨.ref e :: rest, []⟩) Q E ⟨h, g, d, t, os⟩ := by
  obtain ⟨oc, od, cd, sl, hC, -⟩ := xcls X
  have hshort := F.excCall_ValueError.noStar
  simp only [checkBoundCall, F.excCall_ValueError.initKind, F.excCall_ValueError.initRow]
  repeat (first | (with_reducible refine wpAny_loadPart_at he ?_; rw [hc]) | with_reducible refine wpAny_loadPart_at hC ?_ | wp_step)
  refine wpAny_onRaise ?_
  rw [show ∀ (a b : String) (n : Nat), Bind.check ⟨.positional, "*", "ValueError", .self, [⟨"args", .varPos, false⟩]⟩ a b n (List.map (fun x => x.fst) ({ pos := Value.ref e :: rest } : Args).kw) = pure () from
    fun a b n => check_star_args _ _ _ _ _ _]
  exact wpAny_pure hq
theorem x_checkInit {e : Addr} {oe : Obj} {rest : List Value} {Q : Unit → Shared → Prop} (X : (hd.heap_39 w.params).In h) (he : h.get? e = some oe) (hc : oe.cls = .ref 89) (hq : Q () ⟨h, g, d, t, os⟩) :
    wpAny (model prog w) A (checkBuiltinCall "ValueError.__init__" ⟨.ref e :: rest, []⟩) Q E ⟨h, g, d, t, os⟩ := by
  obtain ⟨oc, od, cd, sl, hC, -⟩ := xcls X
  have hshort := F.excCall_ValueError.noStar
  have s1 := looks_subIn (M := model prog w) X (show subIn (hd.heap_39 w.params) (.ref 89) (.type "ValueError") = some true by k_is)
  simp only [checkBuiltinCall, F.excCall_ValueError.initKind, F.excCall_ValueError.initSplit, F.excCall_ValueError.initRow]
  repeat (first | (with_reducible refine wpAny_loadPart_at he ?_; rw [hc]) | with_reducible refine wpAny_loadPart_at hC ?_ | with_reducible refine Looks.at s1 ?_ | wp_step)
  refine wpAny_onRaise ?_
  rw [show ∀ (a b : String) (n : Nat), Bind.check ⟨.positional, "*", "ValueError", .self, [⟨"args", .varPos, false⟩]⟩ a b n (List.map (fun x => x.fst) ({ pos := Value.ref e :: rest } : Args).kw) = pure () from
    fun a b n => check_star_args _ _ _ _ _ _]
  exact wpAny_pure hq
theorem x_mwCall {q e a0 : Addr} {v : Value} {vs : List Value} {C : Addr} {R : Result → Shared → Prop} (X : (hd.heap_39 w.params).In h) (hq : h.get? q = some (mwObj e)) (he : h.get? e = some (excO 89 a0)) (hl : vs.length ≤ sizeLine)
    (k : ∀ h' b, h'.get? e = some (excO 89 b) → h.get? b = none → (∀ y o, y ≠ e → h.get? y = some o → h'.get? y = some o) → R (.ok (.ret .none)) ⟨h', g, d, t, os⟩) :
    codeAny (model prog w) A (.call (.ref q) ⟨vs, []⟩) R ⟨h, g, d, t, os⟩ := by
  refine codeAny_of_tree ?_
  show wpAny _ _ (callAny (.ref q) _) _ _ _
  unfold callAny
  refine wpAny_bind (wpAny_load hq ?_)
  dsimp only
  rw [if_pos (by decide)]
  show wpAny _ _ (checkBoundCall "ValueError.__init__" ⟨.ref e :: vs, []⟩ >>= _) _ _ _
  refine wpAny_bind (x_checkBound X he rfl ?_)
  refine wpAny_pure ⟨Code.quiet_builtin _ (by decide +kernel), codeAny_builtin F.excCall_ValueError.initEntry ?_⟩
  unfold Builtin.«BaseException.__init__»
  repeat (first | (with_reducible refine wpAny_newTuple ?_ hl) | (with_reducible refine wpAny_loadPart_at he ?_) | wp_step)
  exact k _ h.objs.size (by rw [Heap.get?_update_self _ (Heap.get?_push_of_some _ he) rfl]; rfl) (not_get_size h) (fun y o ny e => by rw [Heap.get?_update_other _ _ (Ne.symm ny)]; exact Heap.get?_push_of_some _ e)
end
section
variable {prog : Program} {w : World} {A : Around} {c : Cfg} {h : Heap} {E : Value → Heap → Prop} {env : Env} {pos : Pos} {K : Frag} {f : Addr}
theorem x_inst {M : Model} {P : Params} {e : Addr} {oe : Obj} (X : (hd.heap_39 P).In h) (he : h.get? e = some oe) (hc : oe.cls = .ref 89) : Looks M h (isInstance (.ref e) (.type "ValueError")) true := by
  have t1 : Looks M h (typeOf (.ref e)) (.ref 89) := by rw [← hc]; exact (Looks.ld he).andThen .now
  exact t1.andThen (looks_subIn X (show subIn (hd.heap_39 P) (.ref 89) (.type "ValueError") = some true by k_is))
theorem d_super {e : Addr} {oe : Obj} {Q : Value → Heap → Prop} (X : (hd.heap_39 w.params).In h) (he : h.get? e = some oe) (hc : oe.cls = .ref 89) (hnc : ∀ c, oe.data ≠ .cls c)
    (q : ∀ h' so, h.StaysIn h' → h.get? so = none → h'.get? so = some { cls := .type "super", dict := none, data := .fields #[.ref 64, .ref e, .ref 89], slots := #[] } → Q (.ref so) h') :
    D (model prog w) A c (call (.type "super") [.ref 64, .ref e]) h Q E := ⟨fun tk p => by
  obtain ⟨oc, od, cd, sl, ho⟩ : ∃ oc od cd sl, (hd.heap_39 w.params).lookup 64 = some ⟨oc, od, .cls cd, sl⟩ := ⟨_, _, _, _, by k_is⟩
  have s1 := looks_subIn (M := model prog w) X (show subIn (hd.heap_39 w.params) (.ref 89) (.ref 64) = some true by k_is)
  exact ks_wpAny_call_super (X _ _ ho) rfl he hc hnc s1 (fun h' e1 e2 => .mk (h := h') p (q h' _ e2 (not_get_size h) e1))⟩
theorem d_superInit {e so : Addr} {oe : Obj} {pl : Sem Bool} {Q : Value × List Value → Heap → Prop} (X : (hd.heap_39 w.params).In h) (he : h.get? e = some oe) (hc : oe.cls = .ref 89) (hne : e ≠ 89)
    (hso : h.get? so = some { cls := .type "super", dict := none, data := .fields #[.ref 64, .ref e, .ref 89], slots := #[] })
    (q : ∀ h' mw, h.StaysIn h' → h.get? mw = none → h'.get? mw = some (mwObj e) → Q (.ref mw, []) h') :
    D (model prog w) A c (getMethod (.ref so) (Str.ofString "__init__") pl) h Q E := ⟨fun tk p => by
  refine x_getInit X hso (x_inst X he hc) hne ?_
  exact .mk (h := h.push _) (Nat.succ_pos _) (q _ _ (stays_push _) (not_get_size h) (Heap.get?_push_size _ rfl))⟩
theorem d_withMW {e q a0 : Addr} {args : List Expr} {Q : Value → Heap → Prop} (X : (hd.heap_39 w.params).In h) (hq : h.get? q = some (mwObj e))
    (k : D (model prog w) A c (spliced (backTo pos (starEach args env))) h (fun vs h₁ => h₁.get? q = some (mwObj e) ∧ (hd.heap_39 w.params).In h₁ ∧ h₁.get? e = some (excO 89 a0) ∧ vs.length ≤ 100 ∧
      ∀ h' b, h'.get? e = some (excO 89 b) → h₁.get? b = none → (∀ y o, y ≠ e → h₁.get? y = some o → h'.get? y = some o) → Q .none h') E) (hp : (starEach args env).any (·.1) = false := by rfl) :
    D (model prog w) A c (callWith pos (.ref q) [] (backTo pos (starEach args env)) []) h Q E :=
  ⟨fun tk' pp => callWith_of (P := fun h => h.get? q = some (mwObj e)) (by rw [any_backTo hp]; rfl) (fun h z => x_keeper z)
    (wpAny_mono ((d_args (f := .ref q) (Q := fun a h₁ => a.kw = [] ∧ h₁.get? q = some (mwObj e) ∧ (hd.heap_39 w.params).In h₁ ∧ h₁.get? e = some (excO 89 a0) ∧ a.pos.length ≤ 100 ∧
      ∀ h' b, h'.get? e = some (excO 89 b) → h₁.get? b = none → (∀ y o, y ≠ e → h₁.get? y = some o → h'.get? y = some o) → Q .none h') hp (d_conseq k fun vs h' z => ⟨rfl, z⟩)).run tk' pp)
     (fun a s' ⟨h', tk2, p', es, ea, e1, e2, e3, e4, e5⟩ => by
      subst es
      refine ⟨e1, ?_⟩
      rw [ea]
      refine wpAny_call (x_mwCall (w := w) (v := .none) (C := 0) e2 e1 e3 (by rw [sizeLine_eq]; show ([] ++ a.pos).length ≤ _; simp; omega) fun h'' b z1 z2 z3 => ?_)
      exact .mk (h := h'') p' (e5 h'' b z1 z2 z3)) fun _ _ z => z)⟩
end
end
section
section
variable {prog : Program} {w : World} {A : Around} {c : Cfg} {h : Heap} {K : Frag} {f : Addr}
/-- a call of a def with a closure that does not raise -/
theorem dc_enterX {R : Result → Heap → Prop} {name qual : Str} {params : Arguments} {body : List Stmt} {scope : Scope} {cl : List (Str × Addr)} {dV kV doc pm cdv ct oc : Value} {an od : Option Addr} {osl : Array (Option Value)} {args : Args} {binds : List (Str × Value)}
    (X : K.In h) (hlim : h.NoLimit)
    (ho : K.lookup f = some ⟨oc, od, .func (fnX name qual params body scope cl dV kV doc pm an cdv ct), osl⟩) (hcd : codeIn K cdv qual = true) (hroom : A.depth < recursionLimit)
    (hbind : ∀ tk, BindsTo (c.st h tk) (fnX name qual params body scope cl dV kV doc pm an cdv ct) args binds) (hloc : ∀ y ∈ binds, scope.names.lookup y.1 = some .local)
    (k : ∀ L h₁ env, EnvIs scope L env → FrL h L h₁ binds.reverse → h.objs.size = L →
      D (model prog w) (A.deeper env) c (execs body env) h₁ (fun fl h' => R (.ok (.ret (match fl with | .ret v => v | _ => .none))) h') (fun _ _ => False))
    (hco : scope.isCoroutine = false := by rfl) (hgen : scope.isGenerator = false := by rfl) (hk : scope.kind = .function := by rfl)
    (hcell : ∀ x ∈ scope.names, x.2 ≠ .cell := by decide) : DC (model prog w) A c (.call (.ref f) args) h R := ⟨fun tk pp => by
  refine codeAny_call_def (s := c.st h tk) (fd := fnX name qual params body scope cl dV kV doc pm an cdv ct) (body := body) (binds := binds) hroom (X _ _ ho) rfl hlim (codeRec_of X hcd) rfl (hbind tk) hcell hloc
    (fun h₁ hns hk₁ => ?_) hco hgen hk
  refine wpAny_mono ((k h.objs.size h₁ _ ⟨rfl, rfl, rfl, rfl⟩ ⟨⟨_, hns, fun _ _ e => e⟩, hk₁, not_get_size h⟩ rfl).run (tk + binds.length) (by omega)) (fun fl s' q => ?_) fun e s q => ?_
  · obtain ⟨h', tk', p', rfl, q⟩ := q; exact .mk p' q
  · obtain ⟨_, _, _, _, q⟩ := q; exact q.elim⟩
end
section
variable {prog : Program} {w : World} {A : Around} {c : Cfg} {h : Heap} {p : Program} {loose : List Str} {mg mb : Str → Option Value}
theorem pinit_spec {x t0 : Addr} {m v : Value} (T : Top0 w.params p loose mg mb h) (hroom : A.depth < recursionLimit) (hx : h.get? x = some (excO 89 t0)) (hne : x ≠ 89) {R : Result → Heap → Prop}
    (k : ∀ h' b, (∀ y o, y ≠ x → h.get? y = some o → h'.get? y = some o) → h'.get? x = some (excO 89 b) → h.get? b = none → R (.ok (.ret .none)) h') :
    DC (model prog w) A c (.call (.ref 61) ⟨[.ref x, m, v], []⟩) h R := by
  refine dc_enterX (K := hd.heap_39 w.params) (binds := [(Str.ofString "self", .ref x), (Str.ofString "message", m), (Str.ofString "data", v)]) T.K T.T.nolimit (by k_is) (by k_is) hroom (fun _ => .of_eq rfl) (locs rfl) (fun L h₁ env hE F hL => ?_)
  repeat walk_at "d1"
  refine d_bltn hE F T.K T.T (by k_is) PyProof.Rows.Boot.«super» (by decide) ?_
  repeat walk_at "d1"
  refine d_super (T.K.keeps F.keep) (F.keep _ _ hx) rfl (by intro c z; cases z) (fun h₂ so k2 n2 hso => ?_)
  have F2 := F.back k2
  refine d_superInit (T.K.keeps F2.keep) (F2.keep _ _ hx) rfl hne hso (fun h₃ mw k3 n3 hmw => ?_)
  have F3 := F2.back k3
  refine d_withMW (a0 := t0) (T.K.keeps F3.keep) hmw ?_
  clear F F2
  repeat walk_at "d1"
  refine d_newTuple F3 (by simp) (fun H' h₄ b kH F4 k4 n4 ht => ?_)
  repeat walk_at "d1"
  have kk := stays_trans kH F4.keep
  refine ⟨k4 _ _ hmw, T.K.keeps kk, kk _ _ hx, by simp, fun h' b z1 z2 z3 => ?_⟩
  repeat walk_at "d1"
  refine k h' b (fun y o ny e => z3 y o ny (kk _ _ e)) z1 (none_of_stays kk z2)
theorem x_checkNew {rest : List Value} {Q : Unit → Shared → Prop} {E : Value → Shared → Prop} {g : Array GenState} {d : Drawn} {t : Nat} {os : OsState} (X : (hd.heap_39 w.params).In h) (hq : Q () ⟨h, g, d, t, os⟩) :
    wpAny (model prog w) A (checkBuiltinCall "ValueError.__new__" ⟨.ref 89 :: rest, []⟩) Q E ⟨h, g, d, t, os⟩ := by
  obtain ⟨oc, od, cd, sl, hC, -⟩ := xcls X
  have hstar := F.excCall_ValueError.noStar
  have s1 := looks_subIn (M := model prog w) X (show subIn (hd.heap_39 w.params) (.ref 89) (.type "ValueError") = some true by k_is)
  have made := x_made (M := model prog w) X
  have base := x_base (M := model prog w) X
  simp only [checkBuiltinCall, F.excBase_ValueError.newKind, F.excBase_ValueError.newSplit, F.excBase_ValueError.newRow]
  repeat (first | with_reducible refine wpAny_loadPart_at hC ?_ | with_reducible refine Looks.at s1 ?_ | with_reducible refine Looks.at base ?_ | with_reducible refine Looks.at made ?_ | simp only [bne_self_eq_false, Bool.false_eq_true, if_false] | wp_step)
  exact hq
theorem d_excCall {m v : Value} {Q : Value → Heap → Prop} {E : Value → Heap → Prop} (T : Top0 w.params p loose mg mb h) (hroom : A.depth + 2 < recursionLimit)
    (q : ∀ h' e b, h.StaysIn h' → h.get? e = none → h'.get? e = some (excO 89 b) → h.get? b = none → Q (.ref e) h') : D (model prog w) A c (call (.ref 89) [m, v]) h Q E := ⟨fun tk pp => by
  have X := T.K
  obtain ⟨oc, od, cd, sl, hC, -⟩ := xcls X
  have made := x_made (M := model prog w) X
  have hm := x_mro (M := model prog w) X
  have call := looks_specialIn (M := model prog w) X (show specialIn (hd.heap_39 w.params) (.ref 89) "__call__" = some (some (.builtin "type.__call__")) by k_is)
  have typ := looks_instIn (M := model prog w) X (show instIn (hd.heap_39 w.params) (.ref 89) (.type "type") = some true by k_is)
  refine wpAny_call (codeAny_of_tree ?_)
  show wpAny _ _ (callAny (.ref 89) _) _ _ (⟨h, c.gens, c.drawn, tk, c.os⟩ : Shared)
  refine nd_load hC ?_
  show wpAny _ _ (callAny.viaDunder (.ref 89) _) _ _ _
  unfold callAny.viaDunder
  refine wpAny_bind (call.at ?_)
  dsimp only
  rw [tc_bind]
  refine wpAny_bind (wpAny_pure (wpAny_bind (wpAny_pure ?_)))
  refine wpAny_pure (a := Fin.again (.call (.builtin "type.__call__") ⟨[.ref 89, m, v], []⟩)) (And.intro rfl ?_)
  refine codeAny_call_builtin_at (Code.quiet_builtin _ (by decide +kernel)) entry_typeCall (check_slot tc_kind tc_split typ (tc_args _ _ _) ?_)
  unfold Builtin.«type.__call__»
  refine wpAny_bind (hm.at ?_)
  dsimp only
  rw [if_neg (by decide)]
  refine wpAny_bind (made.at ?_)
  dsimp only
  refine wpAny_bind (wpAny_pure (wpAny_bind (wpAny_holding (wpAny_call (codeAny_call_builtin_code (Code.quiet_builtin _ F.excCall_ValueError.quiet) (x_checkNew X (x_new X ?_)))))))
  dsimp only
  obtain ⟨h2, eh2⟩ : ∃ h2, h2 = (h.push { cls := .type "tuple", data := .seq [m, v].toArray }).push (excO 89 h.objs.size) := ⟨_, rfl⟩
  have k2 : h.StaysIn h2 := by rw [eh2]; exact stays_trans (stays_push _) (stays_push _)
  have ge : h2.get? (h.objs.size + 1) = some (excO 89 h.objs.size) := by
    have := Heap.get?_push_size (h := h.push { cls := .type "tuple", data := .seq [m, v].toArray }) (o := excO 89 h.objs.size) rfl
    rw [Heap.size_push] at this; rw [eh2]; exact this
  have ne0 : h.get? (h.objs.size + 1) = none := by
    cases e : h.get? (h.objs.size + 1) with
    | none => rfl
    | some o => exact absurd (Heap.lt_size e) (Nat.not_lt.mpr (Nat.le_succ _))
  rw [← eh2]
  generalize h.objs.size + 1 = e at *
  have ne89 : e ≠ 89 := fun z => by rw [z, X _ _ (show (hd.heap_39 w.params).lookup 89 = some _ by k_is)] at ne0; cases ne0
  have T2 := T.keeps k2
  have X2 := T2.K
  have t1 : Looks (model prog w) h2 (typeOf (.ref e)) (.ref 89) := (Looks.ld ge).andThen .now
  have s1 := looks_subIn (M := model prog w) X2 (show subIn (hd.heap_39 w.params) (.ref 89) (.ref 89) = some true by k_is)
  have i1 := looks_findIn (M := model prog w) X2 (show findIn (hd.heap_39 w.params) (.ref 89) "__init__" = some (some (.ref 61)) by k_is)
  have b1 := bind_fn (M := model prog w) X2 (f := 61) (.ref e) (by k_is)
  unfold isInstance callSpecial? specialOf
  repeat (first | with_reducible refine wpAny_call ?_ | lk)
  refine codeAny_mono ((pinit_spec (c := c) (A := A.under (.builtin "type.__call__" ⟨[.ref 89, m, v], []⟩)) (t0 := h.objs.size) T2 (by rw [under_tc]; show A.depth + 1 < recursionLimit; omega) ge ne89 (R := fun r h' => r = .ok (.ret .none) ∧ Q (.ref e) h') fun h' b k3 ge' nb => ⟨rfl, q h' e b (fun y o ey => k3 y o (fun z => by rw [z, ne0] at ey; cases ey) (k2 _ _ ey)) ne0 ge' (none_of_stays k2 nb)⟩).run tk pp) fun r s' z => ?_
  obtain ⟨h', tk', p', rfl, rfl, z⟩ := z
  exact wpAny_pure (wpAny_pure (.mk p' z))⟩
end
end
section
section
variable {prog : Program} {w : World} {A : Around} {c : Cfg} {h : Heap} {E : Value → Heap → Prop} {env : Env} {pos : Pos}
theorem d_raise {e : Expr} {Q : Flow → Heap → Prop} (hh : A.handled = none)
    (k : D (model prog w) A c (eval e env) h (fun v h₁ => ∃ x b, v = .ref x ∧ h₁.get? x = some (excO 89 b) ∧ (hd.heap_39 w.params).In h₁ ∧ E v h₁) E) : D (model prog w) A c (exec (.Raise (some e) none pos) env) h Q E := ⟨fun tk p => by
  show wpAny _ A (do standAt pos; raiseStmt env (some (do let v ← eval e env; standAt pos; pure v)) none) _ _ _
  refine wpAny_bind (wpAny_standAt ?_)
  unfold raiseStmt
  dsimp only
  refine wpAny_bind (wpAny_bind (wpAny_mono (k.run tk p) (fun v s₁ h₁ => wpAny_bind (wpAny_standAt (wpAny_pure ?_))) fun _ _ x => x))
  obtain ⟨h1, tk1, p1, rfl, x, b, rfl, hx, X, hE⟩ := h₁
  have nt : Looks (model prog w) h1 (isType (.ref x)) false := by
    unfold isType loadHead
    exact (Looks.ld hx).andThen .now
  have t1 : Looks (model prog w) h1 (typeOf (.ref x)) (.ref 89) := (Looks.ld hx).andThen .now
  have t2 : Looks (model prog w) h1 (typeOf (.ref 89)) (.type "type") := looks_typeIn X (by k_is)
  have s1 := looks_subIn (M := model prog w) X (show subIn (hd.heap_39 w.params) (.ref 89) (.type "BaseException") = some true by k_is)
  refine wpAny_bind (wpAny_pure ?_)
  dsimp only
  refine wpAny_bind (wpAny_holding ?_)
  unfold excFromValue isExcClass raisedInstance isInstance setFlight
  refine wpAny_bind (wpAny_bind (nt.at ?_))
  simp only [Bool.false_eq_true, if_false]
  refine wpAny_pure ?_
  simp only [Bool.false_eq_true, if_false]
  refine wpAny_bind (wpAny_bind (t1.at (s1.at ?_)))
  simp only [if_true]
  refine wpAny_pure ?_
  refine wpAny_bind (nt.at ?_)
  simp only [Bool.false_eq_true, if_false]
  refine wpAny_bind (wpAny_bind (t1.at (wpAny_bind (t2.at ?_))))
  rw [if_pos (by decide)]
  refine wpAny_pure ?_
  refine wpAny_bind (wpAny_bind (wpAny_field hx rfl (x := .none) rfl ?_))
  rw [if_neg (by decide)]
  refine wpAny_pure ?_
  unfold raiseNew
  refine wpAny_bind (wpAny_handled ?_)
  rw [hh]
  first
    | exact wpAny_throw (.mk (h := h1) p1 hE)
    | exact wpAny_bind (wpAny_pure (wpAny_throw (.mk (h := h1) p1 hE)))⟩
theorem d_leaveFirst {base : Heap} {outer : List Env} {L e : Addr} {oe : Obj} {vs : Array Value} {a0 : Value} {Q : Unit → Heap → Prop} (hfr : A.frames = some (env :: outer)) (hl : h.FunFrames base (env :: outer)) (hf : env.frame = some L)
    (he : h.get? e = some oe) (hkb : base.StaysIn h) (hen : base.get? e = none) (hd : oe.data = .fields vs) (h1 : vs[1]? = some .none) (h0 : vs[0]? = some a0) (q : ∀ h', Heap.LeftW base (env :: outer) e oe.cls a0 h h' → Q () h') :
    D (model prog w) A c (leaving env (.ref e)) h Q E :=
  ⟨fun tk p => wpAny_leaving_firstW (s := c.st h tk) hfr hl hf he hkb hen hd h1 h0 fun h' z => .mk (h := h') p (q h' z)⟩
end
end
section
/-- one line, as a sentence is told: dollar, body, star, sum, perhaps a CR -/
def lineOf (dol : Bool) (ta body : List Nat) (n : Nat) (cr : Bool) : List Nat := (if dol then [36] else []) ++ ((ta ++ sg "XDR," ++ body) ++ 42 :: (hex2 n ++ if cr then [13] else []))
structure LineOk (ta body : List Nat) (n : Nat) : Prop where
  tk : ta ∈ talkers
  nostar : 42 ∉ body
  len : body.length ≤ 1000
  nn : n < 256
  xx : xs (ta ++ sg "XDR," ++ body) < 256
section
variable {prog : Program} {w : World} {A : Around} {c : Cfg} {h : Heap} {K : Frag} {f : Addr}
/-- a call of a plain def that may raise -/
theorem dc_enterE {R : Result → Heap → Prop} {name qual : Str} {params : Arguments} {body : List Stmt} {scope : Scope} {dV kV doc pm cdv ct oc : Value} {an od : Option Addr} {osl : Array (Option Value)} {args : Args} {binds : List (Str × Value)}
    (X : K.In h) (hlim : h.NoLimit)
    (ho : K.lookup f = some ⟨oc, od, .func (fnOf name qual params body scope dV kV doc pm an cdv ct), osl⟩) (hcd : codeIn K cdv qual = true) (hroom : A.depth < recursionLimit)
    (hbind : ∀ tk, BindsTo (c.st h tk) (fnOf name qual params body scope dV kV doc pm an cdv ct) args binds) (hloc : ∀ y ∈ binds, scope.names.lookup y.1 = some .local)
    (k : ∀ L h₁ env, EnvIs scope L env → envOf qual scope L f cdv = env → FrL h L h₁ binds.reverse → h.objs.size = L →
      D (model prog w) (A.deeper env) c (execs body env) h₁ (fun fl h' => R (.ok (.ret (match fl with | .ret v => v | _ => .none))) h') (fun e h' => D (model prog w) (A.deeper env) c (leaving env e) h' (fun _ h'' => R (.error e) h'') (fun _ _ => False)))
    (hco : scope.isCoroutine = false := by rfl) (hgen : scope.isGenerator = false := by rfl) (hk : scope.kind = .function := by rfl)
    (hcell : ∀ x ∈ scope.names, x.2 ≠ .cell := by decide) : DC (model prog w) A c (.call (.ref f) args) h R := ⟨fun tk pp => by
  refine codeAny_call_def (s := c.st h tk) (fd := fnOf name qual params body scope dV kV doc pm an cdv ct) (body := body) (binds := binds) hroom (X _ _ ho) rfl hlim (codeRec_of X hcd) rfl (hbind tk) hcell hloc
    (fun h₁ hns hk₁ => ?_) hco hgen hk
  refine wpAny_mono ((k h.objs.size h₁ _ ⟨rfl, rfl, rfl, rfl⟩ rfl ⟨⟨_, hns, fun _ _ e => e⟩, hk₁, not_get_size h⟩ rfl).run (tk + binds.length) (by omega)) (fun fl s' q => ?_) fun e s q => ?_
  · obtain ⟨h', tk', p', rfl, q⟩ := q; exact .mk p' q
  · obtain ⟨h', tk', p', rfl, q⟩ := q
    exact wpAny_mono (q.run tk' p') (fun _ s z => z) fun _ _ z => by obtain ⟨_, _, _, _, z⟩ := z; exact z.elim⟩
variable {E : Value → Heap → Prop} {env : Env} {pos : Pos}
theorem d_cutS {value slice : Expr} {x y : List Nat} {t : Tok} {a : Addr} {lo hi : Option (Nat × Tok)} {Q : Value → Heap → Prop} (hs : h.IsSliceOf a (partV lo) (partV hi) .none) (e : (x.take ((hi.map (·.1)).getD x.length)).drop ((lo.map (·.1)).getD 0) = y) (hz : x.length ≤ 16000000)
    (q : ∀ t, Q (.str (S y) t) h) (he : ∃ ops, subscripted slice false (.str (S x) t) (.ref a) = operate ops (getItem (.str (S x) t) (.ref a)) := by exact ⟨_, rfl⟩) :
    D (model prog w) A c (subscriptTail value slice (.str (S x) t) (.ref a)) h Q E := by subst e; exact d_tailSlStr hs hz q he
theorem d_inTup {x : List Nat} {u : Tok} {t : Addr} {items : Array Value} {ls : List (List Nat)} {Q : Value → Heap → Prop} (ht : IsTup h t items) (hs : Strs items.toList ls) (q : Q (.bool (ls.any (· == x))) h) : D (model prog w) A c (compareOp .In (.str (S x) u) (.ref t)) h Q E :=
  ⟨fun tk p => in_tuple_strs (s := c.st h tk) ht (strsAre_of hs) (.mk p (by
    have e : (ls.map S).any (· == S x) = ls.any (· == x) := by
      rw [List.any_map]; congr 1; funext z; exact S_beq z x
    rw [e]; exact q))⟩
theorem d_asgTup {elts : List Expr} {k : Nat} {tp : Pos} {value : Expr} {Q : Flow → Heap → Prop}
    (x : D (model prog w) A c (eval value env) h (fun v h₁ => D (model prog w) A c (assign (.Tuple elts k tp) env v) h₁ (fun _ => Q .next) E) E)
    (hs : swapsWithSole [.Tuple elts k tp] value pos.line env = pure false := by rfl) (hw : swappedStores [.Tuple elts k tp] value env = pure none := by rfl) : D (model prog w) A c (exec (.Assign [.Tuple elts k tp] value pos) env) h Q E :=
  ⟨fun tk p => Assign_Tuple (wpAny_mono (x.run tk p) (fun v s ⟨h₁, t₁, p₁, e₁, q₁⟩ => by subst e₁; exact q₁.run t₁ p₁) fun _ _ z => z) hs hw⟩
theorem d_asgSw {elts : List Expr} {k : Nat} {tp : Pos} {value : Expr} {names : List Str} {Q : Flow → Heap → Prop}
    (x : D (model prog w) A c (eval value env) h (fun v h₁ => D (model prog w) A c (unpackItems v names.length none) h₁ (fun items h₂ => D (model prog w) A c (assignInOrder (names.reverse.map fun n => bindName env n) items.reverse) h₂ (fun _ => Q .next) E) E) E)
    (hs : swapsWithSole [.Tuple elts k tp] value pos.line env = pure false := by rfl) (hw : swappedStores [.Tuple elts k tp] value env = pure (some names) := by rfl) : D (model prog w) A c (exec (.Assign [.Tuple elts k tp] value pos) env) h Q E :=
  ⟨fun tk p => Assign_Tuple_swapped (wpAny_mono (x.run tk p) (fun v s ⟨h₁, t₁, p₁, e₁, q₁⟩ => by
    subst e₁; exact wpAny_mono (q₁.run t₁ p₁) (fun v s ⟨h₂, t₂, p₂, e₂, q₂⟩ => by subst e₂; exact q₂.run t₂ p₂) fun _ _ z => z) fun _ _ z => z) hs hw⟩
theorem d_unpack {t : Addr} {items : Array Value} {n : Nat} {Q : List Value → Heap → Prop} (hA : A.handled = none) (ht : h.IsTuple t items) (hn : n = items.size) (q : ∀ h', h.StaysIn h' → Q items.toList h') : D (model prog w) A c (unpackItems (.ref t) n none) h Q E :=
  ⟨fun tk p => by subst hn; exact wpAny_unpackItems_tuple (s := c.st h tk) hA ht (fun h' eb => .mk (h := h') p (q h' fun b o e => eb b o (Nat.ne_of_lt (Heap.lt_size e)) e))⟩
theorem d_ino0 {Q : Unit → Heap → Prop} (q : Q () h) : D (model prog w) A c (assignInOrder [] []) h Q E := ⟨fun tk p => wpAny_assignInOrder_none (.mk p q)⟩
theorem d_ino {t : Value → Sem Unit} {ts : List (Value → Sem Unit)} {x : Value} {xs : List Value} {Q : Unit → Heap → Prop} (k : D (model prog w) A c (t x) h (fun _ h₁ => D (model prog w) A c (assignInOrder ts xs) h₁ Q E) E) : D (model prog w) A c (assignInOrder (t :: ts) (x :: xs)) h Q E :=
  ⟨fun tk p => wpAny_assignInOrder_more (wpAny_mono (k.run tk p) (fun _ s ⟨h₁, t₁, p₁, e₁, q₁⟩ => by subst e₁; exact q₁.run t₁ p₁) fun _ _ z => z)⟩
theorem d_bindName {x : Str} {v : Value} {Q : Unit → Heap → Prop} (k : D (model prog w) A c (storeName env x v) h Q E) : D (model prog w) A c (bindName env x v) h Q E := ⟨fun tk p => bindName_ (k.run tk p)⟩
theorem d_asgName {x : Str} {px : Pos} {v : Value} {Q : Unit → Heap → Prop} (k : D (model prog w) A c (storeName env x v) h Q E) : D (model prog w) A c (assign (.Name x px) env v) h Q E := ⟨fun tk p => wpAny_assign_Name (k.run tk p)⟩
theorem d_asgTupN {elts : List Expr} {k : Nat} {tp : Pos} {t : Addr} {items : Array Value} {Q : Unit → Heap → Prop} (hA : A.handled = none) (ht : h.IsTuple t items) (hn : (assignEach elts env).length = items.size) (hstar : (assignEach elts env).findIdx? (·.1) = none)
    (q : ∀ h', h.StaysIn h' → D (model prog w) A c (assignInOrder ((assignEach elts env).map (·.2)) items.toList) h' Q E) : D (model prog w) A c (assign (.Tuple elts k tp) env (.ref t)) h Q E :=
  ⟨fun tk p => wpAny_assign_Tuple (s := c.st h tk) hA ht hn hstar (fun h' eb => (q h' fun b o e => eb b o (Nat.ne_of_lt (Heap.lt_size e)) e).run tk p)⟩
end
section
variable {prog : Program} {w : World} {A : Around} {c : Cfg} {h : Heap} {p : Program} {loose : List Str} {mg mb : Str → Option Value} {kd : Addr} {kvs : List (Str × Value)}
theorem line_lstrip {dol cr : Bool} {ta body : List Nat} {n : Nat} (ok : LineOk ta body n) : Txt.lstrip (S (lineOf dol ta body n cr)) = S (lineOf dol ta body n cr) := by
  unfold lineOf
  cases dol
  · have := talk_head ta ok.tk
    have hl := talk_len ta ok.tk
    obtain ⟨a, b, rfl⟩ : ∃ a b, ta = [a, b] := by
      match ta, hl with
      | [a, b], _ => exact ⟨a, b, rfl⟩
    exact lstrip_S this.1
  · exact lstrip_S sp36
theorem parse_spec (T : Top0 w.params p loose mg mb h) (hroom : A.depth + 30 < recursionLimit) (hA : A.handled = none) {dol cr check : Bool} {ta body : List Nat} {n : Nat} {t : Tok} {args : Args} (ha : args = ⟨[.str (S (lineOf dol ta body n cr)) t, .ref kd, .bool check], []⟩ ∨ (args = ⟨[.str (S (lineOf dol ta body n cr)) t, .ref kd], []⟩ ∧ check = false)) (ok : LineOk ta body n)
    (hks : (kd == sysModules) = false) (hk : h.DictOf (strKind prog w) kd kvs) (hkv : valueAt kvs (Str.ofString "XDR") = some (.ref 394)) {R : Result → Heap → Prop}
    {outer : List Env} {as : List Addr} (hfr : A.frames = some outer) (hFF : h.FunFrames (hideAll h as) outer)
    (kb : n ≠ xs (ta ++ sg "XDR," ++ body) → ∀ h' x a0, h.get? x = none → Heap.FlyingW (hideAll h as) outer x (.ref 89) a0 h' → h.UpToSlots h' → R (.error (.ref x)) h')
    (k : n = xs (ta ++ sg "XDR," ++ body) → ∀ h' x dx l t1 t2 items, h.StaysIn h' → h.get? x = none → h.get? dx = none → h.get? l = none → x ≠ dx → Sen w.params h' x dx l (.str (S ta) t1) (.str (S (sg "XDR")) t2) items → Strs items.toList (spl 44 body) → R (.ok (.ret (.ref x))) h') :
    DC (model prog w) A c (.call (.ref 124) args) h R := by
  refine dc_enterE (K := hd.heap_39 w.params) (binds := [(Str.ofString "line", .str (S (lineOf dol ta body n cr)) t), (Str.ofString "kinds", .ref kd), (Str.ofString "check", .bool check)]) T.K T.T.nolimit (by k_is) (by k_is) (by omega) (fun _ => by rcases ha with rfl | ⟨rfl, rfl⟩ <;> exact binds_K (K := hd.heap_39 w.params) T.K rfl (by k_is) rfl rfl rfl) (locs rfl) (fun L h₁ env hE hEq F hL => ?_)
  have hl1 : ta.length = 2 := talk_len ta ok.tk
  have hl2 : (sg "XDR,").length = 4 := rfl
  have hl3 := ok.len
  have hll : (lineOf dol ta body n cr).length ≤ 2000 := by unfold lineOf; cases dol <;> cases cr <;> simp [hl1, hl2, hex2] <;> omega
  repeat walk_at "d1"
  refine d_asgTup ?_
  refine d_mcall ?_
  refine d_mcall ?_
  repeat walk_at "d1"
  refine d_gm (fun M A E s Q q => GM.lstrip q) ?_
  repeat walk_at "d1"
  refine d_lstrip (line_lstrip ok) (by omega) (fun t2 => ?_)
  refine d_gm (fun M A E s Q q => GM.partition q) ?_
  repeat walk_at "d1"
  have hB : 42 ∉ ta ++ sg "XDR," ++ body := by
    have h1 := (talk_under ta ok.tk).2
    have h2 : 42 ∉ sg "XDR," := by decide
    simp only [List.mem_append, not_or]; exact ⟨⟨h1, h2⟩, ok.nostar⟩
  have hBl : (ta ++ sg "XDR," ++ body).length ≤ 1006 := by simp [hl1, hl2]; omega
  have el : lineOf dol ta body n cr = ((if dol then [36] else []) ++ (ta ++ sg "XDR," ++ body)) ++ 42 :: (hex2 n ++ if cr then [13] else []) := by unfold lineOf; simp
  obtain ⟨B, hBe⟩ : ∃ B, B = ta ++ sg "XDR," ++ body := ⟨_, rfl⟩
  obtain ⟨tl, htl⟩ : ∃ tl, tl = hex2 n ++ (if cr then [13] else []) := ⟨_, rfl⟩
  obtain ⟨c0, c1, hc⟩ : ∃ c0 c1, ta = [c0, c1] := by
    match ta, hl1 with
    | [a, b], _ => exact ⟨a, b, rfl⟩
  have hB0 : B = c0 :: c1 :: 88 :: 68 :: 82 :: 44 :: body := by rw [hBe, hc]; rfl
  have th := talk_head ta ok.tk
  rw [hc] at th
  have h36 : ¬ c0 = 36 := th.2.1
  have h80 : ¬ c0 = 80 := th.2.2.1
  have h112 : ¬ c0 = 112 := th.2.2.2
  have ha4 : ((([c0, c1, 88, 68] : List Nat).length : Int) == 4 && Txt.isalnum (S [c0, c1, 88, 68])) = true := by
    have := alnum4 ta ok.tk
    rw [hc] at this
    rw [show ([c0, c1, 88, 68] : List Nat) = (([c0, c1] ++ sg "XDR").take 4) from rfl, this]; rfl
  have ha5 : ((([c0, c1, 88, 68, 82] : List Nat).length : Int) == 5 && Txt.isalnum (S [c0, c1, 88, 68, 82])) = true := by
    have := alnum5 ta ok.tk
    rw [hc] at this
    rw [show ([c0, c1, 88, 68, 82] : List Nat) = [c0, c1] ++ sg "XDR" from rfl, this]; rfl
  have h95' := (talk_under ta ok.tk).1
  rw [hc] at h95'
  have h95 : 95 ∉ ([c0, c1, 88, 68] : List Nat) := by simp at h95' ⊢; exact h95'
  have h955 : 95 ∉ ([c0, c1, 88, 68, 82] : List Nat) := by simp at h95' ⊢; exact h95'
  rw [← hBe] at hB hBl el
  rw [← htl] at el
  have htll : tl.length ≤ 3 := by rw [htl]; cases cr <;> simp [hex2]
  rw [el]
  refine d_part3 (a := (if dol then [36] else []) ++ B) (k := 42) (by cases dol <;> simp [hB]) (by cases dol <;> simp <;> omega) (fun h₂ D2 a1 a2 a3 k2 n2 ht2 => ?_)
  have F2 := F.back k2
  refine d_asgTupN hA ht2 rfl rfl (fun h₃ k3 => ?_)
  have F3 := F2.back k3
  clear F F2
  refine d_ino (d_asgName (d_store hE F3 (fun h₄ F4 => ?_)))
  refine d_ino (d_asgName (d_store hE F4 (fun h₅ F5 => ?_)))
  refine d_ino (d_asgName (d_store hE F5 (fun h₆ F6 => ?_)))
  clear F3 F4 F5
  refine d_ino0 ?_
  refine d_cons (d_conseq (Q := fun fl h' => fl = .next ∧ ∃ tn, FrL h L h' [(Str.ofString "nmea_str", .str (S B) tn), (Str.ofString "star", .str (S [42]) a2), (Str.ofString "tail", .str (S tl) a3), (Str.ofString "line", .str (S (lineOf dol ta body n cr)) t), (Str.ofString "kinds", .ref kd), (Str.ofString "check", .bool check)]) ?_ ?_)
  · repeat walk_at "d1"
    refine d_mkSlice F6 (fun h₇ a F7 hsl k7 => ?_)
    refine d_tailSlStr (lo := none) (hi := some (1, _)) hsl (by cases dol <;> simp <;> omega) (fun t7 => ?_)
    dsimp only [Option.map_none, Option.map_some, Option.getD_none, Option.getD_some, List.drop_zero]
    repeat walk_at "d1"
    cases dol
    · refine ite_no (by rw [hB0]; simp [h36, show sg "$" = [36] from rfl]) ?_
      repeat walk_at "d1"
      exact ⟨rfl, a1, F7.sub (sub_cons rfl (sub_cons rfl (sub_cons rfl (sub_cons rfl (sub_cons rfl (sub_cons rfl sub_nil))))))⟩
    · refine ite_yes (by rfl) ?_
      repeat walk_at "d1"
      refine d_mkSlice F7 (fun h₈ a F8 hsl k8 => ?_)
      refine d_tailSlStr (lo := some (1, _)) (hi := none) hsl (by simp; omega) (fun t8 => ?_)
      dsimp only [Option.map_none, Option.map_some, Option.getD_none, Option.getD_some]
      rw [List.take_length]
      refine d_store hE F8 (fun h₉ F9 => ?_)
      repeat walk_at "d1"
      exact ⟨rfl, t8, F9.sub (sub_cons rfl (sub_cons rfl (sub_cons rfl (sub_cons rfl (sub_cons rfl (sub_cons rfl sub_nil))))))⟩
  · rintro fl h₇ ⟨rfl, tn, F7⟩
    dsimp only
    clear F6 ht2 el hll
    repeat walk_at "ds"
    refine d_int (fun t10 _ => d_store hE F7 (fun h₈ F8 => ?_))
    refine d_cons (d_conseq (Q := fun fl h' => fl = .next ∧ ∃ tz, FrL h L h' [(Str.ofString "size", .int 6 tz), (Str.ofString "nmea_str", .str (S B) tn), (Str.ofString "star", .str (S [42]) a2), (Str.ofString "tail", .str (S tl) a3), (Str.ofString "line", .str (S (lineOf dol ta body n cr)) t), (Str.ofString "kinds", .ref kd), (Str.ofString "check", .bool check)]) ?_ ?_)
    · repeat walk_at "d1"
      refine d_mkSlice F8 (fun h₉ a F9 hsl k9 => ?_)
      refine d_cutS (lo := none) (hi := some (1, _)) (y := [c0]) hsl (by rw [hB0]; rfl) (by omega) (fun t11 => ?_)
      clear hsl k9 F8
      repeat walk_at "d1"
      refine d_newTuple F9 (by simp) (fun H10 h10 b1 k10 F10 k11 n11 ht => ?_)
      refine d_inTup (ht.keeps F10.keep) (.cons (.cons .nil)) ?_
      refine d_truthy_bool ?_
      refine ite_no (by simp [show sg "P" = [80] from rfl, show sg "p" = [112] from rfl]; exact ⟨fun z => h80 z.symm, fun z => h112 z.symm⟩) ?_
      have F10 := F10.down k10 F9.out
      clear F9 ht
      repeat walk_at "d1"
      have T1 := T.keeps F10.keep
      refine d_withK (K := hd.heap_39 w.params) (by k_is) ?_
      repeat walk_at "d1"
      refine d_mkSlice F10 (fun h₁₁ a F11 hsl k12 => ?_)
      refine d_cutS (lo := none) (hi := some (4, _)) (y := [c0, c1, 88, 68]) hsl (by rw [hB0]; rfl) (by omega) (fun t12 => ?_)
      clear hsl k12 F10
      repeat walk_at "d1"
      refine ⟨T.K.keeps F11.keep, d_call (wordlike_spec (T.keeps F11.keep) (by show A.depth + 1 + 9 < recursionLimit; omega) (by simp) h95 (fun h₁₂ k13 => ?_))⟩
      have F12 := F11.back k13
      clear F11
      rw [ha4]
      repeat walk_at "d1"
      refine d_mkSlice F12 (fun h₁₃ a F13 hsl k14 => ?_)
      refine d_cutS (lo := some (4, _)) (hi := some (6, _)) (y := [82, 44]) hsl (by rw [hB0]; rfl) (by omega) (fun t13 => ?_)
      clear hsl k14 F12
      repeat walk_at "d1"
      refine d_newTuple F13 (by simp) (fun H14 h14 b2 k15 F14 k16 n14 ht => ?_)
      refine d_inTup (ht.keeps F14.keep) (.cons (.cons .nil)) ?_
      refine d_truthy_bool ?_
      refine ite_no (by decide) ?_
      have F14 := F14.down k15 F13.out
      clear F13 ht
      repeat walk_at "d1"
      refine d_withK (K := hd.heap_39 w.params) (by k_is) ?_
      repeat walk_at "d1"
      refine d_mkSlice F14 (fun h₁₅ a F15 hsl k17 => ?_)
      refine d_cutS (lo := none) (hi := some (5, _)) (y := [c0, c1, 88, 68, 82]) hsl (by rw [hB0]; rfl) (by omega) (fun t15 => ?_)
      clear hsl k17 F14
      repeat walk_at "d1"
      refine ⟨T.K.keeps F15.keep, d_call (wordlike_spec (T.keeps F15.keep) (by show A.depth + 1 + 9 < recursionLimit; omega) (by simp) h955 (fun h₁₆ k18 => ?_))⟩
      have F16 := F15.back k18
      clear F15
      rw [ha5]
      repeat walk_at "d1"
      refine d_mkSlice F16 (fun h₁₇ a F17 hsl k19 => ?_)
      refine d_cutS (lo := some (5, _)) (hi := some (6, _)) (y := [44]) hsl (by rw [hB0]; rfl) (by omega) (fun t16 => ?_)
      clear hsl k19 F16
      repeat walk_at "d1"
      rename_i t17 t18 h₁₈ F18
      exact ⟨rfl, _, F18.sub (sub_cons rfl (sub_cons rfl (sub_cons rfl (sub_cons rfl (sub_cons rfl (sub_cons rfl (sub_cons rfl sub_nil)))))))⟩
    · rintro fl h₈ ⟨rfl, tz, F8⟩
      dsimp only
      clear F7
      have htl0 : tl.take 2 = hex2 n := by rw [htl]; simp [hex2]
      have htl1 : tl.drop 2 = (if cr then [13] else []) := by rw [htl]; simp [hex2]
      have htlL : ¬ tl.length ≤ 1 := by rw [htl]; simp [hex2]
      have hst : Txt.strip (S (tl.drop 2)) = S [] := by rw [htl1]; cases cr; exact strip_nil; exact strip_cr
      repeat walk_at "d1"
      refine d_truthyStr (by simp) ?_
      repeat walk_at "d1"
      refine d_lenStr (by omega) (fun t20 => ?_)
      repeat walk_at "d1"
      refine ite_yes (decide_eq_true (by omega)) ?_
      repeat walk_at "d1"
      refine d_mkSlice F8 (fun h₉ a F9 hsl k9 => ?_)
      refine d_cutS (lo := none) (hi := some (2, _)) (y := hex2 n) hsl (by dsimp only [Option.map_none, Option.map_some, Option.getD_none, Option.getD_some]; rw [List.drop_zero]; exact htl0) (by omega) (fun t21 => ?_)
      clear hsl k9 F8
      refine d_gm (fun M A E s Q q => GM.strip q) ?_
      repeat walk_at "d1"
      refine d_stripChars (z := []) (strip_hex n ok.nn) (by simp [hex2]) (fun t22 => ?_)
      repeat walk_at "d1"
      refine d_truthyStr (by simp) ?_
      repeat walk_at "d1"
      refine d_mkSlice F9 (fun h₁₀ a F10 hsl k10 => ?_)
      refine d_cutS (lo := some (2, _)) (hi := none) (y := tl.drop 2) hsl (by dsimp only [Option.map_none, Option.map_some, Option.getD_none, Option.getD_some]; rw [List.take_length]) (by omega) (fun t23 => ?_)
      clear hsl k10 F9
      refine d_gm (fun M A E s Q q => GM.strip q) ?_
      repeat walk_at "d1"
      refine d_strip (y := []) hst (by simp; omega) (fun t24 => ?_)
      repeat walk_at "d1"
      refine d_truthyStr (by simp) ?_
      repeat walk_at "d1"
      rename_i t30 t31
      refine d_asgSw (names := [Str.ofString "sentence_type", Str.ofString "data_str", Str.ofString "checksum"]) ?_ (by rfl) (by subst hEq; rfl)
      repeat walk_at "d1"
      refine d_mkSlice F10 (fun h₁₁ a F11 hsl k11 => ?_)
      refine d_cutS (lo := none) (hi := some (6, _)) (y := ta ++ sg "XDR,") hsl (by rw [hB0, hc]; rfl) (by omega) (fun t32 => ?_)
      clear hsl k11 F10
      refine d_gm (fun M A E s Q q => GM.upper q) ?_
      repeat walk_at "d1"
      refine d_upper (upper6 ta ok.tk) (by simp [hl1, hl2]) (fun t33 => ?_)
      repeat walk_at "d1"
      refine d_mkSlice F11 (fun h₁₂ a F12 hsl k12 => ?_)
      refine d_cutS (lo := some (6, _)) (hi := none) (y := body) hsl (by dsimp only [Option.map_none, Option.map_some, Option.getD_none, Option.getD_some]; rw [List.take_length, hB0]; rfl) (by omega) (fun t34 => ?_)
      clear hsl k12 F11
      repeat walk_at "d1"
      refine d_mkSlice F12 (fun h₁₃ a F13 hsl k13 => ?_)
      refine d_cutS (lo := none) (hi := some (2, _)) (y := hex2 n) hsl (by dsimp only [Option.map_none, Option.map_some, Option.getD_none, Option.getD_some]; rw [List.drop_zero]; exact htl0) (by omega) (fun t35 => ?_)
      clear hsl k13 F12
      repeat walk_at "d1"
      refine d_newTuple F13 (by simp) (fun H14 h14 b2 k15 F14 k16 n14 ht => ?_)
      refine d_unpack hA (ht.keeps F14.keep) rfl (fun h₁₅ k17 => ?_)
      have F15 := (F14.back k17).down k15 F13.out
      clear F13 F14 ht
      refine d_ino (d_bindName (d_store hE F15 (fun h₁₆ F16 => ?_)))
      refine d_ino (d_bindName (d_store hE F16 (fun h₁₇ F17 => ?_)))
      refine d_ino (d_bindName (d_store hE F17 (fun h₁₈ F18 => d_ino0 ?_)))
      clear F15 F16 F17
      repeat walk_at "d1"
      refine d_gm (fun M A E s Q q => GM.split q) ?_
      repeat walk_at "d1"
      refine d_split (k := 44) (by omega) (fun h₁₉ dl items k19 n19 hdl hds => ?_)
      have F19 := F18.back k19
      have dlL : dl ≠ L := ne_of_new n19 F18.at
      have dl0 : h.get? dl = none := none_back F18 n19
      clear F18
      have FA := F19.all
      have kA := F19.into
      have TA := T.keeps kA
      have hdA : (h₁₉.hide L).IsList dl items := let ⟨o, e, r⟩ := hdl; ⟨o, hide_of e dlL, r⟩
      have hkA : (h₁₉.hide L).DictOf (strKind prog w) kd kvs := hk.keep kA
      have oA := F19.out
      clear F19 hdl k19 n19
      repeat walk_at "d1"
      refine d_truthyStr (by simp [hex2]) ?_
      repeat walk_at "d1"
      refine d_intHex ok.nn (fun t40 => ?_)
      repeat walk_at "d1"
      rename_i h₂₁ F21
      refine d_methStatic (K := hd.heap_39 w.params) (TA.K.keeps F21.keep) (by k_is) (by k_is) (p0 := 115) (f := .ref 113) (rest := [.bool false]) (by k_is) (by k_is) rfl ?_
      dsimp only
      refine d_withK (K := hd.heap_39 w.params) (by k_is) ?_
      repeat walk_at "d1"
      refine ⟨TA.K.keeps F21.keep, d_call (checksum_spec (A := A.deeper env) (TA.keeps F21.keep) (by show A.depth + 1 < recursionLimit; omega) hA _ _ (fun h₂₂ t41 k22 => ?_))⟩
      have F22 := F21.back k22
      clear F21
      refine d_store hE F22 (fun h₂₃ F23 => ?_)
      clear F22
      repeat walk_at "d1"
      by_cases hne : n = xs B
      · refine ite_no (by simp [hne]) ?_
        repeat walk_at "d1"
        refine d_mkSlice F23 (fun h₂₄ a F24 hsl k24 => ?_)
        refine d_cutS (lo := some (5, _)) (hi := none) (y := [44]) hsl (by dsimp only [Option.map_none, Option.map_some, Option.getD_none, Option.getD_some]; rw [List.take_length, hc]; rfl) (by simp [hl1, hl2]) (fun t44 => ?_)
        clear hsl k24 F23
        repeat walk_at "d1"
        rename_i t45 t46
        refine d_asgSw (names := [Str.ofString "talker", Str.ofString "sentence"]) ?_ (by rfl) (by subst hEq; rfl)
        repeat walk_at "d1"
        refine d_mkSlice F24 (fun h₂₅ a F25 hsl k25 => ?_)
        refine d_cutS (lo := none) (hi := some (2, _)) (y := ta) hsl (by rw [hc]; rfl) (by simp [hl1, hl2]) (fun t47 => ?_)
        clear hsl k25 F24
        repeat walk_at "d1"
        refine d_mkSlice F25 (fun h₂₆ a F26 hsl k26 => ?_)
        refine d_cutS (lo := some (2, _)) (hi := some (5, _)) (y := sg "XDR") hsl (by rw [hc]; rfl) (by simp [hl1, hl2]) (fun t48 => ?_)
        clear hsl k26 F25
        repeat walk_at "d1"
        refine d_newTuple F26 (by simp) (fun H27 h27 b3 k27 F27 k28 n27 ht => ?_)
        refine d_unpack hA (ht.keeps F27.keep) rfl (fun h₂₈ k29 => ?_)
        have F28 := (F27.back k29).down k27 F26.out
        clear F26 F27 ht
        refine d_ino (d_bindName (d_store hE F28 (fun h₂₉ F29 => ?_)))
        refine d_ino (d_bindName (d_store hE F29 (fun h₃₀ F30 => d_ino0 ?_)))
        clear F28 F29
        repeat walk_at "d1"
        refine d_gmDict PySem.F.slot_dict_get PySem.F.type_dict_get (hkA.keep F30.keep) ?_
        repeat walk_at "d1"
        refine d_dictGet hks (hkA.keep F30.keep) ?_
        rw [show S (sg "XDR") = Str.ofString "XDR" from rfl, hkv]
        dsimp only [Option.getD_some]
        repeat walk_at "d1"
        rename_i h₃₁ F31
        refine d_truthyCls (K := hd.heap_39 w.params) (TA.K.keeps F31.keep) (by k_is) ?_
        repeat walk_at "d1"
        refine d_withK (K := hd.heap_39 w.params) (by k_is) ?_
        repeat walk_at "d1"
        refine ⟨TA.K.keeps F31.keep, ?_⟩
        refine d_make (K := hd.heap_39 w.params) (fI := 180) (TA.K.keeps F31.keep) (by k_is) (by k_is) (by k_is) (fun h₃₂ x dx k32 nx ndx nxd I => ?_)
        refine xinit_spec (TA.keeps F31.keep) k32 (by rw [under_tc]; show A.depth + 1 + 1 < recursionLimit; omega) I ndx nx (isl_keeps hdA (stays_trans F31.keep k32)) ?_ (fun h₃₃ l' ta' tb' tc' kk I' nl' hl' => ?_)
        · have e1 := hds.1
          have e2 := spl_len 44 body
          rw [Array.length_toList] at e1; omega
        · refine ⟨rfl, ?_⟩
          have k1 : h.StaysIn h₃₁ := stays_trans kA F31.keep
          have k0 : h.StaysIn h₃₂ := stays_trans k1 k32
          have d0 : h.get? dx = none := none_of_stays k1 ndx
          exact k (by rw [hne, hBe]) h₃₃ x dx l' _ _ items (fun b o e => kk b o (fun z => by rw [z, d0] at e; cases e) (k0 b o e)) (none_of_stays k1 nx) d0 (none_of_stays k0 nl') nxd ⟨⟨_, _, _, I'⟩, hl'⟩ hds
      · have hxx := ok.xx
        rw [← hBe] at hxx
        refine ite_yes (by simp; omega) ?_
        refine d_cons (d_raise hA ?_)
        repeat walk_at "d1"
        refine d_withK (K := hd.heap_39 w.params) (by k_is) ?_
        repeat walk_at "d1"
        refine d_newTuple F23 (by simp) (fun H24 h24 b1 k24 F24 k25 n25 ht => ?_)
        refine d_pctT (ht.keeps F24.keep) (hex_meets4 n (xs B) ok.nn hxx _ _ _ _) (fun t50 => ?_)
        have F25 := F24.down k24 F23.out
        clear F23 ht
        repeat walk_at "d1"
        refine ⟨TA.K.keeps F25.keep, ?_⟩
        refine d_excCall (TA.keeps F25.keep) (by show A.depth + 1 + 2 < recursionLimit; omega) (fun h₂₆ x b26 k26 n26 hx nb => ?_)
        have F26 := F25.back k26
        refine ⟨x, b26, rfl, hx, TA.K.keeps F26.keep, ?_⟩
        have kh : h.StaysIn h₂₆ := stays_trans kA F26.keep
        have nx : h.get? x = none := none_of_stays kA (none_of_stays F25.keep n26)
        have hid : (hideAll h as).StaysIn h := fun b o e => of_hideAll as e
        have none_hid : ∀ a, h.get? a = none → (hideAll h as).get? a = none := fun a z => by
          cases e : (hideAll h as).get? a with
          | none => rfl
          | some o => rw [hid _ _ e] at z; cases z
        have nL : h.get? L = none := by rw [← hL]; exact not_get_size h
        subst hEq
        obtain ⟨mL, ⟨oL, es, ep, hLg, hLd, _⟩, _⟩ := F26.ns
        refine d_leaveFirst (base := hideAll h as) (outer := outer) (L := L) (by show A.frames.map _ = _; rw [hfr]; rfl) ⟨fun z => (by cases z), ⟨L, oL, rfl, none_hid _ nL, hLg, fun vs z => by rw [hLd] at z; cases z⟩, hFF.of_keeps fun b o e _ => ⟨o, kh _ _ e, rfl⟩⟩ rfl hx (stays_trans hid kh) (none_hid _ nx) rfl rfl rfl (fun h' z => ?_)
        obtain ⟨z1, ⟨_, _, z2⟩, z3, z4⟩ := z
        exact kb (by rw [← hBe]; exact hne) h' x _ nx ⟨z1, none_hid _ nx, z2, z3⟩ ((Heap.UpToSlots.of_keeps kh).trans z4)
end
end
section
/-! generators: segments told by the D judgement -/
section
variable {prog : Program} {w : World} {A : Around} {R : GenEnd} {Y : Protocol} {n : Nat} {s₀ : Shared} {c : Code} {fs : List PySem.Frame} {g : Cfg} {h : Heap} {tk : Nat} {env : Env}
theorem seg_D {α : Type} {m : Sem α} {K : α → Sem Fin} {H : Value → Sem Fin} {gd : Bool → Bool} {lv : List Value → List Value}
    (k : D (model prog w) (A.over c fs) g m h (fun a h' => ∀ tk, 0 < tk → Seg (model prog w) A R Y n s₀ c (K a) fs (g.st h' tk)) (fun _ _ => False)) (p : 0 < tk) : Seg (model prog w) A R Y n s₀ c (m.wrap K H gd lv) fs (g.st h tk) :=
  seg_wrap (wpAny_mono (k.run tk p) (fun a s ⟨h', tk', p', e, q⟩ => by subst e; exact q tk' p') fun _ _ ⟨_, _, _, _, z⟩ => z.elim)
theorem seg_Db {α β : Type} {m : Sem α} {K : α → Sem β} {K' : β → Sem Fin} {H' : Value → Sem Fin} {gd : Bool → Bool} {lv : List Value → List Value}
    (k : D (model prog w) (A.over c fs) g m h (fun a h' => ∀ tk, 0 < tk → Seg (model prog w) A R Y n s₀ c ((K a).wrap K' H' gd lv) fs (g.st h' tk)) (fun _ _ => False)) (p : 0 < tk) : Seg (model prog w) A R Y n s₀ c ((m >>= K).wrap K' H' gd lv) fs (g.st h tk) :=
  seg_bind_wrap (wpAny_mono (k.run tk p) (fun a s ⟨h', tk', p', e, q⟩ => by subst e; exact q tk' p') fun _ _ ⟨_, _, _, _, z⟩ => z.elim)
/-- what a for in a generator goes back to -/
abbrev forBack (env : Env) (K : Flow → Sem Fin) (H : Value → Sem Fin) (gd : Bool → Bool) (lv : List Value → List Value) (r : Result) : Sem Fin :=
  ((match r with | .ok f => (.pure f : Sem Flow) | .error e => .raise e).onRaise fun (x : Value) => do
        if (← field x 1) == Value.none then unsupported "frame.own-activation:exception-without-traceback"
        setFlight x env.frame).wrap K H gd lv
theorem seg_For {target iter : Expr} {body orelse : List Stmt} {pos : Pos} {K : Flow → Sem Fin} {H : Value → Sem Fin} {gd : Bool → Bool} {lv : List Value → List Value}
    (k : D (model prog w) (A.over c fs) g (eval iter env) h (fun x h₁ => D (model prog w) (A.over c fs) g (pyIter x) h₁ (fun it h₂ => ∀ p tk, 0 < tk →
      Seg (model prog w) A R Y n s₀ (.forLoop target it body orelse env) ((model prog w).den (.forLoop target it body orelse env)) (.ret (forBack env K H gd lv) none (gd false) (lv []) c p [] :: fs) (g.st h₂ tk)) (fun _ _ => False)) (fun _ _ => False))
    (p : 0 < tk) (hs : ∀ x, foldedSetIterable iter env x = pure x := by intro _; rfl) : Seg (model prog w) A R Y n s₀ c ((exec (.For target iter body orelse pos) env).wrap K H gd lv) fs (g.st h tk) := by
  rw [exec_For]
  refine seg_bind_wrap (wpAny_standAt ?_)
  refine seg_Db (d_conseq k fun x h₁ k1 tk₁ p₁ => ?_) p
  refine seg_bind_wrap (wpAny_of_eq (hs x) ?_)
  refine seg_bind_wrap (wpAny_standAt ?_)
  refine seg_Db (d_holding (d_conseq k1 fun it h₂ k2 tk₂ p₂ => ?_)) p₁
  exact seg_call fun p' => k2 p' tk₂ p₂
abbrev forK (target : Expr) (it : Value) (body orelse : List Stmt) (env : Env) (f : Flow) : Sem Fin := match f with
  | .next | .cont => .pure (.again (.forLoop target it body orelse env))
  | .brk => .pure (.done .next)
  | .ret v => .pure (.done (.ret v))
abbrev noteH (env : Env) (e : Value) : Sem Fin := (do noteFrame e env; theTreesLotGoes e : Sem Unit).wrap (fun _ => .raise e) .raise id id
theorem seg_forLoop {target : Expr} {it : Value} {body orelse : List Stmt}
    (k : D (model prog w) (A.over (.forLoop target it body orelse env) fs) g (pyNext it) h (fun r h₁ => match r with
      | none => ∀ tk, 0 < tk → Seg (model prog w) A R Y n s₀ (.block orelse env) ((model prog w).den (.block orelse env)) fs (g.st h₁ tk)
      | some v => D (model prog w) (A.over (.forLoop target it body orelse env) fs) g (letOwnedTupleGo target it v) h₁ (fun _ h₂ => D (model prog w) (A.over (.forLoop target it body orelse env) fs) g (assign target env v) h₂
          (fun _ h₃ => ∀ tk, 0 < tk → Seg (model prog w) A R Y n s₀ (.forLoop target it body orelse env) ((execs body env).wrap (forK target it body orelse env) (noteH env) id id) fs (g.st h₃ tk)) (fun _ _ => False)) (fun _ _ => False)) (fun _ _ => False)) (p : 0 < tk) :
    Seg (model prog w) A R Y n s₀ (.forLoop target it body orelse env) ((model prog w).den (.forLoop target it body orelse env)) fs (g.st h tk) := by
  show Seg _ A R Y n s₀ _ ((forTurn target it body orelse env).onRaise (fun x => do noteFrame x env; theTreesLotGoes x)) fs _
  rw [Sem.onRaise_eq_wrap]
  unfold forTurn
  refine seg_bind_wrap (wpAny_standAt ?_)
  refine seg_Db (d_onRaise (d_mono k (fun r h₁ k1 tk₁ p₁ => ?_) fun _ _ z => z.elim)) p
  cases r with
  | none => exact seg_again rfl (k1 tk₁ p₁)
  | some v =>
    refine seg_Db (d_conseq k1 fun _ h₂ k2 tk₂ p₂ => ?_) p₁
    refine seg_Db (d_conseq k2 fun _ h₃ k3 tk₃ p₃ => ?_) p₂
    have := k3 tk₃ p₃
    rw [Sem.bind_eq_wrap', Sem.wrap_wrap]
    rw [Sem.wrap_congr (execs body env) _ _ (K' := forK target it body orelse env) (H' := noteH env) (fun f => by cases f <;> rfl)
        (fun e => by first | exact Sem.bind_eq_wrap _ _ | (show (do noteFrame e env; theTreesLotGoes e : Sem Unit).bind (fun _ => .raise e) = _; rw [Sem.bind_eq_wrap]))]
    exact this
theorem seg_Yield {e : Expr} {ypos pos : Pos} {K : Flow → Sem Fin} {H : Value → Sem Fin} {gd : Bool → Bool} {lv : List Value → List Value} (hfs : splitAtGen fs = none) (hgd : gd false = false) (hfg : fs.any Frame.guarded = false)
    (k : D (model prog w) (A.over c fs) g (eval e env) h (fun v h' => ∀ tk, 0 < tk → ∀ kap : Resume → Shared → Prop,
        (∀ s'', Seg (model prog w) A R Y n s'' c (K .next) fs s'' → kap (.send .none) s'') → Y n s₀ v (g.st h' tk) kap) (fun _ _ => False)) (p : 0 < tk)
    (hco : env.scope.isCoroutine = false) (hi : interactive env = false) :
    Seg (model prog w) A R Y (n + 1) s₀ c ((exec (.Expr (.Yield (some e) ypos) pos) env).wrap K H gd lv) fs (g.st h tk) :=
  seg_Expr_Yield hfs hgd hfg (wpAny_mono (k.run tk p) (fun v s ⟨h', tk', p', ee, q⟩ => by
    subst ee; exact fun kap hk => q tk' p' kap fun s'' z => hk .none s'' z) fun _ _ ⟨_, _, _, _, z⟩ => z.elim) hco hi
theorem seg_block {body : List Stmt} (k : Seg (model prog w) A R Y n s₀ (.block body env) ((execs body env).wrap (fun f => .pure (.done f)) (noteH env) id id) fs (g.st h tk)) :
    Seg (model prog w) A R Y n s₀ (.block body env) ((model prog w).den (.block body env)) fs (g.st h tk) := by
  show Seg _ A R Y n s₀ _ (((execs body env).onRaise (fun x => do noteFrame x env; theTreesLotGoes x)) >>= fun f => pure (Fin.done f)) fs _
  rw [Sem.onRaise_eq_wrap, Sem.bind_eq_wrap', Sem.wrap_wrap]
  rw [Sem.wrap_congr (execs body env) _ _ (K' := fun f => .pure (.done f)) (H' := noteH env) (fun f => by rfl)
    (fun e => by first | (rw [Sem.bind_eq_wrap, Sem.wrap_wrap]; rfl) | (show ((do noteFrame e env; theTreesLotGoes e : Sem Unit).bind (fun _ => .raise e)).wrap _ _ _ _ = _; rw [Sem.bind_eq_wrap, Sem.wrap_wrap]; rfl))]
  exact k
end
end
section
abbrev kerr : Str := Str.ofString "errors"
abbrev kstr : Str := Str.ofString "stream"
abbrev kbuf : Str := Str.ofString "buffer"
/-- a reader's own dict -/
def res (P : Params) (ta tb tc : Nat) (te bu : Value) : List DictEntry := [⟨PyData.keyHash P kerr, .str kerr ta, te⟩, ⟨PyData.keyHash P kstr, .str kstr tb, .none⟩, ⟨PyData.keyHash P kbuf, .str kbuf tc, bu⟩]
section
variable {prog : Program} {w : World} {A : Around} {c : Cfg} {H0 H h : Heap} {p : Program} {loose : List Str} {mg mb : Str → Option Value} {E : Value → Heap → Prop}
theorem d_notinTup {x : List Nat} {u : Tok} {t : Addr} {items : Array Value} {ls : List (List Nat)} {Q : Value → Heap → Prop} (ht : IsTup h t items) (hs : Strs items.toList ls) (q : Q (.bool (!(ls.any (· == x)))) h) : D (model prog w) A c (compareOp .NotIn (.str (S x) u) (.ref t)) h Q E :=
  ⟨fun tk p => notin_tuple_strs (s := c.st h tk) ht (strsAre_of hs) (.mk p (by
    have e : (ls.map S).any (· == S x) = ls.any (· == x) := by
      rw [List.any_map]; congr 1; funext z; exact S_beq z x
    rw [e]; exact q))⟩
theorem errs_tup {P : Params} (X : (hd.heap_39 P).In h) : ∃ items : Array Value, IsTup h 397 items ∧ Strs items.toList [sg "raise", sg "yield", sg "ignore"] := by
  obtain ⟨o, items, n, ho, hc, hd, hs⟩ : ∃ (o : Obj) (items : Array Value) (n : Nat), (hd.heap_39 P).lookup 397 = some o ∧ o.cls = .type "tuple" ∧ o.data = .seq items n ∧ Strs items.toList [sg "raise", sg "yield", sg "ignore"] :=
    ⟨_, _, _, by k_is, rfl, rfl, .cons (.cons (.cons .nil))⟩
  exact ⟨items, ⟨o, X _ _ ho, hc, n, hd⟩, hs⟩
theorem rinit_spec (T : Top0 w.params p loose mg mb H0) (k0 : H0.StaysIn h) (hroom : A.depth < recursionLimit) {x dx : Addr} {t : Tok} {R : Result → Heap → Prop} (I : Inst h x 423 dx [] 0) (nd : H0.get? dx = none) (nx : H0.get? x = none)
    (k : ∀ h' ta tb tc t', (∀ b o, b ≠ dx → h.get? b = some o → h'.get? b = some o) → Inst h' x 423 dx (res w.params ta tb tc (.str (S (sg "ignore")) t) (.str (S []) t')) 3 → R (.ok (.ret .none)) h') : DC (model prog w) A c (.call (.ref 412) ⟨[.ref x, .none, .str (S (sg "ignore")) t], []⟩) h R := by
  refine dc_enter (K := hd.heap_39 w.params) (binds := [(Str.ofString "self", .ref x), (Str.ofString "stream", .none), (Str.ofString "errors", .str (S (sg "ignore")) t)]) (T.K.keeps k0) (T.T.nolimit.keeps k0) (by k_is) (by k_is) hroom (fun _ => binds_K (K := hd.heap_39 w.params) (T.K.keeps k0) rfl (by k_is) rfl rfl rfl) (locs rfl) (fun L h₁ env hE F hL => ?_)
  have F1 := F.lose dx
  have F2 := F
  have T1 := T.keeps (stays_lose k0 nd)
  clear F
  have nL : L ≠ dx := fun z => by
    have := I.d; rw [← z, ← hL] at this
    exact absurd (Heap.lt_size this) (Nat.lt_irrefl _)
  have ndd : (h.hide dx).get? dx = none := Heap.hide_self _ _
  have Ix : (h.hide dx).get? x = some (instObj 423 dx) := hide_of I.x fun z => by have := I.x; rw [z, I.d] at this; cases this
  have I1 : Inst h₁ x 423 dx [] 0 := ⟨F1.keep _ _ Ix, F2.keep _ _ I.d⟩
  clear F2
  repeat walk_at "d1"
  obtain ⟨items, hti, hst⟩ := errs_tup (T1.K.keeps F1.keep)
  refine d_notinTup hti hst ?_
  refine d_truthy_bool ?_
  refine ite_no (by decide) ?_
  repeat walk_at "d1"
  refine d_setOwn (K := hd.heap_39 w.params) (es' := fun ta => [⟨PyData.keyHash w.params kerr, .str kerr ta, .str (S (sg "ignore")) t⟩]) (n' := 1) (T1.K.keeps F1.keep) I1 (by k_is) (by k_is) (by k_is) (by k_is) rfl (fun _ => rfl) (fun _ => by simp) (fun h₂ ta I2 sb => ?_)
  have F2 := F1.mut sb ndd nL
  clear I1 F1
  repeat walk_at "d1"
  refine d_setOwn (K := hd.heap_39 w.params) (es' := fun tb => [⟨PyData.keyHash w.params kerr, .str kerr ta, .str (S (sg "ignore")) t⟩, ⟨PyData.keyHash w.params kstr, .str kstr tb, .none⟩]) (n' := 2) (T1.K.keeps F2.keep) I2 (by k_is) (by k_is) (by k_is) (by k_is) rfl (fun _ => rfl) (fun _ => by simp) (fun h₃ tb I3 sb => ?_)
  have F3 := F2.mut sb ndd nL
  clear I2 F2
  repeat walk_at "d1"
  rename_i t' _
  refine d_setOwn (K := hd.heap_39 w.params) (es' := fun tc => res w.params ta tb tc (.str (S (sg "ignore")) t) (.str (S []) t')) (n' := 3) (T1.K.keeps F3.keep) I3 (by k_is) (by k_is) (by k_is) (by k_is) rfl (fun _ => rfl) (fun _ => by simp [res]) (fun h₅ tc I5 sb => ?_)
  have F5 := F3.mut sb ndd nL
  repeat walk_at "d1"
  exact k _ ta tb tc _ (fun b o hb e => F5.keep _ _ (hide_of e hb)) I5
end
end
section
/-! lists of no dict -/
theorem fillI_list : fillsInplaceSlot (.type "list") (Operator.info .Add).2 (Operator.Add == .Add) = pure false := by
  unfold fillsInplaceSlot
  show (typeLookup (.type "list") (dunderI "add") >>= fun fi => _) = pure false
  rw [PySem.F.slot_list_iadd.lookup]
  first | rfl | kernel_rfl
theorem seqI_list : seqSlot? (.type "list") (dunderI (Operator.info .Add).2) = pure (some (.builtin "list.__iadd__")) := by
  unfold seqSlot?
  show (typeLookup (.type "list") (dunderI "add") >>= fun fi => _) = _
  rw [PySem.F.slot_list_iadd.lookup]
  first | rfl | kernel_rfl
section
variable {prog : Program} {w : World} {A : Around} {c : Cfg} {h : Heap} {E : Value → Heap → Prop} {Q : Value → Heap → Prop} {D D2 : Addr} {items items2 : Array Value} {n n2 : Nat}
theorem d_gmList {name : Str} {id : String} {pl : Sem Bool} {Q : Value × List Value → Heap → Prop} (slot : Slot "list" name id) (hty : typeOf (.builtin id) = pure (.type "method_descriptor")) (hd : h.get? D = some (LObj items n)) (q : Q (.builtin id, [.ref D]) h) :
    Mine.D (model prog w) A c (getMethod (.ref D) name pl) h Q E := ⟨fun tk p => getMethod_builtin (s := c.st h tk) ⟨_, hd, rfl⟩ PySem.F.plainAttrs_list slot hty (fun a e => by cases e; exact ⟨_, hd, rfl⟩) (.mk p q)⟩
theorem d_pop {l : List Value} {y : Value} (hd : h.get? D = some (LObj (l ++ [y]).toArray n)) (hz : l.length ≤ 1000000) (q : ∀ h' m, h'.get? D = some (LObj l.toArray m) → Heap.SameBut D h h' → Q y h') :
    Mine.D (model prog w) A c (call (.builtin "list.pop") [.ref D]) h Q E := d_of0 fun tk p => by
  have hk : (l ++ [y]).toArray.size - 1 = l.length := by rw [List.size_toArray, List.length_append]; rfl
  have hy : (l ++ [y]).toArray[(l ++ [y]).toArray.size - 1]? = some y := by rw [hk]; simp
  refine call_meets (s := c.st h tk) PySem.F.slot_list_pop ⟨_, hd, rfl⟩ PySem.F.entry_list_pop (PySem.F.args_list_pop_1 _) (PySem.MeetsSeq.list_pop_last D _ n y hy (by rw [sizeLine_eq]; simp; omega)) ⟨hd, ?_⟩
  have e := Heap.get?_update_self (Obj.mapSeq fun xs => xs.eraseIdxIfInBounds ((l ++ [y]).toArray.size - 1)) hd rfl
  have e2 : (l ++ [y]).toArray.eraseIdxIfInBounds ((l ++ [y]).toArray.size - 1) = l.toArray := by rw [hk, kl_erase, List.append_nil]
  obtain ⟨m, e3⟩ : ∃ m, Obj.mapSeq (fun xs => xs.eraseIdxIfInBounds ((l ++ [y]).toArray.size - 1)) (LObj (l ++ [y]).toArray n) = LObj l.toArray m := ⟨_, by unfold Obj.mapSeq LObj; dsimp only; rw [e2]⟩
  rw [e3] at e
  exact ⟨_, tk, rfl, q _ m e (Heap.SameBut.update ..)⟩
theorem d_append {x : Value} (hd : h.get? D = some (LObj items n)) (hz : items.size ≤ 1000000) (q : ∀ h' m, h'.get? D = some (LObj (items.push x) m) → Heap.SameBut D h h' → Q .none h') :
    Mine.D (model prog w) A c (call (.builtin "list.append") [.ref D, x]) h Q E := ⟨fun tk p =>
  append_at (s := c.st h tk) hd (fun h' sb e => .mk (h := h') p (q h' _ e sb)) (by rw [sizeLine_eq]; omega)⟩
theorem d_addList (hd : h.get? D = some (LObj items n)) (hd2 : h.get? D2 = some (LObj items2 n2)) (hz : items.size + items2.size ≤ 1000000) (q : ∀ h' D' m, h.StaysIn h' → h.get? D' = none → h'.get? D' = some (LObj (items ++ items2) m) → Q (.ref D') h') :
    Mine.D (model prog w) A c (binaryOp .Add (.ref D) (.ref D2)) h Q E := d_of0 fun tk p =>
  concat_meets (s := c.st h tk) ⟨_, hd, rfl⟩ ⟨_, hd2, rfl⟩ noFill_list_add seq_list_add PySem.F.slot_list_add PySem.F.entry_list_add (PySem.F.args_list_add_2 _ _) (list_addW D D2 items items2 n n2 none none #[] #[] (by rw [sizeLine_eq]; omega))
    ⟨hd, hd2, _, tk, rfl, q _ _ _ (stays_push _) (not_get_size h) (Heap.get?_push_size _ rfl)⟩
theorem d_iaddList (hd : h.get? D = some (LObj items n)) (hd2 : h.get? D2 = some (LObj items2 n2)) (hz : items.size + items2.size ≤ 1000000) (q : ∀ h' m, h'.get? D = some (LObj (items ++ items2) m) → Heap.SameBut D h h' → Q (.ref D) h') :
    Mine.D (model prog w) A c (inplaceOp .Add (.ref D) (.ref D2)) h Q E := d_of0 fun tk p => by
  have hT : (c.st h tk).TypeIs (.ref D) "list" := ⟨_, hd, rfl⟩
  unfold inplaceOp
  refine wpAny_holding ?_
  refine wpAny_bind (wpAny_typeOf hT (wpAny_bind (wpAny_of_eq fillI_list ?_)))
  show wpAny _ A (if false = true then _ else _) _ _ _
  rw [if_neg Bool.false_ne_true]
  refine wpAny_bind (binaryOp1_none (nm := "add") hT ⟨_, hd2, rfl⟩ noFill_list_add ?_)
  refine wpAny_bind (wpAny_of_eq seqI_list ?_)
  refine wpAny_bind (wpAny_rule ?_)
  refine call_meets PySem.F.slot_list_iadd hT PySem.F.entry_list_iadd (PySem.F.args_list_iadd_2 _ _) (AutoSeq1.list___iadd___list_list_0 D items n D2 items2 n2 ?_ (by rw [sizeLine_eq]; omega) (by rw [sizeLine_eq]; omega)) ⟨hd, hd2, ?_⟩
  · have : Builtin.List.listTooLong (items.size + items2.size) = false := by
      unfold Builtin.List.listTooLong
      first | (rw [sizeLine_eq]; simp; omega) | (simp [sizeLine_eq]; omega) | (simp; omega)
    rw [this]; simp
  · have e := Heap.get?_update_self (Obj.mapSeq fun x => x ++ items2) hd rfl
    obtain ⟨m, e3⟩ : ∃ m, Obj.mapSeq (fun x => x ++ items2) (LObj items n) = LObj (items ++ items2) m := ⟨_, rfl⟩
    rw [e3] at e
    exact ⟨_, tk, rfl, q _ m e (Heap.SameBut.update ..)⟩
end
end
section
theorem x_matches {M : Model} {P : Params} {h : Heap} {x : Addr} (X : (hd.heap_39 P).In h) (LT : Looks M h (typeOf (.ref x)) (.ref 89)) : Looks M h (excMatches (.ref x) (.ref 64)) true := by
  intro A Q E s k₀ q
  obtain ⟨hh, g, d, tk, os⟩ := s
  have k : ∀ b o, h.get? b = some o → hh.get? b = some o := k₀
  have X' := X.keeps k
  have LT := LT.keeps k
  obtain ⟨oc, od, cd, sl, ho⟩ : ∃ oc od cd sl, (hd.heap_39 P).lookup 64 = some ⟨oc, od, .cls cd, sl⟩ := ⟨_, _, _, _, by k_is⟩
  have hC := X' _ _ ho
  have L0 : Looks M hh (typeOf (.ref 64)) (.type "type") := looks_typeIn X' (by k_is)
  have L1 : Looks M hh (isSubtype (.type "type") (.type "tuple")) false := Looks.of_pure tc_notTuple
  have L2 : Looks M hh (isType (.ref 64)) true := by
    unfold isType loadHead
    exact (Looks.ld hC).andThen .now
  have L3 := looks_subIn (M := M) X' (show subIn (hd.heap_39 P) (.ref 64) (.type "BaseException") = some true by k_is)
  have L4 := looks_subIn (M := M) X' (show subIn (hd.heap_39 P) (.ref 89) (.ref 64) = some true by k_is)
  unfold excMatches isExcClass isInstance
  repeat (first | simp only [List.forIn_cons, List.forIn_nil, Bool.not_true, Bool.false_eq_true, if_false, if_true] | lk)
  exact q
section
variable {prog : Program} {w : World} {A : Around} {c : Cfg} {h : Heap} {E : Value → Heap → Prop} {env : Env} {pos hpos : Pos}
/-- try: .. except ParseError as nm, of a ChecksumError -/
theorem d_tryAs {body suite : List Stmt} {b₀ : Stmt} {t : Expr} {nm : Str} {L : Addr} {outer : List Env} {Q : Flow → Heap → Prop} (hfr : A.frames = some (env :: outer)) (hf : env.frame = some L)
    (k : D (model prog w) A c (execs body env) h Q (fun e h₁ => ∃ x base a0, e = .ref x ∧ Heap.FlyingW base (env :: outer) x (.ref 89) a0 h₁ ∧
      ∀ h₂, Heap.FlyingW base (env :: outer) x (.ref 89) a0 h₂ → h₁.UpToSlots h₂ → (hd.heap_39 w.params).In h₂ ∧
        D (model prog w) (A.mark (some (.ref x))) c (eval t env) h₂ (fun v h₃ => h₃ = h₂ ∧ v = .ref 64) (fun _ _ => False) ∧
        D (model prog w) (A.mark (some (.ref x))) c (storeName env nm (.ref x)) h₂ (fun _ h₃ => D (model prog w) (A.mark (some (.ref x))) c (execs (b₀ :: suite) env) h₃
          (fun f h₄ => D (model prog w) A c (do bindName env nm .none; unbindBehindTheSuite env nm hpos) h₄ (fun _ h₅ => Q f h₅) E) (fun _ _ => False)) (fun _ _ => False))) :
    D (model prog w) A c (exec (.Try body [.ExceptHandler (some t) (some nm) (b₀ :: suite) hpos] [] [] pos) env) h Q E := ⟨fun tk p => by
  refine wpAny_Try_except (wpAny_mono (k.run tk p) (fun f s z => ?_) (fun e s z => ?_))
  · obtain ⟨h₁, tk₁, p₁, rfl, q⟩ := z
    cases f with
    | next => exact wpAny_execs_nil (.mk p₁ q)
    | _ => exact .mk p₁ q
  · obtain ⟨h₁, tk₁, p₁, rfl, x, base, a0, rfl, fl, kk⟩ := z
    refine wpAny_looks_onW (s := c.st h₁ tk₁) hfr hf fl (fun h₂ held up => ?_)
    refine wpAny_landsW (s := c.st h₂ tk₁) held (fun h₃ fl3 up3 => ?_)
    have up13 := up.trans up3
    obtain ⟨X, kt, _⟩ := kk h₃ fl3 up13
    obtain ⟨ob, hob, hcl⟩ := fl3.there
    have LT : Looks (model prog w) h₃ (typeOf (.ref x)) (.ref 89) := by rw [← hcl]; exact (Looks.ld hob).andThen .now
    refine wpAny_handleBy_cons (codeAny_handlers_test (wpAny_mono (kt.run tk₁ p₁) (fun v s z => ?_) fun _ _ z => ?_)) (by intro q; cases q)
    · obtain ⟨h₄, tk₄, p₄, rfl, rfl, rfl⟩ := z
      refine (x_matches X LT).at ?_
      refine codeAny_handlers_suite_as (lands_againW (s := c.st h₄ tk₄) fl3 (fun h₅ fl5 up5 => ?_))
      obtain ⟨_, _, ks⟩ := kk h₅ fl5 (up13.trans up5)
      refine wpAny_mono (ks.run tk₄ p₄) (fun _ s z => ?_) fun _ _ z => by obtain ⟨_, _, _, _, z⟩ := z; exact z.elim
      obtain ⟨h₆, tk₆, p₆, rfl, z⟩ := z
      refine wpAny_mono (z.run tk₆ p₆) (fun f s z => ?_) fun _ _ z => by obtain ⟨_, _, _, _, z⟩ := z; exact z.elim
      obtain ⟨h₇, tk₇, p₇, rfl, z⟩ := z
      exact wpAny_mono (z.run tk₇ p₇) (fun _ _ z => z) fun _ _ z => z
    · obtain ⟨_, _, _, _, z⟩ := z; exact z.elim⟩
theorem d_unbind {H : Heap} {L : Addr} {sc : Scope} {bs : List (Str × Value)} {nm : Str} {Q : Unit → Heap → Prop} (hE : EnvIs sc L env) (F : FrL H L h bs) (hk : sc.kind = .function) (hl : sc.names.lookup nm = some .local)
    (q : ∀ h', FrL H L h' (bs.filter fun y => !(y.1 == nm)) → Q () h') : D (model prog w) A c (do bindName env nm .none; unbindBehindTheSuite env nm hpos) h Q E := ⟨fun tk p => by
  obtain ⟨m, n, b⟩ := F.ns
  rw [← hE.loc] at n
  refine wpAny_nameGoes_keeps (s := c.st h tk) (hE.kind hl) n (by rw [hE.scope, hk]; rfl) (fun h' v hn hs => .mk (h := h') (Nat.succ_pos _) (q h' ⟨⟨_, hE.loc ▸ hn, fun y u e => ?_⟩, fun b o e => (hs.2 b (hE.loc ▸ fun z => by rw [z, F.out] at e; cases e)).trans (F.keep b o e), F.out⟩))
  have e2 : ∀ (bs : List (Str × Value)) y u, (bs.filter fun y => !(y.1 == nm)).lookup y = some u → y ≠ nm ∧ bs.lookup y = some u := by
    intro bs
    induction bs with
    | nil => intro y u e; cases e
    | cons z r ih =>
      intro y u e
      obtain ⟨a, c⟩ := z
      by_cases q : (a == nm) = true
      · rw [List.filter_cons_of_neg (by simp [q])] at e
        obtain ⟨i1, i2⟩ := ih y u e
        have : a = nm := by simpa using q
        refine ⟨i1, ?_⟩
        rw [List.lookup_cons]
        have : (y == a) = false := by subst this; simpa using i1
        rw [this]; exact i2
      · rw [List.filter_cons_of_pos (by simp [q])] at e
        rw [List.lookup_cons] at e ⊢
        by_cases q2 : (y == a) = true
        · rw [q2] at e ⊢
          have e' : y = a := by simpa using q2
          exact ⟨fun z => q (by rw [← e', z]; simp), e⟩
        · have q3 : (y == a) = false := by simpa using q2
          rw [q3] at e ⊢
          exact ih y u e
  obtain ⟨i1, i2⟩ := e2 bs y u e
  show (if y = nm then v else m y) = some u
  rw [if_neg i1]
  exact b y u i2⟩
theorem d_cont {Q : Flow → Heap → Prop} (q : Q .cont h) : D (model prog w) A c (exec (.Continue pos) env) h Q E := ⟨fun tk p => by
  first
    | exact wpAny_Continue (.mk p q)
    | exact wpAny_bind (wpAny_standAt (wpAny_pure (.mk p q)))⟩
theorem none_let {it v : Value} {x : Str} {px : Pos} {Q : Unit → Heap → Prop} (q : Q () h) : D (model prog w) A c (letOwnedTupleGo (.Name x px) it v) h Q E := d_of_eq (t' := pure ()) rfl (d_pure q)
end
end
section
/-! the reader's generator: what it keeps, what it tells -/
structure Ln where
  dol : Bool
  ta : List Nat
  body : List Nat
  n : Nat
def Ln.text (l : Ln) : List Nat := lineOf l.dol l.ta l.body l.n true
def Ln.good (l : Ln) : Bool := l.n == xs (l.ta ++ sg "XDR," ++ l.body)
def Ln.Ok (l : Ln) : Prop := LineOk l.ta l.body l.n
/-- all is kept but some places, and iterators that are new since H0 -/
def Kept (H0 : Heap) (wr : List Addr) (h h' : Heap) : Prop := ∀ b o, b ∉ wr → (H0.get? b = none → o.cls ≠ .type "list_iterator") → h.get? b = some o → h'.get? b = some o
theorem Kept.refl {H0 : Heap} {wr : List Addr} {h : Heap} : Kept H0 wr h h := fun _ _ _ _ e => e
theorem Kept.trans {H0 : Heap} {wr : List Addr} {a b c : Heap} (x : Kept H0 wr a b) (y : Kept H0 wr b c) : Kept H0 wr a c := fun p o h1 h2 e => y p o h1 h2 (x p o h1 h2 e)
abbrev Trip := Addr × Addr × Addr
abbrev Trip.on (a : Trip) : List Addr := [a.1, a.2.1, a.2.2]
/-- the sentence that l tells, and it lies apart -/
structure SenAt (P : Params) (H0 : Heap) (ws : List Addr) (l : Ln) (a : Trip) (h : Heap) : Prop where
  ne : a.1 ≠ a.2.1
  new : ∀ b ∈ a.on, b ∉ ws ∧ H0.get? b = none
  ex : ∃ t1 t2 items, Sen P h a.1 a.2.1 a.2.2 (.str (S l.ta) t1) (.str (S (sg "XDR")) t2) items ∧ Strs items.toList (spl 44 l.body)
theorem SenAt.of {P : Params} {H0 : Heap} {ws : List Addr} {l : Ln} {a : Trip} {h h' : Heap} (x : SenAt P H0 ws l a h) (k : ∀ b o, b ∉ ws → H0.get? b = none → o.cls ≠ .type "list_iterator" → h.get? b = some o → h'.get? b = some o) : SenAt P H0 ws l a h' := by
  obtain ⟨xa, dx, ls⟩ := a
  obtain ⟨t1, t2, items, ⟨⟨ta, tb, tc, I⟩, Il⟩, hs⟩ := x.ex
  have nn := x.new
  refine ⟨x.ne, x.new, t1, t2, items, ⟨⟨ta, tb, tc, ⟨k _ _ (nn xa (by simp)).1 (nn xa (by simp)).2 (by intro z; cases z) I.x, k _ _ (nn dx (by simp)).1 (nn dx (by simp)).2 (fun z => absurd (Value.type.inj z) (by decide)) I.d⟩⟩, ?_⟩, hs⟩
  obtain ⟨o, ho, hc, n, hd⟩ := Il
  exact ⟨o, k _ _ (nn ls (by simp)).1 (nn ls (by simp)).2 (by rw [hc]; exact fun z => absurd (Value.type.inj z) (by decide)) ho, hc, n, hd⟩
theorem SenAt.live {P : Params} {H0 : Heap} {ws : List Addr} {l : Ln} {a : Trip} {h : Heap} (x : SenAt P H0 ws l a h) : ∀ b ∈ a.on, ∃ o, h.get? b = some o ∧ o.cls ≠ .type "list_iterator" := by
  obtain ⟨xa, dx, ls⟩ := a
  obtain ⟨t1, t2, items, ⟨⟨ta, tb, tc, I⟩, o, ho, hc, _⟩, hs⟩ := x.ex
  intro b hb
  simp at hb
  rcases hb with rfl | rfl | rfl
  · exact ⟨_, I.x, by intro z; cases z⟩
  · exact ⟨_, I.d, fun z => absurd (Value.type.inj z) (by decide)⟩
  · exact ⟨_, ho, by rw [hc]; exact fun z => absurd (Value.type.inj z) (by decide)⟩
/-- nothing of it was there -/
def Sep (a : Trip) (h : Heap) : Prop := ∀ b ∈ a.on, ∀ o, h.get? b = some o → o.cls = .type "list_iterator"
theorem SenAt.kept {P : Params} {H0 : Heap} {ws wr : List Addr} {l : Ln} {a : Trip} {h h' : Heap} (x : SenAt P H0 ws l a h) (hw : ∀ a ∈ wr, a ∈ ws) (k : Kept H0 wr h h') : SenAt P H0 ws l a h' :=
  x.of fun b o hb _ hc e => k b o (fun z => hb (hw b z)) (fun _ => hc) e
theorem SenAt.but {P : Params} {H0 : Heap} {ws : List Addr} {S : Addr} {l : Ln} {a : Trip} {h h' : Heap} (x : SenAt P H0 ws l a h) (hw : S ∈ ws) (k : ∀ b o, b ≠ S → h.get? b = some o → h'.get? b = some o) : SenAt P H0 ws l a h' :=
  x.of fun b o hb _ _ e => k b o (fun z => hb (z ▸ hw)) e
theorem SenAt.apart {P : Params} {H0 : Heap} {ws : List Addr} {l : Ln} {a b : Trip} {h : Heap} (x : SenAt P H0 ws l a h) (s : Sep b h) : ∀ y ∈ a.on, y ∉ b.on := fun y hy z => by
  obtain ⟨o, e, n⟩ := x.live y hy
  exact n (s y z o e)
def NsHas (h : Heap) (L : Addr) (bs : List (Str × Value)) : Prop := ∃ m, h.Ns L m ∧ ∀ x v, bs.lookup x = some v → m x = some v
theorem NsHas.frl {h : Heap} {L : Addr} {bs : List (Str × Value)} (n : NsHas h L bs) : FrL (h.hide L) L h bs := ⟨n, fun b o e => Heap.of_hide e, Heap.hide_self _ _⟩
theorem NsHas.keep {h h' : Heap} {L : Addr} {bs : List (Str × Value)} (n : NsHas h L bs) (k : ∀ o, h.get? L = some o → h'.get? L = some o) : NsHas h' L bs :=
  let ⟨m, ⟨o, es, ep, e, r⟩, b⟩ := n; ⟨m, ⟨o, es, ep, k _ e, r⟩, b⟩
theorem NsHas.up {h h' : Heap} {L : Addr} {bs : List (Str × Value)} (n : NsHas h L bs) (k : h.UpToSlots h') : NsHas h' L bs := let ⟨m, a, b⟩ := n; ⟨m, k.ns a, b⟩
theorem NsHas.sub {h : Heap} {L : Addr} {bs bs' : List (Str × Value)} (n : NsHas h L bs) (k : ∀ x v, bs'.lookup x = some v → bs.lookup x = some v) : NsHas h L bs' := let ⟨m, a, b⟩ := n; ⟨m, a, fun x v e => b x v (k x v e)⟩
/-- the places of a run of the reader's generator -/
structure Gp where
  H0 : Heap
  Lg : Addr
  Ll : Addr
  S : Addr
  xr : Addr
  dxr : Addr
  kd : Addr
  bsL : List (Str × Value)
  lines : List Ln
  resF : Tok → List DictEntry
def Gp.wr (p : Gp) : List Addr := [p.Lg, p.Ll, p.dxr]
def Gp.ws (p : Gp) : List Addr := [p.Lg, p.Ll, p.dxr, p.S]
def Gp.goods (p : Gp) (j : Nat) : List Ln := (p.lines.drop j).filter Ln.good
def Gp.bsG (p : Gp) : List (Str × Value) := [(Str.ofString "self", .ref p.xr), (Str.ofString "kinds", .ref p.kd)]
/-- what stands between two turns -/
structure GInv (p : Gp) (I ll : Addr) (items : Array Value) (j : Nat) (h : Heap) : Prop where
  keep : (hideAll p.H0 [p.Ll, p.dxr]).StaysIn h
  ng : NsHas h p.Lg p.bsG
  nl : NsHas h p.Ll p.bsL
  rd : ∃ t, Inst h p.xr 423 p.dxr (p.resF t) 3
  it : h.IsListIter I ll j
  li : h.IsList ll items
  nI : p.H0.get? I = none
  S1 : I ≠ p.S
  S2 : ll ≠ p.S
  sx : ∃ o, h.get? p.S = some o
structure Gp.Fine (p : Gp) : Prop where
  g0 : p.H0.get? p.Lg = none
  s0 : p.H0.get? p.S = none
  gs : p.Lg ≠ p.S
  ls : p.Ll ≠ p.S
  ds : p.dxr ≠ p.S
  xs : p.xr ≠ p.S
  ld : p.Ll ≠ p.dxr
  dl : p.H0.get? p.dxr ≠ none
  l0 : p.H0.get? p.Ll ≠ none
theorem GInv.but {p : Gp} {I ll : Addr} {items : Array Value} {j : Nat} {h h' : Heap} (G : GInv p I ll items j h) (f : p.Fine) (sx : ∃ o, h'.get? p.S = some o) (k : ∀ b o, b ≠ p.S → h.get? b = some o → h'.get? b = some o) : GInv p I ll items j h' where
  keep := fun b o e => k b o (fun z => by have e' := of_hideAll _ e; rw [z, f.s0] at e'; cases e') (G.keep b o e)
  ng := G.ng.keep fun o e => k _ o f.gs e
  nl := G.nl.keep fun o e => k _ o f.ls e
  rd := let ⟨t, R⟩ := G.rd; ⟨t, k _ _ f.xs R.x, k _ _ f.ds R.d⟩
  it := let ⟨o, e, r⟩ := G.it; ⟨o, k _ _ G.S1 e, r⟩
  li := let ⟨o, e, r⟩ := G.li; ⟨o, k _ _ G.S2 e, r⟩
  nI := G.nI
  S1 := G.S1
  S2 := G.S2
  sx := sx
/-- the two frames may have changed -/
theorem GInv.frames {p : Gp} {I ll : Addr} {items : Array Value} {j : Nat} {h h' : Heap} (G : GInv p I ll items j h) (f : p.Fine) (k : Keeps1 [p.Lg, p.Ll] h h') (ng : NsHas h' p.Lg p.bsG) (nl : NsHas h' p.Ll p.bsL) : GInv p I ll items j h' := by
  have k' : ∀ b o, b ≠ p.Lg → b ≠ p.Ll → h.get? b = some o → h'.get? b = some o := fun b o h1 h2 e => k b o (by simp [h1, h2]) e
  have nog : ∀ b o, h.get? b = some o → (∀ es n, o.data ≠ .dict es n) → b ≠ p.Lg ∧ b ≠ p.Ll := fun b o e n => by
    obtain ⟨m, ⟨o1, es1, ep1, e1, d1, _⟩, _⟩ := G.ng
    obtain ⟨m2, ⟨o2, es2, ep2, e2, d2, _⟩, _⟩ := G.nl
    refine ⟨fun z => ?_, fun z => ?_⟩
    · rw [z, e1] at e; cases e; exact n _ _ d1
    · rw [z, e2] at e; cases e; exact n _ _ d2
  obtain ⟨tr, Rd⟩ := G.rd
  obtain ⟨oi, hoi, hci, hdi⟩ := G.it
  obtain ⟨ol, hol, hcl, nl', hdl⟩ := G.li
  obtain ⟨os, hos⟩ := G.sx
  have hx := nog _ _ Rd.x (fun es n z => by cases z)
  have hI := nog _ _ hoi (fun es n z => by rw [hdi] at z; cases z)
  have hl := nog _ _ hol (fun es n z => by rw [hdl] at z; cases z)
  refine ⟨fun b o e => k' b o (fun z => ?_) (fun z => ?_) (G.keep b o e), ng, nl, ⟨tr, k' _ _ hx.1 hx.2 Rd.x, k' _ _ (fun z => f.dl (by rw [z]; exact f.g0)) (Ne.symm f.ld) Rd.d⟩, ⟨oi, k' _ _ hI.1 hI.2 hoi, hci, hdi⟩, ⟨ol, k' _ _ hl.1 hl.2 hol, hcl, nl', hdl⟩, G.nI, G.S1, G.S2, ⟨os, k' _ _ (Ne.symm f.gs) (Ne.symm f.ls) hos⟩⟩
  · have := of_hideAll _ e
    rw [z, f.g0] at this; cases this
  · rw [z, hideAll_none _ (by simp)] at e; cases e
theorem GInv.step {p : Gp} {I ll : Addr} {items : Array Value} {j : Nat} {h h' : Heap} (G : GInv p I ll items j h) (k : Keeps1 [I] h h') (it : h'.IsListIter I ll (j + 1)) (li : h'.IsList ll items) : GInv p I ll items (j + 1) h' := by
  obtain ⟨oi, hoi, hci, hdi⟩ := G.it
  have ne : ∀ b o, h.get? b = some o → o ≠ oi → b ≠ I := fun b o e n z => by rw [z, hoi] at e; exact n (Option.some.inj e).symm
  have nd : ∀ (o : Obj) es n, o.data = .dict es n → o ≠ oi := fun o es n e z => by rw [z, hdi] at e; cases e
  have k' : ∀ b o, b ≠ I → h.get? b = some o → h'.get? b = some o := fun b o hb e => k b o (by simpa using hb) e
  obtain ⟨tr, Rd⟩ := G.rd
  refine ⟨fun b o e => k' b o (fun z => ?_) (G.keep b o e), ?_, ?_, ⟨tr, k' _ _ (ne _ _ Rd.x (by intro z; rw [← z] at hdi; cases hdi)) Rd.x, k' _ _ (ne _ _ Rd.d (nd _ _ _ rfl)) Rd.d⟩, it, li, G.nI, G.S1, G.S2, let ⟨o, e⟩ := G.sx; ⟨o, k' _ _ (Ne.symm G.S1) e⟩⟩
  · rw [z] at e
    have := of_hideAll _ e
    rw [G.nI] at this; cases this
  · obtain ⟨m, ⟨o, es, ep, e, hd, r⟩, b⟩ := G.ng
    exact ⟨m, ⟨o, es, ep, k' _ _ (ne _ _ e (nd _ _ _ hd)) e, hd, r⟩, b⟩
  · obtain ⟨m, ⟨o, es, ep, e, hd, r⟩, b⟩ := G.nl
    exact ⟨m, ⟨o, es, ep, k' _ _ (ne _ _ e (nd _ _ _ hd)) e, hd, r⟩, b⟩
/-- what stands at the end -/
structure GEnd (p : Gp) (h : Heap) : Prop where
  keep : (hideAll p.H0 [p.Ll, p.dxr]).StaysIn h
  nl : NsHas h p.Ll p.bsL
  rd : ∃ t, Inst h p.xr 423 p.dxr (p.resF t) 3
theorem GInv.fin {p : Gp} {I ll : Addr} {items : Array Value} {j : Nat} {h h' : Heap} (G : GInv p I ll items j h) (k : Keeps1 [I] h h') : GEnd p h' := by
  obtain ⟨oi, hoi, hci, hdi⟩ := G.it
  have ne : ∀ b o, h.get? b = some o → o ≠ oi → b ≠ I := fun b o e n z => by rw [z, hoi] at e; exact n (Option.some.inj e).symm
  have nd : ∀ (o : Obj) es n, o.data = .dict es n → o ≠ oi := fun o es n e z => by rw [z, hdi] at e; cases e
  have k' : ∀ b o, b ≠ I → h.get? b = some o → h'.get? b = some o := fun b o hb e => k b o (by simpa using hb) e
  obtain ⟨tr, Rd⟩ := G.rd
  refine ⟨fun b o e => k' b o (fun z => ?_) (G.keep b o e), ?_, ⟨tr, k' _ _ (ne _ _ Rd.x (by intro z; rw [← z] at hdi; cases hdi)) Rd.x, k' _ _ (ne _ _ Rd.d (nd _ _ _ rfl)) Rd.d⟩⟩
  · rw [z] at e
    have := of_hideAll _ e
    rw [G.nI] at this; cases this
  · obtain ⟨m, ⟨o, es, ep, e, hd, r⟩, b⟩ := G.nl
    exact ⟨m, ⟨o, es, ep, k' _ _ (ne _ _ e (nd _ _ _ hd)) e, hd, r⟩, b⟩
/-- one yield -/
def gY (P : Params) (p : Gp) : Protocol := fun m s₀ v s kap => ∃ (g : Cfg) (h₀ h : Heap) (tk₀ tk : Nat) (l : Ln), s₀ = g.st h₀ tk₀ ∧ s = g.st h tk ∧ 0 < tk ∧ (p.goods 0)[(p.goods 0).length - 1 - m]? = some l ∧ (∃ a : Trip, v = .ref a.1 ∧ SenAt P p.H0 p.ws l a h ∧ Sep a h₀) ∧
  Kept p.H0 p.wr h₀ h ∧ ∀ (g' : Cfg) (h' : Heap) (tk' : Nat), 0 < tk' → (∃ o, h'.get? p.S = some o) → (∀ b o, b ≠ p.S → h.get? b = some o → h'.get? b = some o) → kap (.send .none) (g'.st h' tk')
def gP (p : Gp) : Nat → Shared → Shared → Prop := fun n s₀ s => n = 0 ∧ ∃ (g : Cfg) (h₀ h : Heap) (tk₀ tk : Nat), s₀ = g.st h₀ tk₀ ∧ s = g.st h tk ∧ 0 < tk ∧ Kept p.H0 p.wr h₀ h ∧ GEnd p h
abbrev gR (p : Gp) : GenEnd := fun n s₀ r s₁ => r = .ok (.ret .none) ∧ gP p n s₀ s₁
theorem goods_bad {p : Gp} {j : Nat} {l : Ln} (e : p.lines[j]? = some l) (b : l.good = false) : p.goods j = p.goods (j + 1) := by
  unfold Gp.goods
  have hj : j < p.lines.length := (List.getElem?_eq_some_iff.mp e).1
  have e' : p.lines[j] = l := (List.getElem?_eq_some_iff.mp e).2
  rw [List.drop_eq_getElem_cons hj, e', List.filter_cons_of_neg (by simp [b])]
theorem goods_good {p : Gp} {j : Nat} {l : Ln} (e : p.lines[j]? = some l) (b : l.good = true) : p.goods j = l :: p.goods (j + 1) := by
  unfold Gp.goods
  have hj : j < p.lines.length := (List.getElem?_eq_some_iff.mp e).1
  have e' : p.lines[j] = l := (List.getElem?_eq_some_iff.mp e).2
  rw [List.drop_eq_getElem_cons hj, e', List.filter_cons_of_pos b]
theorem goods_at {p : Gp} {j : Nat} {l : Ln} (e : p.lines[j]? = some l) (b : l.good = true) : (p.goods 0)[(p.goods 0).length - 1 - (p.goods (j + 1)).length]? = some l := by
  have e1 : p.goods 0 = (p.lines.take j).filter Ln.good ++ p.goods j := by
    unfold Gp.goods; rw [List.drop_zero, ← List.filter_append, List.take_append_drop]
  rw [e1, goods_good e b, List.length_append, List.length_cons]
  have : (List.filter Ln.good (List.take j p.lines)).length + ((p.goods (j + 1)).length + 1) - 1 - (p.goods (j + 1)).length = (List.filter Ln.good (List.take j p.lines)).length := by omega
  rw [this, List.getElem?_append_right (Nat.le_refl _), Nat.sub_self]; rfl
theorem goods_end (p : Gp) : p.goods p.lines.length = [] := by unfold Gp.goods; rw [List.drop_length]; rfl
section
variable {prog : Program} {w : World} {A : Around} {p : Gp} {I ll : Addr} {items : Array Value} {fs : List PySem.Frame} {env : Env} {x : Str} {px ypos pos : Pos} {st : Stmt} {e : Expr}
theorem gen_loop (f : p.Fine) (hA : (A.over (.forLoop (.Name x px) (.ref I) [st, .Expr (.Yield (some e) ypos) pos] [] env) fs).handled = none) 
    (hfs : splitAtGen fs = none) (hfg : fs.any Frame.guarded = false) (hco : env.scope.isCoroutine = false) (hi : interactive env = false) (hsz : items.size = p.lines.length)
    (W : Src prog w I [I, ll] [I] items.size (fun i v => items[i]? = some v) (fun i h => h.IsListIter I ll i ∧ h.IsList ll items))
    (fin : ∀ n s₀ s, gR p n s₀ (.ok (.ret .none)) s → Seg (model prog w) A (gR p) (gY w.params p) n s₀ (.block [] env) (leafOf (.ok .next)) fs s)
    (turn : ∀ (j : Nat) (l : Ln) (v : Value) (g : Cfg) (h h₁ : Heap), p.lines[j]? = some l → items[j]? = some v → GInv p I ll items j h → Keeps1 [I] h h₁ → GInv p I ll items (j + 1) h₁ →
      D (model prog w) (A.over (.forLoop (.Name x px) (.ref I) [st, .Expr (.Yield (some e) ypos) pos] [] env) fs) g (storeName env x v) h₁ (fun _ h₂ =>
        D (model prog w) (A.over (.forLoop (.Name x px) (.ref I) [st, .Expr (.Yield (some e) ypos) pos] [] env) fs) g (exec st env) h₂ (fun fl h₃ => GInv p I ll items (j + 1) h₃ ∧ Keeps1 [p.Lg, p.Ll] h₁ h₃ ∧
          if l.good = true then fl = .next ∧ ∃ a : Trip, SenAt w.params p.H0 p.ws l a h₃ ∧ Sep a h₁ ∧ D (model prog w) (A.over (.forLoop (.Name x px) (.ref I) [st, .Expr (.Yield (some e) ypos) pos] [] env) fs) g (eval e env) h₃ (fun v' h₄ => v' = .ref a.1 ∧ h₄ = h₃) (fun _ _ => False)
          else fl = .cont) (fun _ _ => False)) (fun _ _ => False)) :
    ∀ (k j : Nat) (s₀ : Shared) (g : Cfg) (h₀ h : Heap) (tk₀ tk : Nat), p.lines.length - j = k → j ≤ p.lines.length → GInv p I ll items j h → s₀ = g.st h₀ tk₀ → Kept p.H0 p.wr h₀ h → 0 < tk →
      Seg (model prog w) A (gR p) (gY w.params p) (p.goods j).length s₀ (.forLoop (.Name x px) (.ref I) [st, .Expr (.Yield (some e) ypos) pos] [] env) ((model prog w).den (.forLoop (.Name x px) (.ref I) [st, .Expr (.Yield (some e) ypos) pos] [] env)) fs (g.st h tk) := by
  have kI : ∀ {j : Nat} {h h₁ : Heap}, GInv p I ll items j h → Keeps1 [I] h h₁ → Kept p.H0 p.wr h h₁ := fun {j h h₁} G k b o hb hc eb => by
    refine k b o (fun z => ?_) eb
    have z : b = I := by simpa using z
    subst z
    obtain ⟨oi, hoi, hci, _⟩ := G.it
    rw [hoi] at eb; cases eb
    exact hc G.nI hci
  intro k
  induction k with
  | zero =>
    intro j s₀ g h₀ h tk₀ tk hk hj G es kp pt
    have hjn : j = p.lines.length := by omega
    subst hjn
    refine seg_forLoop ⟨fun tk₁ p₁ => ?_⟩ pt
    refine wpAny_with_toks (n := tk₁) (Nat.le_refl _) ((W _ hA).done (g.st h tk₁) _ _ (by rw [hsz]; exact ⟨G.it, G.li⟩) fun h₁ tk₂ k₁ l₁ => ?_)
    refine .mk (h := h₁) (tk := tk₂) (by have : tk₁ ≤ tk₂ := l₁; omega) fun tk₃ p₃ => ?_
    refine seg_block ?_
    refine fin _ _ _ ⟨rfl, ?_⟩
    exact ⟨by rw [goods_end]; rfl, g, h₀, h₁, tk₀, tk₃, es, rfl, p₃, kp.trans (kI G k₁), G.fin k₁⟩
  | succ k ih =>
    intro j s₀ g h₀ h tk₀ tk hk hj G es kp pt
    have hlt : j < p.lines.length := by omega
    obtain ⟨l, hl⟩ : ∃ l, p.lines[j]? = some l := ⟨_, List.getElem?_eq_getElem hlt⟩
    refine seg_forLoop ⟨fun tk₁ p₁ => ?_⟩ pt
    refine wpAny_with_toks (n := tk₁) (Nat.le_refl _) ((W _ hA).item j (g.st h tk₁) _ _ (by omega) ⟨G.it, G.li⟩ fun v h₁ tk₂ hP st₁ k₁ l₁ => ?_)
    refine .mk (h := h₁) (tk := tk₂) (by have : tk₁ ≤ tk₂ := l₁; omega) ?_
    dsimp only
    have G1 := G.step k₁ st₁.1 st₁.2
    refine none_let ?_
    refine d_asgName ?_
    refine d_conseq (turn j l v g h h₁ hl hP G k₁ G1) fun _ h₂ kt tk₃ p₃ => ?_
    refine seg_execs_cons ?_
    refine seg_D (d_conseq kt fun fl h₃ z tk₄ p₄ => ?_) p₃
    obtain ⟨G3, k3, z⟩ := z
    have kp3 : Kept p.H0 p.wr h₀ h₃ := (kp.trans (kI G k₁)).trans fun b o hb _ e => k3 b o (fun z => hb (by simp at z; unfold Gp.wr; simp; rcases z with z | z <;> simp [z])) e
    by_cases hg : l.good = true
    · rw [if_pos hg] at z
      obtain ⟨rfl, a, sn, sep, ev⟩ := z
      dsimp only
      rw [goods_good hl hg, List.length_cons]
      refine seg_execs_cons ?_
      refine seg_Yield hfs rfl hfg (d_conseq ev fun v' h₄ z tk₅ p₅ kap hkap => ?_) p₄ hco hi
      obtain ⟨rfl, rfl⟩ := z
      refine ⟨g, h₀, h₄, tk₀, tk₅, l, es, rfl, p₅, ?_, ⟨a, rfl, sn, fun b hb o e => ?_⟩, kp3, fun g' h' tk' p' sx kb => hkap _ ?_⟩
      · exact goods_at hl hg
      · by_cases hc : o.cls = .type "list_iterator"
        · exact hc
        · have hbw : b ∉ p.wr := fun z => (sn.new b hb).1 (by unfold Gp.wr at z; unfold Gp.ws; simp at z ⊢; rcases z with z | z | z <;> simp [z])
          exact sep b hb o ((kp.trans (kI G k₁)) b o hbw (fun _ => hc) e)
      · dsimp only
        refine seg_execs_nil ?_
        refine seg_again rfl ?_
        exact ih (j + 1) _ g' h' h' tk' tk' (by omega) hlt (G3.but f sx kb) rfl Kept.refl p'
    · rw [if_neg hg] at z
      subst z
      dsimp only
      rw [goods_bad hl (by simpa using hg)]
      refine seg_again rfl ?_
      exact ih (j + 1) s₀ g h₀ h₃ tk₀ tk₄ (by omega) hlt G3 es kp3 p₄
end
theorem over_for {A : Around} {k : Result → Sem Fin} {target : Expr} {it : Value} {body orelse b : List Stmt} {env : Env} {p : Pos} : (A.over (.forLoop target it body orelse env) [.ret k none false [] (.func b env) p []]).handled = A.handled ∧ (∀ l, A.frames = some l → (A.over (.forLoop target it body orelse env) [.ret k none false [] (.func b env) p []]).frames = some (env :: l)) ∧ (A.over (.forLoop target it body orelse env) [.ret k none false [] (.func b env) p []]).depth ≤ A.depth + 4 := by
  refine ⟨rfl, fun l e => ?_, ?_⟩
  · unfold Around.over; dsimp only; rw [e]; rfl
  · unfold Around.over; dsimp only
    have h1 : frameCount (List.map PySem.Frame.where_ [PySem.Frame.ret k none false [] (Code.func b env) p []]) ≤ 2 := by
      first | (show 1 ≤ 2; decide) | (show 1 + 0 ≤ 2; decide) | (simp [frameCount, PySem.Frame.where_, Code.weight, Code.isCreation, Code.isGuard, Code.isCaller])
    have h2 : (Code.forLoop target it body orelse env).weight ≤ 2 := by
      first | (show 0 ≤ 2; decide) | (show 0 + 0 ≤ 2; decide) | (simp [Code.weight, Code.isCreation, Code.isGuard, Code.isCaller])
    omega
theorem over_func {A : Around} {b : List Stmt} {env : Env} : (A.over (.func b env) []).handled = A.handled ∧ (∀ l, A.frames = some l → (A.over (.func b env) []).frames = some (env :: l)) := by
  refine ⟨rfl, fun l e => ?_⟩
  unfold Around.over; dsimp only; rw [e]; rfl
end
section
section
variable {prog : Program} {w : World} {A : Around} {g : Cfg} {h : Heap} {K : Frag} {f : Addr} {tk : Nat}
theorem gen_enter {R : Result → Shared → Prop} {name qual : Str} {params : Arguments} {body : List Stmt} {scope : Scope} {dV kV doc pm cdv ct oc : Value} {an od : Option Addr} {osl : Array (Option Value)} {args : Args} {binds : List (Str × Value)}
    (X : K.In h) (hlim : h.NoLimit) (pt : 0 < tk)
    (ho : K.lookup f = some ⟨oc, od, .func (fnOf name qual params body scope dV kV doc pm an cdv ct), osl⟩) (hcd : codeIn K cdv qual = true) (hroom : A.depth < recursionLimit)
    (hbind : ∀ tk, BindsTo (g.st h tk) (fnOf name qual params body scope dV kV doc pm an cdv ct) args binds) (hloc : ∀ y ∈ binds, scope.names.lookup y.1 = some .local)
    (k : ∀ L h₁ env gen tk', EnvIs scope L env → env.frame = some L → h.StaysIn h₁ → h.get? L = none → NsHas h₁ L binds.reverse → h.get? gen = none → gen ≠ L → h₁.IsGen gen g.gens.size → 0 < tk' → 
      R (.ok (.ret (.ref gen))) (({ g with gens := g.gens.push (.fresh (.func body env)) } : Cfg).st h₁ tk'))
    (hco : scope.isCoroutine = false := by rfl) (hgen : scope.isGenerator = true := by rfl) (hk : scope.kind = .function := by rfl)
    (hcell : ∀ x ∈ scope.names, x.2 ≠ .cell := by decide) : codeAny (model prog w) A (.call (.ref f) args) R (g.st h tk) := by
  refine codeAny_call_generator (s := g.st h tk) (fd := fnOf name qual params body scope dV kV doc pm an cdv ct) (body := body) hroom (X _ _ ho) rfl hco hgen rfl (codeRec_of X hcd) ?_
  refine hbind tk _ _ _ _ ?_
  refine wpAny_newFunctionEnv hcell hloc (fun h₀ hns₀ hsb₀ => ⟨hlim.fresh _ hsb₀, ?_⟩) hk
  have k0 : h.StaysIn h₀ := fun b o e => hsb₀.extBut b o (Nat.ne_of_lt (Heap.lt_size e)) (Heap.get?_push_of_some _ e)
  have hL : h₀.objs.size ≠ h.objs.size := Nat.ne_of_gt hns₀.lt
  refine k h.objs.size (h₀.push _) _ h₀.objs.size (tk + binds.length + 1 + 1) ⟨rfl, rfl, rfl, rfl⟩ rfl (stays_trans k0 (stays_push _)) (not_get_size h) ?_ ?_ hL ?_ (by omega)
  · exact NsHas.keep ⟨_, hns₀, fun _ _ e => e⟩ fun o e => stays_push _ _ _ e
  · cases e : h.get? h₀.objs.size with
    | none => rfl
    | some o => exact absurd (Heap.lt_size (k0 _ _ e)) (Nat.lt_irrefl _)
  · exact ⟨_, _, _, Heap.get?_push_size _ rfl, rfl, rfl, rfl⟩
end
theorem d_isStrNone {M : Model} {A : Around} {c : Cfg} {h : Heap} {E : Value → Heap → Prop} {Q : Value → Heap → Prop} {x : Str} {t : Tok} (k : Q (.bool false) h) : D M A c (compareOp .Is (.str x t) .none) h Q E := ⟨fun tk pp => wpAny_is_other rfl (fun z => by cases z) (.mk pp k)⟩
theorem Strs.snoc : ∀ {ls : List (List Nat)} {vs : List Value} {z : List Nat}, Strs vs (ls ++ [z]) → ∃ l t, vs = l ++ [Value.str (S z) t] ∧ Strs l ls := by
  intro ls vs z x
  have hl := x.1
  rw [List.length_append, List.length_singleton] at hl
  obtain ⟨t, ht⟩ := x.2 ls.length z (by simp)
  refine ⟨vs.take ls.length, t, ?_, by simp; omega, fun i l e => ?_⟩
  · have h1 : ls.length < vs.length := by omega
    have h2 : vs[ls.length] = Value.str (S z) t := (List.getElem?_eq_some_iff.mp ht).2
    have h3 : vs.drop ls.length = [Value.str (S z) t] := by
      rw [List.drop_eq_getElem_cons h1, h2, List.drop_of_length_le (by omega)]
    rw [← h3, List.take_append_drop]
  · have hi : i < ls.length := (List.getElem?_eq_some_iff.mp e).1
    obtain ⟨u, hu⟩ := x.2 i l (by rw [List.getElem?_append_left hi]; exact e)
    exact ⟨u, by rw [List.getElem?_take]; simp [hi, hu]⟩
section
variable {prog : Program} {w : World} {A : Around} {g : Cfg} {h : Heap} {tk : Nat} {pr : Program} {loose : List Str} {mg mb : Str → Option Value}
/-- the reader's next, called: a generator that will go as told -/
theorem next_new (T : Top0 w.params pr loose mg mb h) (hroom : A.depth < recursionLimit) (pt : 0 < tk) {xr kd : Addr} {piece : List Nat} {t : Tok} {R : Result → Shared → Prop}
    (k : ∀ h₁ Lg gen tk' cd, h.StaysIn h₁ → h.get? Lg = none → h.get? gen = none → gen ≠ Lg → h₁.IsGen gen g.gens.size → NsHas h₁ Lg [(Str.ofString "data", .str (S piece) t), (Str.ofString "kinds", .ref kd), (Str.ofString "self", .ref xr)] → 0 < tk' →
      (∀ (A' : Around) (p : Gp) (envL : Env) (kvs : List (Str × Value)) (g' : Cfg) (h' : Heap) (tk'' : Nat) (buf rest : List Nat) (ta tb tc te t0 : Nat), A'.handled = none → A'.depth + 60 < recursionLimit → A'.frames = some [envL] → envL.frame = some p.Ll → envL.scope.kind ≠ .module → p.Lg = Lg → p.kd = kd → p.xr = xr → p.Fine →
        Top0 w.params pr loose mg mb (hideAll p.H0 [p.Ll, p.dxr]) → (kd == sysModules) = false → (hideAll p.H0 [p.Ll, p.dxr]).DictOf (strKind prog w) kd kvs → valueAt kvs (Str.ofString "XDR") = some (.ref 394) →
        (hideAll p.H0 [p.Ll, p.dxr]).StaysIn h' → NsHas h' Lg [(Str.ofString "data", .str (S piece) t), (Str.ofString "kinds", .ref kd), (Str.ofString "self", .ref xr)] → NsHas h' p.Ll p.bsL →
        Inst h' xr 423 p.dxr (Mine.res w.params ta tb tc (.str (S (sg "ignore")) te) (.str (S buf) t0)) 3 → (p.resF = fun t' => Mine.res w.params ta tb tc (.str (S (sg "ignore")) te) (.str (S rest) t')) → h'.get? p.S ≠ none → 
        spl 10 (buf ++ piece) = p.lines.map Ln.text ++ [rest] → (∀ l ∈ p.lines, l.Ok) → (buf ++ piece).length ≤ 1000000 → 0 < tk'' →
        Seg (model prog w) A' (gR p) (gY w.params p) (p.goods 0).length (g'.st h' tk'') cd ((model prog w).den cd) [] (g'.st h' tk'')) →
      R (.ok (.ret (.ref gen))) (({ g with gens := g.gens.push (.fresh cd) } : Cfg).st h₁ tk')) :
    codeAny (model prog w) A (.call (.ref 420) ⟨[.ref xr, .ref kd, .str (S piece) t], []⟩) R (g.st h tk) := by
  refine gen_enter (K := hd.heap_39 w.params) (binds := [(Str.ofString "self", .ref xr), (Str.ofString "kinds", .ref kd), (Str.ofString "data", .str (S piece) t)]) T.K T.T.nolimit pt (by k_is) (by k_is) hroom (fun _ => binds_K (K := hd.heap_39 w.params) T.K rfl (by k_is) rfl rfl rfl) (locs rfl) (fun Lg h₁ env gen tk' hE hfE hk₁ nL ns nG nGL isg pt' => ?_)
  refine k h₁ Lg gen tk' _ hk₁ nL nG nGL isg ns pt' ?_
  intro A' p envL kvs g' h' tk'' buf rest ta tb tc te t0 hA hroom hfr hfL hkL e1 e2 e3 fine TB hkd hkk hkv kB nsG nsL rd hrF nS hsp hok hlen pt
  subst e1
  subst e2
  subst e3
  have hB0 : ∀ b o, (hideAll p.H0 [p.Ll, p.dxr]).get? b = some o → p.H0.get? b = some o := fun b o e => of_hideAll _ e
  have hLg : (hideAll p.H0 [p.Ll, p.dxr]).get? p.Lg = none := by
    cases e : (hideAll p.H0 [p.Ll, p.dxr]).get? p.Lg with
    | none => rfl
    | some o => have := hB0 _ _ e; rw [fine.g0] at this; cases this
  have hdx : (hideAll p.H0 [p.Ll, p.dxr]).get? p.dxr = none := hideAll_none _ (by simp)
  have hLl : (hideAll p.H0 [p.Ll, p.dxr]).get? p.Ll = none := hideAll_none _ (by simp)
  have F0 := nsG.frl
  have T0 : Top0 w.params pr loose mg mb (h'.hide p.Lg) := TB.keeps fun b o e => hide_of (kB b o e) fun z => by rw [z, hLg] at e; cases e
  have ndL : p.dxr ≠ p.Lg := fun z => fine.dl (by rw [z]; exact fine.g0)
  have nxL : p.xr ≠ p.Lg := fun z => by obtain ⟨m, ⟨o, es, ep, e, hd, _⟩, _⟩ := nsG; rw [← z, rd.x] at e; cases e; cases hd
  have nLL : p.Ll ≠ p.Lg := fun z => fine.l0 (by rw [z]; exact fine.g0)
  have oH : ∀ b, (A'.over (.func b env) []).handled = none := fun _ => hA
  refine seg_func ?_
  generalize hcd : Code.func _ env = cd
  have oH1 : (A'.over cd []).handled = none := by rw [← hcd]; exact hA
  refine seg_execs_cons (seg_D ?_ pt)
  refine d_expr ?_ (EnvIs.inter hE (by rfl))
  repeat walk_at "d1"
  intro tk₂ pt₂
  refine seg_execs_cons (seg_D ?_ pt₂)
  repeat walk_at "d1"
  refine d_isStrNone ?_
  repeat walk_at "d1"
  intro tk₃ pt₃
  refine seg_execs_cons (seg_D ?_ pt₃)
  repeat walk_at "d1"
  have X0 : (hd.heap_39 w.params).In h' := TB.K.keeps kB
  refine d_getOwn (K := hd.heap_39 w.params) (v := .str (S buf) t0) X0 rd (by k_is) (by k_is) (by k_is) rfl rfl rfl ?_
  repeat walk_at "d1"
  have hlen2 : buf.length + piece.length ≤ 1000000 := by simpa using hlen
  refine d_gm (fun M A E s Q q => GM.split q) ?_
  repeat walk_at "d1"
  refine d_splitL (k := 10) (x := buf ++ piece) (Nat.le_trans hlen (by decide)) (fun h₂ D items n k2 n2 hD hDs => ?_)
  have F2 := (F0.back k2).all
  clear F0
  refine d_store hE F2 (fun h₃ F3 => ?_)
  have neD : ∀ b o, h'.get? b = some o → b ≠ D := fun b o e z => by rw [z, n2] at e; cases e
  have hDL : D ≠ p.Lg := fun z => by
    obtain ⟨m, ⟨o, es, ep, e, _⟩, _⟩ := nsG
    exact neD _ _ e z.symm
  have k23 : ∀ b o, b ≠ p.Lg → h₂.get? b = some o → h₃.get? b = some o := fun b o hb e => F3.keep _ _ (hide_of e hb)
  have rd3 : Inst h₃ p.xr 423 p.dxr (res w.params ta tb tc (.str (S (sg "ignore")) te) (.str (S buf) t0)) 3 := ⟨k23 _ _ nxL (k2 _ _ rd.x), k23 _ _ ndL (k2 _ _ rd.d)⟩
  have hD3 := k23 _ _ hDL hD
  have nsL3 : NsHas h₃ p.Ll p.bsL := (nsL.keep fun o e => k2 _ _ e).keep fun o e => k23 _ _ nLL e
  have kB3 : (hideAll p.H0 [p.Ll, p.dxr]).StaysIn h₃ := fun b o e => k23 _ _ (fun z => by rw [z, hLg] at e; cases e) (k2 _ _ (kB _ _ e))
  have kS3 : ∃ o, h₃.get? p.S = some o := by
    cases e : h'.get? p.S with
    | none => exact absurd e nS
    | some o => exact ⟨o, k23 _ _ (Ne.symm fine.gs) (k2 _ _ e)⟩
  have nsG3 : NsHas h₃ p.Lg ((Str.ofString "lines", .ref D) :: [(Str.ofString "data", .str (S piece) t), (Str.ofString "kinds", .ref p.kd), (Str.ofString "self", .ref p.xr)]) := F3.ns
  have H3 : ∀ b o, h'.get? b = some o → b ≠ p.Lg → h₃.get? b = some o := fun b o e hb => k23 _ _ hb (k2 _ _ e)
  clear F2 F3
  intro tk₄ pt₄
  refine seg_execs_cons (seg_D ?_ pt₄)
  have F4 := nsG3.frl
  have X3 : (hd.heap_39 w.params).In h₃ := TB.K.keeps kB3
  repeat walk_at "d1"
  refine d_gmList PySem.F.slot_list_pop PySem.F.type_list_pop hD3 ?_
  repeat walk_at "d1"
  rw [hsp] at hDs
  obtain ⟨lv, tr, hit, hlv⟩ := hDs.snoc
  have hIt : items = (lv ++ [Value.str (S rest) tr]).toArray := by rw [← hit, Array.toArray_toList]
  rw [hIt] at hD3
  have hlvn : lv.length ≤ 1000000 := by
    have e1 := hlv.1
    have e2 := spl_len 10 (buf ++ piece)
    rw [hsp] at e2
    simp at e2 e1; omega
  refine d_pop hD3 hlvn (fun h₄ m4 hD4 sb4 => ?_)
  have F5 := (F4.lose D).mut sb4 (Heap.hide_self _ _) (Ne.symm hDL)
  repeat walk_at "d1"
  have k34 : ∀ b o, b ≠ D → h₃.get? b = some o → h₄.get? b = some o := fun b o hb e => (sb4.2 b hb).trans e
  have rd4 : Inst h₄ p.xr 423 p.dxr (res w.params ta tb tc (.str (S (sg "ignore")) te) (.str (S buf) t0)) 3 := ⟨k34 _ _ (neD _ _ rd.x) rd3.x, k34 _ _ (neD _ _ rd.d) rd3.d⟩
  have kB4 : (hideAll p.H0 [p.Ll, p.dxr]).StaysIn h₄ := fun b o e => k34 _ _ (neD _ _ (kB _ _ e)) (kB3 _ _ e)
  refine d_setOwn (K := hd.heap_39 w.params) (es' := fun _ => res w.params ta tb tc (.str (S (sg "ignore")) te) (.str (S rest) tr)) (n' := 3) (TB.K.keeps kB4) rd4 (by k_is) (by k_is) (by k_is) (by k_is) rfl (fun _ => rfl) (fun _ => by simp [res]) (fun h₅ _ rd5 sb5 => ?_)
  have k45 : ∀ b o, b ≠ p.dxr → h₄.get? b = some o → h₅.get? b = some o := fun b o hb e => (sb5.2 b hb).trans e
  have hDdx : D ≠ p.dxr := fun z => neD _ _ rd.d z.symm
  have hD5 := k45 _ _ hDdx hD4
  have nsG5 := (nsG3.keep fun o e => k34 _ o (Ne.symm hDL) e).keep fun o e => k45 _ o (Ne.symm ndL) e
  have neLl : p.Ll ≠ D := by
    obtain ⟨m, ⟨o, es, ep, e, _⟩, _⟩ := nsL
    exact neD _ _ e
  have nsL5 := (nsL3.keep fun o e => k34 _ o neLl e).keep fun o e => k45 _ o fine.ld e
  have kB5 : (hideAll p.H0 [p.Ll, p.dxr]).StaysIn h₅ := fun b o e => k45 _ _ (fun z => by rw [z, hdx] at e; cases e) (kB4 _ _ e)
  have H5 : ∀ b o, h'.get? b = some o → b ≠ p.Lg → b ≠ p.dxr → h₅.get? b = some o := fun b o e h1 h2 => k45 _ _ h2 (k34 _ _ (neD _ _ e) (H3 _ _ e h1))
  have hDS : D ≠ p.S := fun z => by
    cases e : h'.get? p.S with
    | none => exact nS e
    | some o => exact neD _ _ e z.symm
  clear F4 F5
  intro tk₅ pt₅
  refine seg_execs_cons (seg_For ?_ pt₅)
  have F6 := nsG5.frl
  repeat walk_at "d1"
  refine d_iterList (LObj.isList hD5) (fun h₆ I k6 nI6 W st6 p' tk₆ pt₆ => ?_)
  have H6 : ∀ b o, h'.get? b = some o → b ≠ p.Lg → b ≠ p.dxr → h₆.get? b = some o := fun b o e h1 h2 => k6 _ _ (H5 _ _ e h1 h2)
  have newI : ∀ b o, h₅.get? b = some o → b ≠ I := fun b o e z => by rw [z, nI6] at e; cases e
  have hI0 : p.H0.get? I = none := by
    cases e : p.H0.get? I with
    | none => rfl
    | some o =>
      by_cases z1 : I = p.Ll
      · obtain ⟨m, ⟨o, es, ep, e, _⟩, _⟩ := nsL5
        exact absurd z1.symm (newI _ _ e)
      · by_cases z2 : I = p.dxr
        · exact absurd z2.symm (newI _ _ rd5.d)
        · exact absurd rfl (newI _ _ (kB5 _ _ (hideAll_get _ e (by simp [z1, z2]))))
  have hIS : I ≠ p.S := fun z => by
    cases e : h'.get? p.S with
    | none => exact nS e
    | some o => exact newI _ _ (H5 _ _ e (Ne.symm fine.gs) (Ne.symm fine.ds)) z.symm
  have GI : GInv p I D lv.toArray 0 h₆ := by
    refine ⟨stays_trans kB5 k6, ?_, nsL5.keep fun o e => k6 _ _ e, ⟨tr, ?_⟩, st6.1, st6.2, hI0, hIS, hDS, ?_⟩
    · refine (nsG5.keep fun o e => k6 _ _ e).sub ?_
      unfold Gp.bsG
      exact sub_cons rfl (sub_cons rfl sub_nil)
    · rw [hrF]
      exact ⟨k6 _ _ rd5.x, k6 _ _ rd5.d⟩
    · cases e : h'.get? p.S with
      | none => exact absurd e nS
      | some o => exact ⟨o, H6 _ _ e (Ne.symm fine.gs) (Ne.symm fine.ds)⟩
  subst hcd
  have of := fun (k : Result → Sem Fin) (target : Expr) (it : Value) (body orelse b : List Stmt) (pp : Pos) => over_for (A := A') (k := k) (target := target) (it := it) (body := body) (orelse := orelse) (b := b) (env := env) (p := pp)
  refine gen_loop (p := p) (I := I) (ll := D) (items := lv.toArray) fine ((of _ _ _ _ _ _ _).1.trans hA) rfl rfl (by rw [hE.scope]) (EnvIs.inter hE (by rfl)) (by rw [List.size_toArray, hlv.1, List.length_map]) W (fun n s₀ s z => ?_) (fun j l v g₁ h₇ h₈ hl hv G7 k78 G8 => ?_)
    p.lines.length 0 _ g' h' h₆ tk'' tk₆ (Nat.sub_zero _) (Nat.zero_le _) GI rfl (fun b o hb _ e => H6 b o e (fun z => hb (by unfold Gp.wr; simp [z])) (fun z => hb (by unfold Gp.wr; simp [z]))) pt₆
  · refine seg_leaf (.ok .next) ?_
    exact seg_end (.ok (.ret .none)) z
  · clear H5 H6 newI kB5 nsL5 nsG5 rd5 hD5 W st6 GI F6 nI6 k6
    have hOl : l.Ok := hok l (List.mem_of_getElem? hl)
    obtain ⟨u, hu⟩ : ∃ u, v = .str (S l.text) u := by
      obtain ⟨u, hu⟩ := hlv.2 j l.text (by rw [List.getElem?_map, hl]; rfl)
      rw [List.getElem?_toArray, hu] at hv
      exact ⟨u, (Option.some.inj hv).symm⟩
    subst hu
    generalize hAn : Around.over A' _ _ = An
    have a1 : An.handled = none := by rw [← hAn]; exact (of _ _ _ _ _ _ _).1.trans hA
    have a2 : An.frames = some [env, envL] := by rw [← hAn]; exact (of _ _ _ _ _ _ _).2.1 _ hfr
    have a3 : An.depth + 50 < recursionLimit := by
      have : An.depth ≤ A'.depth + 4 := by rw [← hAn]; exact (of _ _ _ _ _ _ _).2.2
      omega
    clear hAn of
    have F8 := G8.ng.frl
    have T8 : Top0 w.params pr loose mg mb (h₈.hide p.Lg) := TB.keeps fun b o e => hide_of (G8.keep b o e) fun z => by rw [z, hLg] at e; cases e
    unfold Gp.bsG at F8
    change Mine.D _ _ _ (storeName env (Str.ofString "line") (.str (S (lineOf l.dol l.ta l.body l.n true)) u)) _ _ _
    refine d_store hE F8 (fun h₉ F9 => ?_)
    have k89 : ∀ b o, b ≠ p.Lg → h₈.get? b = some o → h₉.get? b = some o := fun b o hb e => F9.keep _ _ (hide_of e hb)
    have kB9 : (hideAll p.H0 [p.Ll, p.dxr]).StaysIn h₉ := stays_trans (fun b o e => hide_of (G8.keep b o e) fun z => by rw [z, hLg] at e; cases e) F9.keep
    have T9 : Top0 w.params pr loose mg mb h₉ := TB.keeps kB9
    have nl9 : NsHas h₉ p.Ll p.bsL := G8.nl.keep fun o e => k89 _ _ nLL e
    have G9 := G8.frames fine (fun b o hb e => k89 b o (fun z => hb (by simp [z])) e) ((show NsHas h₉ p.Lg _ from F9.ns).sub (sub_cons rfl (sub_cons rfl sub_nil))) nl9
    have FF : h₉.FunFrames (hideAll h₉ [p.Lg, p.Ll]) [env, envL] := by
      obtain ⟨m, ⟨o1, es1, ep1, q1, d1, _⟩, _⟩ := F9.ns
      obtain ⟨m2, ⟨o2, es2, ep2, q2, d2, _⟩, _⟩ := nl9
      exact ⟨(by rw [hE.scope]; decide), ⟨p.Lg, o1, hfE, hideAll_none _ (by simp), q1, fun vs z => by rw [d1] at z; cases z⟩, hkL, ⟨p.Ll, o2, hfL, hideAll_none _ (by simp), q2, fun vs z => by rw [d2] at z; cases z⟩, trivial⟩
    have new9 : ∀ a, h₉.get? a = none → a ∉ p.ws ∧ p.H0.get? a = none := fun a n => by
      have ex : ∀ b, (∃ o, h₉.get? b = some o) → a ≠ b := fun b ⟨o, e⟩ z => by rw [z, e] at n; cases n
      have x1 := ex p.Lg F9.at
      have x2 := ex p.Ll (let ⟨m, ⟨o, es, ep, e, _⟩, _⟩ := nl9; ⟨o, e⟩)
      have x3 := ex p.dxr (let ⟨t, R⟩ := G9.rd; ⟨_, R.d⟩)
      have x4 := ex p.S G9.sx
      refine ⟨by unfold Gp.ws; simp [x1, x2, x3, x4], ?_⟩
      cases e : p.H0.get? a with
      | none => rfl
      | some o => rw [kB9 _ _ (hideAll_get _ e (by simp [x2, x3]))] at n; cases n
    refine d_tryAs a2 hfE ?_
    repeat walk_at "d1"
    refine d_methStatic (K := hd.heap_39 w.params) T9.K (by k_is) (by k_is) (p0 := 126) (f := .ref 124) (rest := [.bool false]) (by k_is) (by k_is) rfl ?_
    dsimp only
    refine d_withK (K := hd.heap_39 w.params) (by k_is) ?_
    repeat walk_at "d1"
    refine ⟨T9.K, d_call (parse_spec T9 (by omega) a1 (dol := l.dol) (cr := true) (check := false) (kvs := kvs) (.inr ⟨rfl, rfl⟩) hOl hkd (hkk.keep kB9) hkv (outer := [env, envL]) (as := [p.Lg, p.Ll]) a2 FF (fun hn h₁₀ x a0 nx fl up => ?_) (fun hn h₁₀ x dx lst t1 t2 its k10 nx ndx nl nxd Sn hSs => ?_))⟩
    · have hg : l.good = false := by unfold Ln.good; simpa using hn
      refine ⟨x, _, a0, rfl, fl, fun h₁₂ fl12 up12 => ?_⟩
      have k912 : ∀ b o, b ≠ p.Lg → b ≠ p.Ll → h₉.get? b = some o → h₁₂.get? b = some o := fun b o h1 h2 e => fl12.1 _ _ (hideAll_get _ e (by simp [h1, h2]))
      have up13 := up.trans up12
      have F12 := ((show NsHas h₉ p.Lg _ from F9.ns).up up13).frl
      have nl12 := nl9.up up13
      have G12 := G9.frames fine (fun b o hb e => k912 b o (fun z => hb (by simp [z])) (fun z => hb (by simp [z])) e) ((show NsHas h₁₂ p.Lg _ from F12.ns).sub (sub_cons rfl (sub_cons rfl sub_nil))) nl12
      have T12 : Top0 w.params pr loose mg mb (h₁₂.hide p.Lg) := TB.keeps fun b o e => hide_of (G12.keep b o e) fun z => by rw [z, hLg] at e; cases e
      refine ⟨TB.K.keeps G12.keep, ?_, ?_⟩
      · repeat walk_at "d1"
        exact ⟨rfl, rfl⟩
      · refine d_store hE F12 (fun h₁₃ F13 => ?_)
        have k1213 : ∀ b o, b ≠ p.Lg → h₁₂.get? b = some o → h₁₃.get? b = some o := fun b o hb e => F13.keep _ _ (hide_of e hb)
        have G13 := G12.frames fine (fun b o hb e => k1213 b o (fun z => hb (by simp [z])) e) ((show NsHas h₁₃ p.Lg _ from F13.ns).sub (sub_cons rfl (sub_cons rfl sub_nil))) (nl12.keep fun o e => k1213 _ _ nLL e)
        obtain ⟨t13, rd13⟩ := G13.rd
        rw [hrF] at rd13
        have X13 : (hd.heap_39 w.params).In h₁₃ := TB.K.keeps G13.keep
        repeat walk_at "d1"
        refine d_getOwn (K := hd.heap_39 w.params) (v := .str (S (sg "ignore")) te) X13 rd13 (by k_is) (by k_is) (by k_is) rfl rfl rfl ?_
        repeat walk_at "d1"
        refine d_getOwn (K := hd.heap_39 w.params) (v := .str (S (sg "ignore")) te) X13 rd13 (by k_is) (by k_is) (by k_is) rfl rfl rfl ?_
        repeat walk_at "d1"
        refine d_getOwn (K := hd.heap_39 w.params) (v := .str (S (sg "ignore")) te) X13 rd13 (by k_is) (by k_is) (by k_is) rfl rfl rfl ?_
        repeat walk_at "d1"
        refine d_cont ?_
        dsimp only
        refine d_unbind hE F13 (by rfl) (by rfl) (fun h₁₄ F14 => ?_)
        have k1314 : ∀ b o, b ≠ p.Lg → h₁₂.get? b = some o → h₁₄.get? b = some o := fun b o hb e => F14.keep _ _ (hide_of e hb)
        have G14 := G12.frames fine (fun b o hb e => k1314 b o (fun z => hb (by simp [z])) e) ((show NsHas h₁₄ p.Lg _ from F14.ns).sub (sub_cons rfl (sub_cons rfl sub_nil))) (nl12.keep fun o e => k1314 _ _ nLL e)
        refine ⟨G14, fun b o hb e => k1314 b o (fun z => hb (by simp [z])) (k912 b o (fun z => hb (by simp [z])) (fun z => hb (by simp [z])) (k89 b o (fun z => hb (by simp [z])) e)), ?_⟩
        rw [if_neg (by rw [hg]; decide)]
    · have hg : l.good = true := by unfold Ln.good; simpa using hn
      dsimp only
      have F10 := (F9.back k10).all
      refine d_store hE F10 (fun h₁₁ F11 => ?_)
      have xL : ∀ a, h₉.get? a = none → a ≠ p.Lg := fun a n z => (new9 a n).1 (by unfold Gp.ws; simp [z])
      have Sn11 : Sen w.params h₁₁ x dx lst (.str (S l.ta) t1) (.str (S (sg "XDR")) t2) its := by
        obtain ⟨⟨ta', tb', tc', I'⟩, o, ho, r⟩ := Sn
        exact ⟨⟨ta', tb', tc', F11.keep _ _ (hide_of I'.x (xL _ nx)), F11.keep _ _ (hide_of I'.d (xL _ ndx))⟩, o, F11.keep _ _ (hide_of ho (xL _ nl)), r⟩
      have k911 : ∀ b o, b ≠ p.Lg → h₉.get? b = some o → h₁₁.get? b = some o := fun b o hb e => F11.keep _ _ (hide_of (k10 _ _ e) hb)
      have G11 := G9.frames fine (fun b o hb e => k911 b o (fun z => hb (by simp [z])) e) ((show NsHas h₁₁ p.Lg _ from F11.ns).sub (sub_cons rfl (sub_cons rfl sub_nil))) (nl9.keep fun o e => k911 _ _ nLL e)
      repeat walk_at "d1"
      refine ⟨G11, fun b o hb e => k911 b o (fun z => hb (by simp [z])) (k89 b o (fun z => hb (by simp [z])) e), ?_⟩
      rw [if_pos hg]
      have n9 : ∀ b ∈ Trip.on (x, dx, lst), h₉.get? b = none := fun b hb => by
        simp at hb
        rcases hb with rfl | rfl | rfl
        · exact nx
        · exact ndx
        · exact nl
      refine ⟨rfl, (x, dx, lst), ⟨nxd, fun b hb => new9 _ (n9 b hb), t1, t2, its, Sn11, hSs⟩, fun b hb o e => ?_, ?_⟩
      · have := k89 b o (xL _ (n9 b hb)) e
        rw [n9 b hb] at this; cases this
      · repeat walk_at "d1"
        exact ⟨rfl, rfl⟩
end
end
section
/-! list of the reader's generator -/
theorem base_kept {p : Gp} {h h' : Heap} (f : p.Fine) (kb : (hideAll p.H0 [p.Ll, p.dxr]).StaysIn h) (k : Kept p.H0 (p.S :: p.wr) h h') : (hideAll p.H0 [p.Ll, p.dxr]).StaysIn h' := fun b o e => by
  have e0 := of_hideAll _ e
  refine k b o (fun z => ?_) (fun z => by rw [z] at e0; cases e0) (kb _ _ e)
  unfold Gp.wr at z
  simp at z
  rcases z with z | z | z | z
  · rw [z, f.s0] at e0; cases e0
  · rw [z, f.g0] at e0; cases e0
  · rw [z, hideAll_none _ (by simp)] at e; cases e
  · rw [z, hideAll_none _ (by simp)] at e; cases e
theorem st_inj {g g1 : Cfg} {h h1 : Heap} {tk tk1 gi : Nat} {x : GenState} (e : (g.st h tk).setGen gi x = g1.st h1 tk1) : h1 = h ∧ tk1 = tk ∧ g1 = { g with gens := g.gens.setIfInBounds gi x } := by
  obtain ⟨a, b, c⟩ := g
  obtain ⟨a1, b1, c1⟩ := g1
  unfold Cfg.st Shared.setGen at e
  simp only [Shared.mk.injEq] at e
  obtain ⟨e1, e2, e3, e4, e5⟩ := e
  subst e1 e2 e3 e4 e5
  exact ⟨rfl, rfl, rfl⟩
/-- all generators but one hold nothing that must be done at an end -/
def BareBut (gi : Nat) (gens : Array GenState) : Prop := ∀ (j : Nat) (y : GenState), j ≠ gi → gens[j]? = some y → y.bare = true
theorem BareBut.set {gi : Nat} {gens : Array GenState} {x : GenState} (b : BareBut gi gens) : BareBut gi (gens.setIfInBounds gi x) := fun j y hj e => by
  rw [Array.getElem?_setIfInBounds_ne (Ne.symm hj)] at e
  exact b j y hj e
theorem BareBut.fin {gi : Nat} {gens : Array GenState} (b : BareBut gi gens) : AllBare (gens.setIfInBounds gi .finished) := fun y hy => by
  obtain ⟨j, hj, e⟩ := Array.mem_iff_getElem.mp hy
  have e2 : (gens.setIfInBounds gi .finished)[j]? = some y := by rw [Array.getElem?_eq_getElem hj, e]
  by_cases h : j = gi
  · subst h
    rw [Array.size_setIfInBounds] at hj
    rw [Array.getElem?_setIfInBounds_self_of_lt hj] at e2
    cases e2; rfl
  · exact b.set (x := .finished) j y h e2
theorem BareBut.fresh {gens : Array GenState} {x : GenState} (b : AllBare gens) : BareBut gens.size (gens.push x) := fun j y hj e => by
  rw [Array.getElem?_push] at e
  rw [if_neg hj] at e
  exact b y (Array.mem_of_getElem? e)
section
variable {prog : Program} {w : World} {A : Around} {p : Gp} {gen gi : Nat} {R : Result → Shared → Prop} {hs : Heap} {gs0 : Cfg}
theorem ext_loop (f : p.Fine) {pr : Program} {loose : List Str} {mg mb : Str → Option Value} (TB : Top0 w.params pr loose mg mb (hideAll p.H0 [p.Ll, p.dxr])) (hA : A.handled = none) (hroom : A.depth < recursionLimit) (hgS : gen ∉ p.S :: p.wr) (hz : p.lines.length ≤ 1000000)
    (hR : ∀ (g' : Cfg) (h' : Heap) (tk' : Nat) (acc : Array Value) (m : Nat) (as : List Trip), 0 < tk' → (g'.drawn = gs0.drawn ∧ (BareBut gi gs0.gens → AllBare g'.gens)) → g'.os = gs0.os → GEnd p h' → Kept p.H0 (p.S :: p.wr) hs h' → h'.get? p.S = some (LObj acc m) → acc.toList = as.map (fun a => Value.ref a.1) → as.length = (p.goods 0).length →
      as.Pairwise (fun a b => ∀ y ∈ a.on, y ∉ b.on) → (∀ (i : Nat) (l : Ln), (p.goods 0)[i]? = some l → ∃ a, as[i]? = some a ∧ SenAt w.params p.H0 p.ws l a h') → R (.ok (.ret .none)) (g'.st h' tk')) :
    ∀ (n k : Nat) (g : Cfg) (h : Heap) (tk : Nat) (gs : GenState) (acc : Array Value) (m : Nat) (as : List Trip), k + n = (p.goods 0).length → 0 < tk → g.gens[gi]? = some gs → (g.drawn = gs0.drawn ∧ (BareBut gi gs0.gens → BareBut gi g.gens)) → g.os = gs0.os →
      (∀ (g' : Cfg) (h' : Heap) (tk' : Nat), 0 < tk' → (∃ o, h'.get? p.S = some o) → (∀ b o, b ≠ p.S → h.get? b = some o → h'.get? b = some o) → gs.Goes (model prog w) A.in1.in1 (gR p) (gY w.params p) n (.send .none) (g'.st h' tk')) →
      (hideAll p.H0 [p.Ll, p.dxr]).StaysIn h → h.IsGen gen gi → Kept p.H0 (p.S :: p.wr) hs h → h.get? p.S = some (LObj acc m) → acc.toList = as.map (fun a => Value.ref a.1) → as.length = k → as.Pairwise (fun a b => ∀ y ∈ a.on, y ∉ b.on) →
      (∀ (i : Nat) (l : Ln), i < k → (p.goods 0)[i]? = some l → ∃ a, as[i]? = some a ∧ SenAt w.params p.H0 p.ws l a h) →
      codeAny (model prog w) A (.builtin "list.extend.loop" ⟨[.ref p.S, .ref gen, .none], []⟩) R (g.st h tk) := by
  have hlen : (p.goods 0).length ≤ 1000000 := Nat.le_trans (List.length_filter_le _ _) (by rw [List.drop_zero]; exact hz)
  have wsub : ∀ a ∈ p.wr, a ∈ p.ws := fun a ha => by unfold Gp.wr at ha; unfold Gp.ws; simp at ha ⊢; rcases ha with z | z | z <;> simp [z]
  have wsub2 : ∀ a ∈ p.S :: p.wr, a ∈ p.ws := fun a ha => by
    rcases List.mem_cons.mp ha with z | z
    · subst z; unfold Gp.ws; simp
    · exact wsub a z
  have kw : ∀ {a b : Heap}, Kept p.H0 p.wr a b → Kept p.H0 (p.S :: p.wr) a b := fun k x o hx hc e => k x o (fun z => hx (List.mem_cons_of_mem _ z)) hc e
  have hSw : p.S ∉ p.wr := fun z => by
    unfold Gp.wr at z; simp at z
    rcases z with z | z | z
    · exact f.gs z.symm
    · exact f.ls z.symm
    · exact f.ds z.symm
  intro n
  induction n with
  | zero =>
    intro k g h tk gs acc m as hk pt hgs hdr hos go kB hg kp hS hac hal hpw hsn
    refine codeAny_builtin PySem.F.entry_extend_loop ?_
    rw [Around.under_plainId PySem.F.plain_extend_loop _]
    show wpAny _ A.in1 (pyNext (.ref gen) >>= _) _ _ _
    refine wpAny_bind (wpAny_pyNext_gen (A := A.in1) (s := g.st h tk) (n := 0) (P := gP p) (Y := gY w.params p) hA (TB.T.nolimit.keeps kB) hroom hg hgs (go { g with gens := g.gens.setIfInBounds gi .running } h tk pt ⟨_, hS⟩ (fun _ _ _ e => e)) (fun v s₁ gs' z => ?_) (fun s₁ z h' hk' => ?_))
    · obtain ⟨g1, h0', h1, tk0', tk1, l, e0, rfl, p1, hl, ⟨a, rfl, sn, sep⟩, kp1, kap⟩ := z
      obtain ⟨rfl, rfl, rfl⟩ := st_inj e0
      exact (kap g h1 1 (by omega) ⟨_, kp1 _ _ hSw (fun _ => fun z => absurd (Value.type.inj z) (by decide)) hS⟩ (fun _ _ _ e => e)).elim
    · obtain ⟨-, g1, h0', h1, tk0', tk1, e0, rfl, p1, kp1, ge⟩ := z
      obtain ⟨rfl, rfl, rfl⟩ := st_inj e0
      have kp2 : Kept p.H0 (p.S :: p.wr) hs h' := fun b o hb hc e => hk' _ _ (kw kp1 b o hb hc (kp b o hb hc e))
      refine wpAny_pure (hR { g with gens := (g.gens.setIfInBounds gi .running).setIfInBounds gi .finished } h' tk1 acc m as p1 ⟨hdr.1, fun b => (hdr.2 b).set.fin⟩ hos ?_ kp2 ?_ hac ?_ hpw ?_)
      · exact ⟨stays_trans ge.keep hk', ge.nl.keep fun o e => hk' _ _ e, let ⟨t, r⟩ := ge.rd; ⟨t, hk' _ _ r.x, hk' _ _ r.d⟩⟩
      · exact hk' _ _ (kp1 _ _ hSw (fun _ => fun z => absurd (Value.type.inj z) (by decide)) hS)
      · omega
      · intro i l e
        obtain ⟨v, e1, e2⟩ := hsn i l (by have := (List.getElem?_eq_some_iff.mp e).1; omega) e
        exact ⟨v, e1, (e2.kept wsub kp1).of fun b o _ _ _ e => hk' _ _ e⟩
  | succ n ih =>
    intro k g h tk gs acc m as hk pt hgs hdr hos go kB hg kp hS hac hal hpw hsn
    refine codeAny_builtin PySem.F.entry_extend_loop ?_
    rw [Around.under_plainId PySem.F.plain_extend_loop _]
    show wpAny _ A.in1 (pyNext (.ref gen) >>= _) _ _ _
    refine wpAny_bind (wpAny_pyNext_gen (A := A.in1) (s := g.st h tk) (n := n + 1) (P := gP p) (Y := gY w.params p) hA (TB.T.nolimit.keeps kB) hroom hg hgs (go { g with gens := g.gens.setIfInBounds gi .running } h tk pt ⟨_, hS⟩ (fun _ _ _ e => e)) (fun v s₁ gs' z => ?_) (fun s₁ z h' hk' => ?_))
    · obtain ⟨g1, h0', h1, tk0', tk1, l, e0, rfl, p1, hl, ⟨a, rfl, sn, sep⟩, kp1, kap⟩ := z
      obtain ⟨rfl, rfl, rfl⟩ := st_inj e0
      have hS1 := kp1 _ _ hSw (fun _ => fun z => absurd (Value.type.inj z) (by decide)) hS
      have gout : ∀ {o : Obj}, h1.get? gen = some o → gen ≠ p.S := fun _ z => hgS (by rw [z]; simp)
      show wpAny _ A.in1 (updateSeq p.S (·.push (.ref a.1)) >>= _) _ _ _
      have sb : Heap.SameBut p.S h1 (h1.update p.S (Obj.mapSeq (·.push (.ref a.1)))) := Heap.SameBut.update ..
      have kS : ∀ b o, b ≠ p.S → h1.get? b = some o → (h1.update p.S (Obj.mapSeq (·.push (.ref a.1)))).get? b = some o := fun b o hb e => (sb.2 b hb).trans e
      have hS2 : (h1.update p.S (Obj.mapSeq (·.push (.ref a.1)))).get? p.S = some (LObj (acc.push (.ref a.1)) (m + 1)) := by
        rw [Heap.get?_update_self _ hS1 rfl, mapSeq_push]
      have kp2 : Kept p.H0 (p.S :: p.wr) hs (h1.update p.S (Obj.mapSeq (·.push (.ref a.1)))) := fun b o hb hc e => kS _ _ (fun z => hb (by rw [z]; simp)) (kw kp1 b o hb hc (kp b o hb hc e))
      have hasz : acc.size = k := by rw [← Array.length_toList, hac, List.length_map, hal]
      refine wpAny_bind (wpAny_updateSeq (s := (({ g with gens := g.gens.setIfInBounds gi .running } : Cfg).st h1 tk1).setGen gi gs') hS1 rfl ?_ (by rw [sizeLine_eq]; omega) (by rw [Array.size_push, sizeLine_eq]; omega))
      have ggi : gi < g.gens.size := by
        rcases Nat.lt_or_ge gi g.gens.size with h' | h'
        · exact h'
        · rw [Array.getElem?_eq_none h'] at hgs; cases hgs
      refine wpAny_pure ⟨plainId_quiet PySem.F.plain_extend_loop _, ?_⟩
      refine ih (k + 1) { g with gens := (g.gens.setIfInBounds gi .running).setIfInBounds gi gs' } (h1.update p.S (Obj.mapSeq (·.push (.ref a.1)))) tk1 gs' (acc.push (.ref a.1)) (m + 1) (as ++ [a]) (by omega) p1 (by simp [ggi]) ⟨hdr.1, fun b => (hdr.2 b).set.set⟩ hos ?_ ?_ ?_ kp2 hS2 (by simp [hac]) (by simp [hal]) ?_ ?_
      · intro g' h' tk' p' sx kb
        exact kap g' h' tk' p' sx (fun b o hb e => kb b o hb (kS b o hb e))
      · exact base_kept f kB (fun b o hb hc e => kS _ _ (fun z => hb (by rw [z]; simp)) (kw kp1 b o hb hc e))
      · obtain ⟨o, nm, qn, ho, hc, r⟩ := hg
        exact ⟨o, nm, qn, kS _ _ (fun z => hgS (by rw [z]; simp)) (kp1 _ _ (fun z => hgS (List.mem_cons_of_mem _ z)) (fun _ => by rw [hc]; exact fun z => absurd (Value.type.inj z) (by decide)) ho), hc, r⟩
      · rw [List.pairwise_append]
        refine ⟨hpw, List.pairwise_singleton _ _, fun b hb c hc => ?_⟩
        have hc : c = a := by simpa using hc
        subst hc
        obtain ⟨i, hi⟩ := List.mem_iff_getElem?.mp hb
        have hik : i < k := by have := (List.getElem?_eq_some_iff.mp hi).1; omega
        obtain ⟨b', e1, e2⟩ := hsn i _ hik (List.getElem?_eq_getElem (by omega))
        rw [hi] at e1; cases e1
        exact e2.apart sep
      · intro i l' hi e
        by_cases z : i < k
        · obtain ⟨v', e1, e2⟩ := hsn i l' z e
          refine ⟨v', by rw [List.getElem?_append_left (by omega)]; exact e1, (e2.kept wsub kp1).but (by unfold Gp.ws; simp) kS⟩
        · have : i = k := by omega
          subst this
          have e3 : (p.goods 0).length - 1 - (n + 1 - 1) = i := by omega
          rw [e3, e] at hl
          cases hl
          exact ⟨a, by rw [List.getElem?_append_right (by omega), hal, Nat.sub_self]; rfl, sn.but (by unfold Gp.ws; simp) kS⟩
    · exact absurd z.1 (Nat.succ_ne_zero n)
end
end
section
theorem mapSeq_LObj (f : Array Value → Array Value) (items : Array Value) (n : Nat) : ∃ m, Obj.mapSeq f (LObj items n) = LObj (f items) m := ⟨_, rfl⟩
section
variable {prog : Program} {w : World} {A : Around} {p : Gp} {gen gi : Nat} {Q : Value → Shared → Prop} {E : Value → Shared → Prop} {g : Cfg} {h : Heap} {tk : Nat}
theorem list_gen (f : p.Fine) {pr : Program} {loose : List Str} {mg mb : Str → Option Value} (TB : Top0 w.params pr loose mg mb (hideAll p.H0 [p.Ll, p.dxr])) (hA : A.handled = none) (hroom : A.depth < recursionLimit) (hgw : gen ∉ p.wr) (hz : p.lines.length ≤ 1000000) (hS : p.S = h.objs.size) (pt : 0 < tk)
    {gs : GenState} (hgs : g.gens[gi]? = some gs) (hg : h.IsGen gen gi) (kB : (hideAll p.H0 [p.Ll, p.dxr]).StaysIn h)
    (go : ∀ (g' : Cfg) (h' : Heap) (tk' : Nat), 0 < tk' → (∃ o, h'.get? p.S = some o) → h.StaysIn h' → gs.Goes (model prog w) A.in1.in1.in1 (gR p) (gY w.params p) (p.goods 0).length (.send .none) (g'.st h' tk'))
    (hQ : ∀ (g' : Cfg) (h' : Heap) (tk' : Nat) (acc : Array Value) (m : Nat) (as : List Trip), 0 < tk' → (g'.drawn = g.drawn ∧ (BareBut gi g.gens → AllBare g'.gens)) → g'.os = g.os → GEnd p h' → Kept p.H0 p.wr h h' → h.get? p.S = none → h'.get? p.S = some (LObj acc m) → acc.toList = as.map (fun a => Value.ref a.1) → as.length = (p.goods 0).length →
      as.Pairwise (fun a b => ∀ y ∈ a.on, y ∉ b.on) → (∀ (i : Nat) (l : Ln), (p.goods 0)[i]? = some l → ∃ a, as[i]? = some a ∧ SenAt w.params p.H0 p.ws l a h') → Q (.ref p.S) (g'.st h' tk')) :
    wpAny (model prog w) A (call (.type "list") [.ref gen]) Q E (g.st h tk) := by
  have nS : h.get? p.S = none := by rw [hS]; exact not_get_size h
  have hgS : gen ≠ p.S := fun z => by obtain ⟨o, nm, qn, ho, _⟩ := hg; rw [z, nS] at ho; cases ho
  refine callType_codes (Q₁ := fun obj s₁ => obj = .ref p.S ∧ s₁ = g.st (h.push (LObj #[] 0)) tk) PySem.F.called_list (PySem.F.typeCall_list_1 _) PySem.F.entry_list_init
    (code_list_new _ ⟨by rw [hS]; rfl, rfl⟩) fun obj s₁ h₁ => ?_
  obtain ⟨rfl, rfl⟩ := h₁
  have hS0 : (h.push (LObj #[] 0)).get? p.S = some (LObj #[] 0) := by rw [hS]; exact Heap.get?_push_size _ rfl
  refine ⟨⟨_, hS0, rfl⟩, PySem.F.args_list_init_2 _ _, ?_⟩
  show wpAny _ A.in1.in1 (do let old ← Builtin.List.listItems (.ref p.S); Builtin.List.listUpdate (.ref p.S) (fun _ => #[]); letGo old.toList.reverse; Builtin.List.listExtendWith (.ref p.S) (.ref gen) .none) _ _ _
  refine wpAny_bind ?_
  unfold Builtin.List.listItems
  refine wpAny_bind (wpAny_seqItems hS0 rfl (wpAny_pure ?_))
  show wpAny _ A.in1.in1 (updateSeq p.S (fun _ => #[]) >>= fun _ => letGo (#[] : Array Value).toList.reverse >>= fun _ => Builtin.List.listExtendWith (.ref p.S) (.ref gen) .none) _ _ _
  refine wpAny_bind (wpAny_updateSeq hS0 rfl ?_ (by simp [sizeLine_eq]) (by simp [sizeLine_eq]))
  have hS1 := Heap.get?_update_self (Obj.mapSeq (fun _ => (#[] : Array Value))) hS0 rfl
  obtain ⟨m1, e1⟩ := mapSeq_LObj (fun _ => #[]) #[] 0
  rw [e1] at hS1
  have sb1 : Heap.SameBut p.S (h.push (LObj #[] 0)) ((h.push (LObj #[] 0)).update p.S (Obj.mapSeq (fun _ => (#[] : Array Value)))) := Heap.SameBut.update ..
  change wpAny _ _ _ _ _ (g.st ((h.push (LObj #[] 0)).update p.S (Obj.mapSeq (fun _ => (#[] : Array Value)))) tk)
  generalize hh1 : (h.push (LObj #[] 0)).update p.S (Obj.mapSeq (fun _ => (#[] : Array Value))) = h1 at *
  have k1 : ∀ b o, h.get? b = some o → h1.get? b = some o := fun b o e => (sb1.2 b (fun z => by rw [z, nS] at e; cases e)).trans (stays_push _ _ _ e)
  refine wpAny_bind (wpAny_letGo ?_)
  have hg1 : h1.IsGen gen gi := hg.keeps k1
  have hT1 : (g.st h1 tk).TypeIs (.ref gen) "generator" := hg1.typeIs
  unfold Builtin.List.listExtendWith
  refine wpAny_bind (wpAny_typeOf hT1 ?_)
  have c1 : Builtin.List.listSameRef (.ref p.S) (.ref gen) = false := by simp [Builtin.List.listSameRef, Ne.symm hgS]
  have c2 : (Value.type "generator" == Value.type "list") = false := by decide
  have c3 : (Value.type "generator" == Value.type "tuple") = false := by decide
  simp only [c1, c2, c3, Bool.or_false, Bool.false_eq_true, if_false]
  refine wpAny_bind (wpAny_pyIter_gen hg1 ?_)
  refine wpAny_bind (wpAny_holding ?_)
  unfold Builtin.List.listLengthHint
  refine wpAny_bind (wpAny_specialOf hT1 PySem.F.gen_no_len ?_)
  show wpAny _ A.in1.in1 (specialOf (Value.ref gen) (Str.ofString "__length_hint__") >>= _) _ _ _
  refine wpAny_bind (wpAny_specialOf hT1 PySem.F.gen_no_hint ?_)
  refine wpAny_pure ?_
  show wpAny _ A.in1.in1 (rule "list.extend.makes-room" >>= fun _ => Builtin.List.listTouch (.ref p.S) >>= fun _ =>
    again (.builtin "list.extend.loop" ⟨[.ref p.S, .ref gen, .none], []⟩)) _ _ _
  refine wpAny_bind (wpAny_rule ?_)
  refine wpAny_bind ?_
  show wpAny _ A.in1.in1 (updateSeq p.S (·.push .none) >>= fun _ => updateSeq p.S (·.pop)) _ _ _
  refine wpAny_bind (wpAny_updateSeq hS1 rfl ?_ (by simp [sizeLine_eq]) (by simp [sizeLine_eq]))
  have hS2 := Heap.get?_update_self (Obj.mapSeq (·.push Value.none)) hS1 rfl
  obtain ⟨m2, e2⟩ := mapSeq_LObj (·.push Value.none) #[] m1
  rw [e2] at hS2
  refine wpAny_updateSeq hS2 rfl ?_ (by simp [sizeLine_eq]) (by simp [sizeLine_eq])
  have hS3 := Heap.get?_update_self (Obj.mapSeq (·.pop)) hS2 rfl
  obtain ⟨m3, e3⟩ := mapSeq_LObj (·.pop) (#[].push Value.none) m2
  rw [e3] at hS3
  have hS3' : ((h1.update p.S (Obj.mapSeq (·.push Value.none))).update p.S (Obj.mapSeq (·.pop))).get? p.S = some (LObj #[] m3) := by
    rw [hS3]; rfl
  have k3 : ∀ b o, h.get? b = some o → ((h1.update p.S (Obj.mapSeq (·.push Value.none))).update p.S (Obj.mapSeq (·.pop))).get? b = some o := fun b o e => by
    have hb : b ≠ p.S := fun z => by rw [z, nS] at e; cases e
    exact (Heap.get?_update_other _ _ (Ne.symm hb)).trans ((Heap.get?_update_other _ _ (Ne.symm hb)).trans (k1 _ _ e))
  change wpAny _ _ _ _ _ (g.st ((h1.update p.S (Obj.mapSeq (·.push Value.none))).update p.S (Obj.mapSeq (·.pop))) tk)
  generalize (h1.update p.S (Obj.mapSeq (·.push Value.none))).update p.S (Obj.mapSeq (·.pop)) = h3 at *
  refine wpAny_pure ⟨plainId_quiet PySem.F.plain_extend_loop _, ?_⟩
  refine ext_loop (A := A.in1) (gi := gi) (hs := h3) (gs0 := g) f TB hA hroom (by simp [hgS, hgw]) hz (fun g' h' tk' acc m as p1 d1 d2 ge kp eS hac hal hpw hsn => ⟨rfl, hQ g' h' tk' acc m as p1 d1 d2 ge (fun b o hb hc e => kp b o (fun z => ?_) hc (k3 _ _ e)) nS eS hac hal hpw hsn⟩)
    (p.goods 0).length 0 g h3 tk gs #[] m3 [] (by omega) pt hgs ⟨rfl, fun b => b⟩ rfl (fun g' h' tk' p' sx kb => go g' h' tk' p' sx (fun b o e => kb _ _ (fun z => by rw [z, nS] at e; cases e) (k3 _ _ e))) (stays_trans kB k3) (hg.keeps k3) (fun _ _ _ _ e => e) hS3' rfl rfl .nil (fun i l hi => absurd hi (by omega))
  rcases List.mem_cons.mp z with z | z
  · rw [z, nS] at e; cases e
  · exact hb z
end
end
section
/-! more rules for the law's own body -/
section
variable {M : Model} {prog : Program} {w : World} {A : Around} {c : Cfg} {h : Heap} {E : Value → Heap → Prop} {env : Env} {pos : Pos}
theorem dc_while {test : Expr} {body : List Stmt} {R : Result → Heap → Prop} (Inv : Nat → Heap → Prop)
    (turn : ∀ n h, Inv n h → D (model prog w) A c (isTrue test env (eval test env)) h (fun b h₁ => if b = true then D (model prog w) A c (execs body env) h₁ (fun f h₂ => match f with
        | .next | .cont => ∃ m, m < n ∧ Inv m h₂
        | .brk => R (.ok .next) h₂
        | .ret v => R (.ok (.ret v)) h₂) (fun _ _ => False) else R (.ok .next) h₁) (fun _ _ => False)) (n : Nat) (h0 : Inv n h) : DC (model prog w) A c (.whileLoop test body [] env) h R := ⟨fun tk p => by
  refine codeAny_whileLoop (I := fun n s => ∃ h tk, 0 < tk ∧ s = c.st h tk ∧ Inv n h) ?_ n ⟨h, tk, p, rfl, h0⟩
  rintro n s ⟨h, tk, p, rfl, iv⟩
  refine wpAny_mono ((turn n h iv).run tk p) (fun b s z => ?_) fun _ _ z => by obtain ⟨_, _, _, _, z⟩ := z; exact z.elim
  obtain ⟨h₁, tk₁, p₁, rfl, z⟩ := z
  cases b with
  | false => exact wpAny_execs_nil (.mk p₁ z)
  | true =>
    refine wpAny_mono (z.run tk₁ p₁) (fun f s z => ?_) fun _ _ z => by obtain ⟨_, _, _, _, z⟩ := z; exact z.elim
    obtain ⟨h₂, tk₂, p₂, rfl, z⟩ := z
    cases f with
    | next => obtain ⟨m, hm, iv'⟩ := z; exact ⟨m, hm, h₂, tk₂, p₂, rfl, iv'⟩
    | cont => obtain ⟨m, hm, iv'⟩ := z; exact ⟨m, hm, h₂, tk₂, p₂, rfl, iv'⟩
    | brk => exact .mk p₂ z
    | ret v => exact .mk p₂ z⟩
theorem d_bor {e₁ e₂ : Expr} {rest : List Expr} {Q : Value → Heap → Prop} (k : D M A c (eval e₁ env) h (fun v h₁ => D M A c (truthy v) h₁ (fun b h₂ => if b = true then Q v h₂ else D M A c (eval (.BoolOp .Or (e₂ :: rest) pos) env) h₂ Q E) E) E) :
    D M A c (eval (.BoolOp .Or (e₁ :: e₂ :: rest) pos) env) h Q E := ⟨fun tk p => BoolOp_or (wpAny_mono (k.run tk p) (fun v s ⟨h₁, t₁, p₁, e₁, q₁⟩ => by
      subst e₁
      exact wpAny_mono (q₁.run t₁ p₁) (fun b s ⟨h₂, t₂, p₂, e₂, q₂⟩ => by
        subst e₂
        cases b
        · exact q₂.run t₂ p₂
        · exact .mk p₂ q₂) fun _ _ z => z) fun _ _ z => z)⟩
theorem d_truthyList {l : Addr} {items : Array Value} {Q : Bool → Heap → Prop} (hl : h.IsList l items) (hz : items.size ≤ 16000000) (q : Q (items.size != 0) h) : D (model prog w) A c (truthy (.ref l)) h Q E := ⟨fun tk p =>
  wpAny_truthy_list (s := c.st h tk) hl (by omega) (.mk (Nat.succ_pos _) (by
    have e : ((items.size : Int) != 0) = (items.size != 0) := by
      cases hz : items.size with
      | zero => rfl
      | succ n => simp; omega
    first | exact q | (rw [e]; exact q)))⟩
theorem d_chr {k : Nat} {t : Tok} {Q : Value → Heap → Prop} (hk : k < 1000000) (q : ∀ t, Q (.str (S [k]) t) h) : D (model prog w) A c (call (.builtin "chr") [.int k t]) h Q E := ⟨fun tk p =>
  P.chr_of_int (s := c.st h tk) (by simp; omega) (.mk (Nat.succ_pos _) (q tk))⟩
theorem d_strItem {value slice : Expr} {x : List Nat} {t u : Tok} {i : Int} {j k : Nat} {Q : Value → Heap → Prop} (hi : i = j) (hj : x[j]? = some k) (hz : x.length ≤ 1000000) (q : ∀ t, Q (.str (S [k]) t) h)
    (hs : subscripted slice false (.str (S x) t) (.int i u) = operate [.str (S x) t, .int i u] (getItem (.str (S x) t) (.int i u)) := by with_unfolding_all rfl) : D (model prog w) A c (subscriptTail value slice (.str (S x) t) (.int i u)) h Q E := d_of0 fun tk p => by
  subst hi
  have hjl : j < x.length := (List.getElem?_eq_some_iff.mp hj).1
  refine tail_any (s := c.st h tk) (typeIs_str _ _ _) F.slot_str_getitem.lookup (P.getItem_str (c := k) (by simp; omega) ?_ ⟨h, _, rfl, q _⟩) hs
  unfold seqIndex?
  rw [S_len]
  have e : ¬ ((j : Int) < 0) := by omega
  simp only [e, if_false]
  rw [if_pos (by simp; omega)]
  show (S x).cps[((j : Int)).toNat]? = some k
  simp [S, hj]
theorem d_dict1 {key : Str} {kk : Nat} {kp vp dp : Pos} {v : Str} {a : Value} {Q : Value → Heap → Prop} (hv : ∀ h', h.StaysIn h' → D (model prog w) A c (eval (.Name v vp) env) h' (fun x h₁ => x = a ∧ h₁ = h') (fun _ _ => False))
    (q : ∀ h' D, h.StaysIn h' → h.get? D = none → h'.DictOf (strKind prog w) D [(key, a)] → Q (.ref D) h') : D (model prog w) A c (eval (.Dict [some (.Constant (.str key) kk kp)] [.Name v vp] dp) env) h Q E := ⟨fun tk p => by
  refine wpAny_Dict_walk (knd := strKind prog w) rfl rfl (by simp) (by simp) ?_
  show wpAny _ A (evalPairs [(eval (.Constant (.str key) kk kp) env, do let x ← eval (.Name v vp) env; standAt dp; pure x)]) _ _ _
  refine evalPairs_cons (wpAny_Constant_str ?_)
  refine wpAny_bind (wpAny_mono ((hv (h.push { cls := .type "dict", data := .dict #[] }) (stays_push _)).run (tk + 1) (Nat.succ_pos _)) (fun x s z => ?_) fun _ _ z => by obtain ⟨_, _, _, _, z⟩ := z; exact z.elim)
  obtain ⟨h₁, tk₁, p₁, rfl, rfl, rfl⟩ := z
  refine wpAny_bind (wpAny_standAt (wpAny_pure ?_))
  refine evalPairs_nil ?_
  refine ⟨[(key, x)], ⟨strKind_is prog w key tk, rfl, trivial⟩, Heap.DictOf.new h, fun h' hd sb => ?_⟩
  exact .mk (h := h') (by show 0 < tk₁ + 1; omega) (q h' h.objs.size (fun b o e => (sb.2 b (Nat.ne_of_lt (Heap.lt_size e))).trans (stays_push _ _ _ e)) (not_get_size h) hd)⟩
end
/-! equal and unequal -/
section
variable {prog : Program} {w : World} {A : Around} {c : Cfg} {h : Heap} {E : Value → Heap → Prop} {Q : Value → Heap → Prop} {a b : Addr} {xs ys : Array Value} {g : Array GenState} {d : Drawn} {os : OsState}
def EqT (A : Around) (h : Heap) (x y : Value) : Prop := ∀ s : Shared, s.heap = h → SeqAt.EqAt A s x y true
theorem EqT.str {l : List Nat} {t u : Tok} : EqT A h (.str (S l) t) (.str (S l) u) := fun s _ => by
  have := SeqAt.EqAt.str_str (A := A) (s := s) (S l) t (S l) u
  rw [show (S l == S l) = true by simp] at this; exact this
theorem all_true (n : Nat) : (List.range n).all (fun _ => true) = true := by simp
theorem RcT.list (ha : h.IsList a xs) (hb : h.IsList b ys) (hz : xs.size = ys.size) (hu : A.units < cLine) (he : ∀ (j : Nat) (x y : Value), xs[j]? = some x → ys[j]? = some y → EqT A.in1 h x y) : ∀ s : Shared, s.heap = h → SeqAt.RcAt A s (.ref a) (.ref b) true ∧ SeqAt.RcNeAt A s (.ref a) (.ref b) false := fun s e => by
  subst e
  have he' : ∀ j (h1 : j < xs.size) (h2 : j < ys.size), SeqAt.EqAt A.in1 s xs[j] ys[j] true := fun j h1 h2 => he j _ _ (Array.getElem?_eq_getElem h1) (Array.getElem?_eq_getElem h2) s rfl
  have r1 := SeqAt.RcAt.lists (e := fun _ => true) ha hb hz hu he'
  have r2 := SeqAt.RcNeAt.lists (e := fun _ => true) ha hb hz hu he'
  rw [all_true] at r1 r2
  exact ⟨r1, r2⟩
theorem RcT.tup (ha : h.IsTuple a xs) (hb : h.IsTuple b ys) (hz : xs.size = ys.size) (hu : A.units < cLine) (he : ∀ (j : Nat) (x y : Value), xs[j]? = some x → ys[j]? = some y → EqT A.in1 h x y) : ∀ s : Shared, s.heap = h → SeqAt.RcAt A s (.ref a) (.ref b) true ∧ SeqAt.RcNeAt A s (.ref a) (.ref b) false := fun s e => by
  subst e
  have he' : ∀ j (h1 : j < xs.size) (h2 : j < ys.size), SeqAt.EqAt A.in1 s xs[j] ys[j] true := fun j h1 h2 => he j _ _ (Array.getElem?_eq_getElem h1) (Array.getElem?_eq_getElem h2) s rfl
  have r1 := SeqAt.RcAt.tuples (e := fun _ => true) ha hb hu he'
  have r2 := SeqAt.RcNeAt.tuples (e := fun _ => true) ha hb hu he'
  rw [all_true, hz, beq_self_eq_true, Bool.true_and] at r1 r2
  exact ⟨r1, r2⟩
theorem EqT.tup (ha : h.IsTuple a xs) (hb : h.IsTuple b ys) (hz : xs.size = ys.size) (hu : A.units < cLine) (he : ∀ (j : Nat) (x y : Value), xs[j]? = some x → ys[j]? = some y → EqT A.in1 h x y) : EqT A h (.ref a) (.ref b) := fun s e => by
  by_cases z : a = b
  · subst z; exact SeqAt.EqAt.same _
  · exact SeqAt.EqAt.of_refs z (RcT.tup ha hb hz hu he s e).1
theorem strs_eqT {vs us : List Value} {ls : List (List Nat)} (h1 : Strs vs ls) (h2 : Strs us ls) : ∀ (j : Nat) (x y : Value), vs.toArray[j]? = some x → us.toArray[j]? = some y → EqT A h x y := fun j x y e1 e2 => by
  rw [List.getElem?_toArray] at e1 e2
  have hj : j < ls.length := by rw [← h1.1]; exact (List.getElem?_eq_some_iff.mp e1).1
  obtain ⟨t, q1⟩ := h1.2 j _ (List.getElem?_eq_getElem hj)
  obtain ⟨u, q2⟩ := h2.2 j _ (List.getElem?_eq_getElem hj)
  rw [e1] at q1; rw [e2] at q2
  cases q1; cases q2
  exact EqT.str
theorem d_neRc (r : ∀ s : Shared, s.heap = h → SeqAt.RcNeAt A s (.ref a) (.ref b) false) (q : Q (.bool false) h) : D (model prog w) A c (compareOp .NotEq (.ref a) (.ref b)) h Q E := ⟨fun tk p => r (c.st h tk) rfl prog w _ _ (.mk p q)⟩
theorem d_eqRc (r : ∀ s : Shared, s.heap = h → SeqAt.RcAt A s (.ref a) (.ref b) true) (q : Q (.bool true) h) : D (model prog w) A c (compareOp .Eq (.ref a) (.ref b)) h Q E := ⟨fun tk p => r (c.st h tk) rfl prog w _ _ (.mk p q)⟩
/-- lists of texts that tell the same -/
theorem d_neStrs {ls : List (List Nat)} (ha : h.IsList a xs) (hb : h.IsList b ys) (h1 : Strs xs.toList ls) (h2 : Strs ys.toList ls) (hu : A.units < cLine) (q : Q (.bool false) h) : D (model prog w) A c (compareOp .NotEq (.ref a) (.ref b)) h Q E :=
  d_neRc (fun s e => (RcT.list ha hb (by rw [← Array.length_toList, ← Array.length_toList, h1.1, h2.1]) hu (by
    have := strs_eqT (A := A.in1) (h := h) h1 h2
    simpa using this) s e).2) q
theorem d_neStrsT {ls : List (List Nat)} (ha : h.IsTuple a xs) (hb : h.IsTuple b ys) (h1 : Strs xs.toList ls) (h2 : Strs ys.toList ls) (hu : A.units < cLine) (q : Q (.bool false) h) : D (model prog w) A c (compareOp .NotEq (.ref a) (.ref b)) h Q E :=
  d_neRc (fun s e => (RcT.tup ha hb (by rw [← Array.length_toList, ← Array.length_toList, h1.1, h2.1]) hu (by
    have := strs_eqT (A := A.in1) (h := h) h1 h2
    simpa using this) s e).2) q
end
/-! runs: a last part that may leave the settings changed -/
def Run {α : Type} (M : Model) (A : Around) (c : Cfg) (t : Sem α) (h : Heap) (QS : α → Shared → Prop) (ES : Value → Shared → Prop) : Prop := ∀ tk, 0 < tk → wpAny M A t QS ES (c.st h tk)
section
variable {α β : Type} {M : Model} {prog : Program} {w : World} {A : Around} {c : Cfg} {h : Heap} {ES : Value → Shared → Prop} {env : Env} {pos : Pos}
theorem run_d {t : Sem α} {QS : α → Shared → Prop} (k : D M A c t h (fun a h' => ∀ tk, 0 < tk → QS a (c.st h' tk)) (fun _ _ => False)) : Run M A c t h QS ES := fun tk p =>
  wpAny_mono (k.run tk p) (fun _ _ z => by obtain ⟨h', tk', p', rfl, q⟩ := z; exact q tk' p') fun _ _ z => by obtain ⟨_, _, _, _, z⟩ := z; exact z.elim
/-- a first part that D tells, then the run -/
theorem run_then {t : Sem α} {f : α → Sem β} {QS : β → Shared → Prop} (k : D M A c t h (fun a h' => Run M A c (f a) h' QS ES) (fun _ _ => False)) : Run M A c (t >>= f) h QS ES := fun tk p =>
  wpAny_bind ((run_d (QS := fun a s => wpAny M A (f a) QS ES s) (d_conseq k fun a h' z tk' p' => z tk' p')) tk p)
theorem run_cons {st : Stmt} {rest : List Stmt} {QS : Flow → Shared → Prop} (k : D M A c (exec st env) h (fun f h' => f = .next ∧ Run M A c (execs rest env) h' QS ES) (fun _ _ => False)) : Run M A c (execs (st :: rest) env) h QS ES := fun tk p =>
  wpAny_execs_cons ((run_d (QS := fun f s => match f with | .next => wpAny M A (execs rest env) QS ES s | f => QS f s) (d_conseq k fun f h' z tk' p' => by obtain ⟨rfl, z⟩ := z; exact z tk' p')) tk p)
theorem run_consR {st : Stmt} {rest : List Stmt} {QS : Flow → Shared → Prop} (k : Run M A c (exec st env) h (fun f s => f = .next ∧ wpAny M A (execs rest env) QS ES s) ES) : Run M A c (execs (st :: rest) env) h QS ES := fun tk p =>
  wpAny_execs_cons (wpAny_mono (k tk p) (fun f s z => by obtain ⟨rfl, z⟩ := z; exact z) fun _ _ z => z)
theorem run_nil {QS : Flow → Shared → Prop} (q : ∀ tk, 0 < tk → QS .next (c.st h tk)) : Run M A c (execs [] env) h QS ES := fun tk p => wpAny_execs_nil (q tk p)
theorem run_aug {x : Str} {pos' : Pos} {op : Operator} {value : Expr} {QS : Flow → Shared → Prop}
    (k : D (model prog w) A c (loadName env x) h (fun old h₁ => Run (model prog w) A c (eval value env) h₁ (fun v s₂ => wpAny (model prog w) A (inplaceOp op old v) (fun r s₃ => wpAny (model prog w) A (storeName env x r) (fun _ => QS .next) ES s₃) ES s₂) ES) (fun _ _ => False)) : Run (model prog w) A c (exec (.AugAssign (.Name x pos') op value pos) env) h QS ES := fun tk p =>
  wpAny_AugAssign_Name ((run_d (QS := fun old s₁ => wpAny (model prog w) A (eval value env) (fun v s₂ => wpAny (model prog w) A (inplaceOp op old v) (fun r s₃ => wpAny (model prog w) A (storeName env x r) (fun _ => QS .next) ES s₃) ES s₂) ES s₁) (d_conseq k fun a h' z tk' p' => z tk' p')) tk p)
theorem run_callT {fn : Expr} {e : Expr} {T : String} {QS : Value → Shared → Prop} (kf : D (model prog w) A c (eval fn env) h (fun v h' => v = .type T ∧ h' = h) (fun _ _ => False))
    (k : Run (model prog w) A c (eval e env) h (fun v s => wpAny (model prog w) A (call (.type T) [v]) QS ES s) ES)
    (he : eval (.Call fn [e] [] pos) env = (do callWith pos (← eval fn env) [] (backTo pos (starEach [e] env)) []) := by rfl) (hs : starEach [e] env = [(false, eval e env)] := by rfl) : Run (model prog w) A c (eval (.Call fn [e] [] pos) env) h QS ES := by
  rw [he]
  refine run_then (d_conseq kf fun v h' z => ?_)
  obtain ⟨rfl, rfl⟩ := z
  intro tk p
  refine PySem.callWith_type (by rw [hs]; rfl) ?_
  rw [hs]
  refine Calls.evalArgs_plain (Calls.spliced_cons (wpAny_mono (k tk p) (fun v s z => Calls.spliced_nil z) fun _ _ z => z))
theorem run_mcall {o : Expr} {name : Str} {apos : Pos} {args : List Expr} {pl : Sem Bool} {QS : Value → Shared → Prop}
    (k : D M A c (eval o env) h (fun ov h₁ => D M A c (getMethod ov name pl) h₁ (fun fx h₂ => Run M A c (callWith pos fx.1 fx.2 (backTo pos (starEach args env)) (backToKw pos (keywordEach [] env))) h₂ QS ES) (fun _ _ => False)) (fun _ _ => False))
    (he : eval (.Call (.Attribute o name apos) args [] pos) env = (do
      let ov ← eval o env
      standAt apos.atName
      let (f, first) ← holding [ov] (getMethod ov name pl)
      callWith pos f first (backTo pos (starEach args env)) (backToKw pos (keywordEach [] env))) := by rfl) : Run M A c (eval (.Call (.Attribute o name apos) args [] pos) env) h QS ES := fun tk p =>
  methodCall_KW ((run_d (QS := fun ov s₁ => wpAny M A (getMethod ov name pl) (fun fx s₂ => wpAny M A (callWith pos fx.1 fx.2 (backTo pos (starEach args env)) (backToKw pos (keywordEach [] env))) QS ES s₂) ES s₁)
    (d_conseq k fun ov h₁ z tk₁ p₁ => run_d (QS := fun fx s₂ => wpAny M A (callWith pos fx.1 fx.2 (backTo pos (starEach args env)) (backToKw pos (keywordEach [] env))) QS ES s₂) (d_conseq z fun fx h₂ z2 tk₂ p₂ => z2 tk₂ p₂) tk₁ p₁)) tk p) he
theorem run_withK {K : Frag} {f : Value} {first : List Value} {args : List Expr} {QS : Value → Shared → Prop} (hk : keepIn K f = true) (k : D M A c (spliced (backTo pos (starEach args env))) h (fun vs h' => K.In h' ∧ Run M A c (call f (first ++ vs)) h' QS ES) (fun _ _ => False)) (hp : (starEach args env).any (·.1) = false := by rfl) :
    Run M A c (callWith pos f first (backTo pos (starEach args env)) []) h QS ES := fun tk p =>
  callWith_of (by rw [any_backTo hp]; rfl) (keeps_K hk) (wpAny_mono ((d_args (Q := fun a h' => K.In h' ∧ a.kw = [] ∧ Run M A c (call f (first ++ a.pos)) h' QS ES) hp (d_conseq k fun vs h' z => ⟨z.1, rfl, z.2⟩)).run tk p) (fun a s' ⟨h', tk', p', e, x, ek, q⟩ => by subst e; rw [ek]; exact ⟨x, q tk' p'⟩) fun _ _ z => by obtain ⟨_, _, _, _, z⟩ := z; exact z.elim)
end
end
section
/-! the plain law -/
abbrev Tn := Int × List Int
def cnt (n : Int) : Nat := ((n.fdiv 7).fmod 3).toNat + 1
def turnsF : Nat → List Int → List Tn
  | 0, _ => []
  | _ + 1, [] => []
  | f + 1, n :: r => (n, (n :: r).take (cnt n)) :: turnsF f ((n :: r).drop (cnt n))
def Tn.ta (t : Tn) : List Nat := match (t.1.fmod 3).toNat with | 0 => sg "YX" | 1 => sg "II" | _ => sg "WI"
def xyz : List (List Nat) := [sg "x", sg "y", sg "z"]
def Tn.words (t : Tn) : List (List Nat) := (t.2.map rd).flatten ++ xyz.take ((t.1.fdiv 2).fmod 4).toNat
def Tn.body0 (t : Tn) : List Nat := jn 44 t.words
def Tn.said0 (t : Tn) : List Nat := t.ta ++ sg "XDR," ++ t.body0
def Tn.struck (t : Tn) : Bool := t.1.fmod 5 == 4
def Tn.place (t : Tn) : Nat := ((t.1.fdiv 3).fmod t.body0.length).toNat
def Tn.bit (t : Tn) : Nat := if (t.1.fdiv 5).fmod 2 == 0 then 1 else 16
def strike (x : List Nat) (i b : Nat) : List Nat := x.take i ++ [x.getD i 0 ^^^ b] ++ x.drop (i + 1)
def Tn.body (t : Tn) : List Nat := if t.struck then strike t.body0 t.place t.bit else t.body0
def Tn.ln (t : Tn) : Ln := ⟨t.1.fmod 2 == 0, t.ta, t.body, xs t.said0⟩
def logOf (ts : List Tn) : List Nat := (ts.map fun t => t.ln.text ++ [10]).flatten
def askedOf (ts : List Tn) : List Tn := ts.filter fun t => !t.struck
/-- the signs of words -/
def al : List Nat := sg "-.0123456789CPAGBDTxyz"
theorem typ_ok (n : Int) : (∀ c ∈ typ n, c ∈ al) ∧ (typ n).length ≤ 5 := by
  unfold typ; split <;> decide +kernel
theorem uni_ok (n : Int) : (∀ c ∈ uni n, c ∈ al) ∧ (uni n).length ≤ 5 := by
  unfold uni; split <;> decide +kernel
theorem txt_ok : ∀ k : Nat, k < 200 → (∀ c ∈ txt ((k : Int) - 50), c ∈ al) ∧ (txt ((k : Int) - 50)).length ≤ 3 := by decide +kernel
theorem txt_ok1 : ∀ k : Nat, k < 10 → (∀ c ∈ txt (k : Int), c ∈ al) ∧ (txt (k : Int)).length ≤ 1 := by decide +kernel
theorem val_ok (n : Int) : (∀ c ∈ val n, c ∈ al) ∧ (val n).length ≤ 5 := by
  have b1 := fmod_bd n (b := 200) (by decide)
  have b2 := fmod_bd (n.fdiv 3) (b := 10) (by decide)
  obtain ⟨k, hk⟩ : ∃ k : Nat, n.fmod 200 = k := ⟨(n.fmod 200).toNat, by omega⟩
  obtain ⟨j, hj⟩ : ∃ j : Nat, (n.fdiv 3).fmod 10 = j := ⟨((n.fdiv 3).fmod 10).toNat, by omega⟩
  have a := txt_ok k (by omega)
  have b := txt_ok1 j (by omega)
  unfold val
  rw [hk, hj]
  have d : ∀ c ∈ sg ".", c ∈ al := by decide +kernel
  have e : (sg ".").length = 1 := rfl
  refine ⟨fun c hc => ?_, by simp only [List.length_append]; omega⟩
  simp only [List.mem_append] at hc
  rcases hc with (hc | hc) | hc
  · exact a.1 c hc
  · exact d c hc
  · exact b.1 c hc
theorem idn_ok (n : Int) : (∀ c ∈ idn n, c ∈ al) ∧ (idn n).length ≤ 5 := by
  have b2 := fmod_bd (n.fdiv 5) (b := 3) (by decide)
  obtain ⟨j, hj⟩ : ∃ j : Nat, (n.fdiv 5).fmod 3 = j := ⟨((n.fdiv 5).fmod 3).toNat, by omega⟩
  have b := txt_ok1 j (by omega)
  unfold idn
  rw [hj]
  have d : ∀ c ∈ sg "T", c ∈ al := by decide +kernel
  have e : (sg "T").length = 1 := rfl
  refine ⟨fun c hc => ?_, by simp only [List.length_append]; omega⟩
  rcases List.mem_append.mp hc with hc | hc
  · exact d c hc
  · exact b.1 c hc
theorem rd_ok (n : Int) : ∀ x ∈ rd n, (∀ c ∈ x, c ∈ al) ∧ x.length ≤ 5 := by
  intro x hx
  unfold rd at hx
  simp only [List.mem_cons, List.not_mem_nil, or_false] at hx
  rcases hx with rfl | rfl | rfl | rfl
  · exact typ_ok n
  · exact val_ok n
  · exact uni_ok n
  · exact idn_ok n
theorem xyz_ok : ∀ x ∈ xyz, (∀ c ∈ x, c ∈ al) ∧ x.length ≤ 5 := by decide +kernel
theorem words_ok (t : Tn) : ∀ x ∈ t.words, (∀ c ∈ x, c ∈ al) ∧ x.length ≤ 5 := by
  intro x hx
  unfold Tn.words at hx
  rcases List.mem_append.mp hx with hx | hx
  · obtain ⟨l, hl, hx⟩ := List.mem_flatten.mp hx
    obtain ⟨n, _, rfl⟩ := List.mem_map.mp hl
    exact rd_ok n x hx
  · exact xyz_ok x (List.mem_of_mem_take hx)
theorem rd_len (n : Int) : (rd n).length = 4 := rfl
theorem flat_len (ns : List Int) : ((ns.map rd).flatten).length = 4 * ns.length := by
  induction ns with
  | nil => rfl
  | cons n r ih => rw [List.map_cons, List.flatten_cons, List.length_append, ih, rd_len, List.length_cons]; omega
theorem words_len (t : Tn) : 4 * t.2.length ≤ t.words.length ∧ t.words.length ≤ 4 * t.2.length + 3 := by
  unfold Tn.words
  rw [List.length_append, flat_len, List.length_take]
  have : xyz.length = 3 := rfl
  omega
theorem jn_mem {c : Nat} : ∀ {ps : List (List Nat)} {k : Nat}, k ∈ jn c ps → k = c ∨ ∃ x ∈ ps, k ∈ x
  | [], k, h => by cases h
  | [x], k, h => .inr ⟨x, by simp, h⟩
  | x :: y :: r, k, h => by
    rw [jn_cons (by simp)] at h
    rcases List.mem_append.mp h with h | h
    · exact .inr ⟨x, by simp, h⟩
    · rcases List.mem_cons.mp h with h | h
      · exact .inl h
      · rcases jn_mem h with h | ⟨z, hz, h⟩
        · exact .inl h
        · exact .inr ⟨z, List.mem_cons_of_mem _ hz, h⟩
def al2 : List Nat := 44 :: al
theorem body0_ok (t : Tn) : ∀ c ∈ t.body0, c ∈ al2 := fun c hc => by
  rcases jn_mem hc with h | ⟨x, hx, h⟩
  · subst h; simp [al2]
  · exact List.mem_cons_of_mem _ ((words_ok t x hx).1 c h)
theorem sum_le {ps : List (List Nat)} (h : ∀ x ∈ ps, x.length ≤ 5) : (ps.map List.length).sum ≤ 5 * ps.length := by
  induction ps with
  | nil => simp
  | cons x r ih =>
    have := ih fun y hy => h y (List.mem_cons_of_mem _ hy)
    have := h x (by simp)
    simp only [List.map_cons, List.sum_cons, List.length_cons]
    omega
theorem body0_len (t : Tn) : t.body0.length ≤ 6 * t.words.length := by
  have h1 := jn_len 44 t.words
  have h2 := sum_le fun x hx => (words_ok t x hx).2
  unfold Tn.body0
  omega
theorem strike_len {x : List Nat} {i b : Nat} (h : i < x.length) : (strike x i b).length = x.length := by
  unfold strike
  simp only [List.length_append, List.length_take, List.length_drop, List.length_singleton]
  omega
theorem body0_pos {t : Tn} (h : t.2 ≠ []) : 0 < t.body0.length := by
  have hw := (words_len t).1
  have h2 : 0 < t.2.length := List.length_pos_iff.mpr h
  obtain ⟨x, y, r, e⟩ : ∃ x y r, t.words = x :: y :: r := by
    match hh : t.words with
    | [] => rw [hh] at hw; simp at hw; omega
    | [a] => rw [hh] at hw; simp at hw; omega
    | x :: y :: r => exact ⟨x, y, r, rfl⟩
  unfold Tn.body0
  rw [e, jn_cons (by simp), List.length_append, List.length_cons]
  omega
theorem place_lt {t : Tn} (h : t.2 ≠ []) : t.place < t.body0.length := by
  have := body0_pos h
  have b := fmod_bd (t.1.fdiv 3) (b := (t.body0.length : Int)) (by omega)
  unfold Tn.place
  omega
theorem body_len {t : Tn} (h : t.2 ≠ []) : t.body.length = t.body0.length := by
  unfold Tn.body
  split
  · exact strike_len (place_lt h)
  · rfl
theorem bit_is (t : Tn) : t.bit = 1 ∨ t.bit = 16 := by unfold Tn.bit; split <;> simp
theorem al_xor : ∀ c ∈ al2, ∀ b ∈ [1, 16], c ^^^ b ≠ 42 ∧ c ^^^ b ≠ 10 ∧ c ^^^ b < 128 := by decide +kernel
theorem al_plain : ∀ c ∈ al2, c ≠ 42 ∧ c ≠ 10 ∧ c < 128 := by decide +kernel
theorem al_word : 44 ∉ al := by decide +kernel
theorem body_ok {t : Tn} (h : t.2 ≠ []) : ∀ c ∈ t.body, c ≠ 42 ∧ c ≠ 10 ∧ c < 128 := by
  intro c hc
  unfold Tn.body at hc
  split at hc
  · unfold strike at hc
    simp only [List.mem_append, List.mem_singleton] at hc
    have hm : t.body0.getD t.place 0 ∈ t.body0 := by
      rw [List.getD_eq_getElem?_getD, List.getElem?_eq_getElem (place_lt h)]
      exact List.getElem_mem _
    rcases hc with (hc | hc) | hc
    · exact al_plain c (body0_ok t c (List.mem_of_mem_take hc))
    · rw [hc]
      exact al_xor _ (body0_ok t _ hm) _ (by rcases bit_is t with z | z <;> simp [z])
    · exact al_plain c (body0_ok t c (List.mem_of_mem_drop hc))
  · exact al_plain c (body0_ok t c hc)
theorem xs_append (a b : List Nat) : xs (a ++ b) = xs a ^^^ xs b := by
  unfold xs
  rw [List.foldl_append]
  have key : ∀ (l : List Nat) (z : Nat), l.foldl (· ^^^ ·) z = z ^^^ l.foldl (· ^^^ ·) 0 := by
    intro l
    induction l with
    | nil => intro z; simp
    | cons x r ih =>
      intro z
      rw [List.foldl_cons, List.foldl_cons, ih (z ^^^ x), ih (0 ^^^ x), Nat.zero_xor, Nat.xor_assoc]
  exact key b _
theorem xs_lt : ∀ {x : List Nat}, (∀ c ∈ x, c < 128) → xs x < 128 := by
  intro x
  induction x with
  | nil => intro _; decide
  | cons a r ih =>
    intro h
    rw [show a :: r = [a] ++ r from rfl, xs_append]
    have h1 : xs [a] < 2 ^ 7 := by
      have := h a (by simp)
      unfold xs; simpa using this
    have h2 : xs r < 2 ^ 7 := ih fun c hc => h c (List.mem_cons_of_mem _ hc)
    exact Nat.xor_lt_two_pow h1 h2
theorem xs_strike {x : List Nat} {i b : Nat} (h : i < x.length) : xs (strike x i b) = xs x ^^^ b := by
  have e : x = x.take i ++ [x.getD i 0] ++ x.drop (i + 1) := by
    have : x.getD i 0 = x[i] := by rw [List.getD_eq_getElem?_getD, List.getElem?_eq_getElem h]; rfl
    rw [this, List.append_assoc, List.singleton_append, ← List.drop_eq_getElem_cons h, List.take_append_drop]
  unfold strike
  conv => rhs; rw [e]
  rw [xs_append, xs_append, xs_append, xs_append]
  have : xs [x.getD i 0 ^^^ b] = xs [x.getD i 0] ^^^ b := by unfold xs; simp
  rw [this]
  rw [Nat.xor_assoc, Nat.xor_assoc, Nat.xor_assoc, Nat.xor_assoc, Nat.xor_comm b]
theorem ta_mem (t : Tn) : t.ta ∈ talkers := by unfold Tn.ta; split <;> decide
theorem talk_lt : ∀ a ∈ talkers, ∀ c ∈ a, c < 128 ∧ c ≠ 10 := by decide +kernel
theorem xdr_lt : ∀ c ∈ sg "XDR,", c < 128 ∧ c ≠ 10 := by decide +kernel
theorem head_lt (t : Tn) : ∀ c ∈ t.ta ++ sg "XDR,", c < 128 ∧ c ≠ 10 := fun c hc => by
  rcases List.mem_append.mp hc with h | h
  · exact talk_lt _ (ta_mem t) c h
  · exact xdr_lt c h
theorem said0_lt (t : Tn) : xs t.said0 < 128 := xs_lt fun c hc => by
  rcases List.mem_append.mp hc with h | h
  · exact (head_lt t c h).1
  · exact (al_plain c (body0_ok t c h)).2.2
theorem ln_ok {t : Tn} (h : t.2 ≠ []) (hl : t.2.length ≤ 3) : t.ln.Ok where
  tk := ta_mem t
  nostar := fun z => (body_ok h 42 z).1 rfl
  len := by
    show t.body.length ≤ 1000
    rw [body_len h]
    have h1 := body0_len t
    have h2 := words_len t
    omega
  nn := by have := said0_lt t; show xs t.said0 < 256; omega
  xx := by
    have : xs (t.ta ++ sg "XDR," ++ t.body) < 128 := xs_lt fun c hc => by
      rcases List.mem_append.mp hc with z | z
      · exact (head_lt t c z).1
      · exact (body_ok h c z).2.2
    show xs (t.ta ++ sg "XDR," ++ t.body) < 256
    omega
theorem ln_good {t : Tn} (h : t.2 ≠ []) : t.ln.good = !t.struck := by
  unfold Ln.good Tn.ln
  dsimp only
  unfold Tn.said0 Tn.body
  cases hs : t.struck
  · simp
  · simp only [if_true, Bool.not_true]
    rw [xs_append, xs_append (t.ta ++ sg "XDR,"), xs_strike (place_lt h)]
    rw [← Nat.xor_assoc]
    have hb : t.bit ≠ 0 := by rcases bit_is t with z | z <;> omega
    rw [beq_eq_false_iff_ne]
    intro z
    have := congrArg (fun y => (xs (t.ta ++ sg "XDR,") ^^^ xs t.body0) ^^^ y) z
    simp only [Nat.xor_self, ← Nat.xor_assoc, Nat.zero_xor] at this
    exact hb this.symm
theorem spl_words {t : Tn} (h : t.2 ≠ []) : spl 44 t.body0 = t.words := by
  refine spl_jn (fun z => ?_) (fun x hx z => al_word ((words_ok t x hx).1 44 z))
  have h1 := (words_len t).1
  rw [z] at h1
  have h2 : 0 < t.2.length := List.length_pos_iff.mpr h
  simp at h1; omega
theorem text_free {t : Tn} (h : t.2 ≠ []) : 10 ∉ t.ln.text := by
  have hx : ∀ n, n < 128 → 10 ∉ hex2 n := by decide +kernel
  have h2 := hx _ (said0_lt t)
  intro z
  unfold Ln.text lineOf at z
  simp only [List.mem_append, List.mem_cons] at z
  rcases z with z | ((z | z) | z) | z | z | z
  · split at z <;> simp at z
  · exact (talk_lt _ (ta_mem t) 10 z).2 rfl
  · exact (xdr_lt 10 z).2 rfl
  · exact (body_ok h 10 z).2.1 rfl
  · cases z
  · exact h2 z
  · simp at z
theorem free_split {c : Nat} : ∀ {t p a b : List Nat}, c ∉ t → c ∉ p → t ++ c :: a = p ++ c :: b → t = p ∧ a = b
  | [], [], a, b, _, _, e => by simpa using e
  | [], y :: p, a, b, _, h2, e => by
    simp only [List.nil_append, List.cons_append, List.cons.injEq] at e
    exact absurd (by simp [e.1]) h2
  | x :: t, [], a, b, h1, _, e => by
    simp only [List.nil_append, List.cons_append, List.cons.injEq] at e
    exact absurd (by simp [e.1]) h1
  | x :: t, y :: p, a, b, h1, h2, e => by
    simp only [List.cons_append, List.cons.injEq] at e
    obtain ⟨e1, e2⟩ := e
    have := free_split (fun z => h1 (List.mem_cons_of_mem _ z)) (fun z => h2 (List.mem_cons_of_mem _ z)) e2
    exact ⟨by rw [e1, this.1], this.2⟩
def lns (T : List (List Nat)) : List Nat := (T.map fun t => t ++ [10]).flatten
theorem parts_of : ∀ (ps : List (List Nat)) (T : List (List Nat)) (r : List Nat), ps ≠ [] → (∀ p ∈ ps, 10 ∉ p) → (∀ t ∈ T, 10 ∉ t) → lns T = jn 10 ps ++ r → ∃ m rest, m ≤ T.length ∧ ps = T.take m ++ [rest] ∧ 10 ∉ rest
  | [], _, _, h, _, _, _ => absurd rfl h
  | [p], T, r, _, hp, _, _ => ⟨0, p, Nat.zero_le _, by simp, hp p (by simp)⟩
  | p :: q :: ps, T, r, _, hp, hT, e => by
    rw [jn_cons (by simp)] at e
    cases T with
    | nil => simp [lns] at e
    | cons t T =>
      have e2 : t ++ 10 :: lns T = p ++ 10 :: (jn 10 (q :: ps) ++ r) := by
        have : lns (t :: T) = t ++ 10 :: lns T := by simp [lns]
        rw [← this, e]; simp
      obtain ⟨e3, e4⟩ := free_split (hT t (by simp)) (hp p (by simp)) e2
      obtain ⟨m, rest, hm, e5, h6⟩ := parts_of (q :: ps) T r (by simp) (fun x hx => hp x (List.mem_cons_of_mem _ hx)) (fun x hx => hT x (List.mem_cons_of_mem _ hx)) e4
      exact ⟨m + 1, rest, by simp; omega, by rw [e5, ← e3]; rfl, h6⟩
theorem jn_snoc {c : Nat} : ∀ (A : List (List Nat)) (r : List Nat), jn c (A ++ [r]) = (A.map fun t => t ++ [c]).flatten ++ r
  | [], r => by simp [jn]
  | a :: A, r => by
    rw [List.cons_append, jn_cons (by simp), jn_snoc A r]
    simp
theorem logOf_lns (ts : List Tn) : logOf ts = lns (ts.map fun t => t.ln.text) := by unfold logOf lns; rw [List.map_map]; rfl
theorem logOf_app (a b : List Tn) : logOf (a ++ b) = logOf a ++ logOf b := by unfold logOf; rw [List.map_append, List.flatten_append]
theorem feed_split {ts : List Tn} (hts : ∀ t ∈ ts, t.2 ≠ []) {i : Nat} {buf piece r : List Nat} (hi : i ≤ ts.length) (e : logOf ts = logOf (ts.take i) ++ (buf ++ piece) ++ r) :
    ∃ j rest, i ≤ j ∧ j ≤ ts.length ∧ spl 10 (buf ++ piece) = ((ts.drop i).take (j - i)).map (fun t => t.ln.text) ++ [rest] ∧ logOf (ts.take j) ++ rest = logOf (ts.take i) ++ (buf ++ piece) ∧ 10 ∉ rest := by
  have e0 : logOf ts = logOf (ts.take i) ++ logOf (ts.drop i) := by rw [← logOf_app, List.take_append_drop]
  rw [e0, List.append_assoc] at e
  have e1 := List.append_cancel_left e
  rw [logOf_lns, ← jn_spl 10 (buf ++ piece)] at e1
  obtain ⟨m, rest, hm, e2, h3⟩ := parts_of _ _ r (spl_ne 10 _) (spl_free 10 _) (fun x hx => by
    obtain ⟨t, ht, rfl⟩ := List.mem_map.mp hx
    exact text_free (hts t (List.mem_of_mem_drop ht))) e1
  rw [List.length_map, List.length_drop] at hm
  refine ⟨i + m, rest, by omega, by omega, ?_, ?_, h3⟩
  · rw [e2, Nat.add_sub_cancel_left, List.map_take]
  · have e4 : buf ++ piece = logOf ((ts.drop i).take m) ++ rest := by
      conv => lhs; rw [← jn_spl 10 (buf ++ piece), e2, jn_snoc]
      rw [logOf_lns, ← List.map_take]; rfl
    rw [e4, ← List.append_assoc, ← logOf_app, List.take_add]
theorem feed_end {ts : List Tn} {j : Nat} {rest : List Nat} (e : logOf (ts.take j) ++ rest = logOf ts) (h : 10 ∉ rest) : ts.drop j = [] ∧ rest = [] := by
  have e0 : logOf ts = logOf (ts.take j) ++ logOf (ts.drop j) := by rw [← logOf_app, List.take_append_drop]
  rw [e0] at e
  have e1 := List.append_cancel_left e
  cases hd : ts.drop j with
  | nil => rw [hd] at e1; exact ⟨rfl, e1⟩
  | cons t r =>
    rw [hd] at e1
    refine absurd ?_ h
    rw [e1]
    simp [logOf]
theorem turns_ok : ∀ (f : Nat) (ns : List Int), ∀ t ∈ turnsF f ns, t.2 ≠ [] ∧ t.2.length ≤ 3 ∧ t.2.head? = some t.1
  | 0, _, t, h => by cases h
  | _ + 1, [], t, h => by cases h
  | f + 1, n :: r, t, h => by
    unfold turnsF at h
    rcases List.mem_cons.mp h with h | h
    · subst h
      have b := fmod_bd (n.fdiv 7) (b := 3) (by decide)
      refine ⟨?_, ?_, ?_⟩
      · unfold cnt; simp
      · unfold cnt; rw [List.length_take]; omega
      · unfold cnt; simp
    · exact turns_ok f _ t h
theorem turns_len : ∀ (f : Nat) (ns : List Int), (turnsF f ns).length ≤ ns.length
  | 0, _ => by simp [turnsF]
  | _ + 1, [] => by simp [turnsF]
  | f + 1, n :: r => by
    unfold turnsF
    have := turns_len f ((n :: r).drop (cnt n))
    rw [List.length_drop] at this
    rw [List.length_cons]
    unfold cnt at this ⊢
    simp only [List.length_cons] at this ⊢
    omega
theorem text_len {t : Tn} (h : t.2 ≠ []) (hl : t.2.length ≤ 3) : t.ln.text.length ≤ 110 := by
  have h1 := body0_len t
  have h2 := words_len t
  have h3 := body_len h
  have h4 : t.ta.length = 2 := talk_len _ (ta_mem t)
  have h5 : (sg "XDR,").length = 4 := rfl
  have e : t.ln.text.length ≤ 1 + ((2 + 4 + t.body.length) + (1 + (2 + 1))) := by
    unfold Ln.text lineOf Tn.ln
    simp only [List.length_append, List.length_cons, h4, h5]
    have : (hex2 (xs t.said0)).length = 2 := rfl
    rw [this]
    split <;> simp <;> omega
  omega
theorem logOf_len {ts : List Tn} (h : ∀ t ∈ ts, t.2 ≠ [] ∧ t.2.length ≤ 3) : (logOf ts).length ≤ 111 * ts.length := by
  induction ts with
  | nil => simp [logOf]
  | cons t r ih =>
    have h1 := ih fun x hx => h x (List.mem_cons_of_mem _ hx)
    have h2 := text_len (h t (by simp)).1 (h t (by simp)).2
    have e : logOf (t :: r) = t.ln.text ++ [10] ++ logOf r := by simp [logOf]
    rw [e]
    simp only [List.length_append, List.length_cons, List.length_nil]
    omega
end
section
/-! [y for x in G for y in x] -/
section
variable {M : Model} {prog : Program} {w : World} {A : Around} {c : Cfg} {h : Heap} {E : Value → Heap → Prop} {env cenv : Env} {pos p0 p1 p2 p3 : Pos} {scope sc : Scope} {x y : Str} {iter : Expr}
abbrev flatE (x y : Str) (p0 p1 p2 p3 : Pos) (iter : Expr) (scope : Scope) (pos : Pos) : Expr := .ListComp (.Name y p3) [⟨.Name x p0, iter, [], 0⟩, ⟨.Name y p1, .Name x p2, [], 0⟩] scope pos
theorem compTurn_f0 (it acc : Value) : compTurn (flatE x y p0 p1 p2 p3 iter scope pos) 0 it acc env = (standAt iter.pos >>= fun _ => pyNext it >>= fun r => match r with
      | none => pure (.done .next)
      | some v => letOwnedTupleGo (.Name x p0) it v >>= fun _ => assign (.Name x p0) env v >>= fun _ =>
        eval (.Name x p2) env >>= fun z => standAt p2 >>= fun _ => foldedSetIterable (.Name x p2) env z >>= fun z => holding [z] (pyIter z) >>= fun it' => runOwn (.compStart (flatE x y p0 p1 p2 p3 iter scope pos) 1 it' acc env) env >>= fun _ =>
          again (.compLoop (flatE x y p0 p1 p2 p3 iter scope pos) 0 it acc env)) := by rfl
theorem compTurn_f1 (it acc : Value) : compTurn (flatE x y p0 p1 p2 p3 iter scope pos) 1 it acc env = (standAt p2 >>= fun _ => pyNext it >>= fun r => match r with
      | none => pure (.done .next)
      | some v => letOwnedTupleGo (.Name y p1) it v >>= fun _ => assign (.Name y p1) env v >>= fun _ =>
        (eval (.Name y p3) env >>= fun z => call (.builtin "list.append") [acc, z] >>= fun _ => pure ()) >>= fun _ =>
          again (.compLoop (flatE x y p0 p1 p2 p3 iter scope pos) 1 it acc env)) := by rfl
theorem inner_start {J acc : Value} {s : Shared} {R : Result → Shared → Prop} (plain : codeAny (model prog w) A (.compLoop (flatE x y p0 p1 p2 p3 iter scope pos) 1 J acc env) R s)
    (again_ : wpAny (model prog w) A (pyIter J) (fun J' s' => codeAny (model prog w) A (.compLoop (flatE x y p0 p1 p2 p3 iter scope pos) 1 J' acc env) R s') (notedBy (model prog w) A env fun e s' => R (.error e) s') s) :
    codeAny (model prog w) A (.compStart (flatE x y p0 p1 p2 p3 iter scope pos) 1 J acc env) R s := by
  have step : wpAny (model prog w) A (compStart (flatE x y p0 p1 p2 p3 iter scope pos) 1 J acc env) (fun fin s' => ∃ J', fin = .again (.compLoop (flatE x y p0 p1 p2 p3 iter scope pos) 1 J' acc env) ∧ codeAny (model prog w) A (.compLoop (flatE x y p0 p1 p2 p3 iter scope pos) 1 J' acc env) R s') (notedBy (model prog w) A env fun e s' => R (.error e) s') s := by
    unfold compStart
    wp_walk using wpAny_ite
    split
    next z => cases z
    wp_walk using wpAny_askSetting, wpAny_ite
    split
    · exact wpAny_pure ⟨J, rfl, plain⟩
    · wp_walk using wpAny_mono again_
      · exact fun J' s' k => wpAny_pure ⟨J', rfl, k⟩
      · exact fun _ _ k => k
  refine codeAny_of_tree (wpAny_notedAt (wpAny_mono step (fun fin s' k => ?_) fun _ _ k => k))
  obtain ⟨J', rfl, k⟩ := k
  exact ⟨rfl, k⟩
theorem dc_inner {J Da C r : Addr} {its : Array Value} {ys : List Value} {R : Result → Heap → Prop} (W : Src prog w J [J, r] [J] its.size (fun i v => its[i]? = some v) (fun i h => h.IsTupleIter J r i ∧ h.IsTuple r its)) (hA : A.handled = none)
    (hE : EnvIs scope C cenv) (hJC : J ≠ C) (hJD : J ≠ Da) (hCD : C ≠ Da) (hrC : r ≠ C) (hrD : r ≠ Da) (hz : ys.length + its.size ≤ 1000000) (hst : h.IsTupleIter J r 0 ∧ h.IsTuple r its) (hda : h.IsList Da ys.toArray) (hns : ∃ m, h.Ns C m)
    (done : ∀ h', Keeps1 [J, Da, C] h h' → h'.IsList Da (ys ++ its.toList).toArray → (∃ m, h'.Ns C m) → R (.ok .next) h')
    (hx : scope.names.lookup y = some .local) (hkind : scope.kind = .function) (hdy : (y == ("__debug__" : Str)) = false) :
    DC (model prog w) A c (.compStart (flatE x y p0 p1 p2 p3 iter scope pos) 1 (.ref J) (.ref Da) cenv) h R := by
  have wz := W A hA
  refine ⟨fun tk p => ?_⟩
  have key : ∀ tk, 0 < tk → codeAny (model prog w) A (.compLoop (flatE x y p0 p1 p2 p3 iter scope pos) 1 (.ref J) (.ref Da) cenv) (Lf c R) (c.st h tk) := by
    intro tk p
    refine codeAny_loop rfl (fun k s => ∃ (i : Nat) (h' : Heap) (tk' : Nat), s = c.st h' tk' ∧ 0 < tk' ∧ i ≤ its.size ∧ k = its.size + 1 - i ∧ (h'.IsTupleIter J r i ∧ h'.IsTuple r its) ∧ Keeps1 [J, Da, C] h h' ∧ h'.IsList Da (ys ++ its.toList.take i).toArray ∧ (∃ m, h'.Ns C m)) (fun k s => ?_) (its.size + 1)
      ⟨0, h, tk, rfl, p, Nat.zero_le _, rfl, hst, keeps1_of (stays_refl h), by simpa using hda, hns⟩
    rintro ⟨i, h', tk', rfl, p', hi, rfl, st, kk, hl, ⟨m, hns⟩⟩
    show wpAny _ _ ((compTurn (flatE x y p0 p1 p2 p3 iter scope pos) 1 (.ref J) (.ref Da) cenv).onRaise (fun x => do noteFrame x cenv; theTreesLotGoes x)) _ _ _
    refine wpAny_noted ?_
    rw [compTurn_f1]
    refine wpAny_bind (wpAny_standAt (wpAny_bind ?_))
    by_cases hlt : i < its.size
    · refine wpAny_with_toks (n := tk') (Nat.le_refl _) (wz.item i _ _ _ hlt st fun v h₁ tk₁ hP st₁ k₁ l₁ => ?_)
      dsimp only
      have k1' : Keeps1 [J] h' h₁ := k₁
      have ns1 : h₁.Ns C m := let ⟨oL, a1, a2, hL, a3⟩ := hns; ⟨oL, a1, a2, k1' _ _ (by simpa using Ne.symm hJC) hL, a3⟩
      have hl1 : h₁.IsList Da (ys ++ its.toList.take i).toArray := let ⟨o, e, r⟩ := hl; ⟨o, k1' _ _ (by simpa using Ne.symm hJD) e, r⟩
      have F1 := FrL.of ns1
      refine wpAny_bind (wpAny_of_eq (rfl : letOwnedTupleGo (.Name y p1) (.ref J) v = pure ()) ?_)
      refine wpAny_bind (wpAny_assign_Name (wpAny_mono ((d_store (c := c) (A := A) (E := fun _ _ => False) (Q := fun _ h₂ => FrL (h₁.hide C) C h₂ [(y, v)]) hE F1 (fun h₂ F2 => F2) hkind hx).run tk₁ (Nat.lt_of_lt_of_le p' l₁)) (fun _ s₂ ⟨h₂, t₂, p₂, e₂, F2⟩ => ?_) fun _ _ ⟨_, _, _, _, z⟩ => z.elim))
      subst e₂
      have hl2 : h₂.IsList Da (ys ++ its.toList.take i).toArray := let ⟨o, e, r⟩ := hl1; ⟨o, F2.keep _ _ (hide_of e (Ne.symm hCD)), r⟩
      have st2 : h₂.IsTupleIter J r (i + 1) ∧ h₂.IsTuple r its := ⟨let ⟨o, e, r⟩ := st₁.1; ⟨o, F2.keep _ _ (hide_of e hJC), r⟩, let ⟨o, e, r⟩ := st₁.2; ⟨o, F2.keep _ _ (hide_of e hrC), r⟩⟩
      refine wpAny_bind (wpAny_bind (wpAny_mono ((d_loc (prog := prog) (w := w) (c := c) (A := A) (E := fun _ _ => False) (x := y) (pos := p3) (v := v) (Q := fun z h₃ => z = v ∧ h₃ = h₂) hE F2 (by rw [List.lookup_cons]; simp) ⟨rfl, rfl⟩ hkind hx hdy).run t₂ p₂) (fun z s₃ ⟨h₃, t₃, p₃, e₃, e4, e5⟩ => ?_) fun _ _ ⟨_, _, _, _, z⟩ => z.elim))
      subst e₃ e4 e5
      have hsz : (ys ++ its.toList.take i).toArray.size ≤ sizeLine := by rw [sizeLine_eq]; simp; omega
      refine wpAny_bind (wpAny_list_append (s := c.st h₃ t₃) hl2 (fun h₄ hl4 sb => ?_) hsz)
      refine wpAny_pure (wpAny_pure ⟨rfl, its.size + 1 - (i + 1), by omega, i + 1, h₄, t₃, rfl, p₃, by omega, rfl, ?_, ?_, ?_, ?_⟩)
      · exact ⟨let ⟨o, e, r⟩ := st2.1; ⟨o, (sb.2 J hJD).trans e, r⟩, let ⟨o, e, q⟩ := st2.2; ⟨o, (sb.2 r hrD).trans e, q⟩⟩
      · have : Keeps1 [J, Da, C] h₃ h₄ := fun b o n e => (sb.2 b fun z => n (by simp [z])).trans e
        exact keeps1_trans kk (keeps1_trans (keeps1_more k1' (by simp)) (keeps1_trans (keeps1_more (keeps1_hide F2.keep) (by simp)) this))
      · have e6 : its.toList.take (i + 1) = its.toList.take i ++ [z] := by
          rw [List.take_add_one]
          have : its.toList[i]? = some z := by rw [Array.getElem?_toList]; exact hP
          rw [this]; rfl
        rw [e6, ← List.append_assoc]
        simpa using hl4
      · obtain ⟨m3, ⟨oL, a1, a2, hL, a3⟩, _⟩ := F2.ns
        exact ⟨m3, oL, a1, a2, (sb.2 C hCD).trans hL, a3⟩
    · have hin : i = its.size := by omega
      subst hin
      refine wpAny_with_toks (n := tk') (Nat.le_refl _) (wz.done _ _ _ st fun h₁ tk₁ k₁ l₁ => ?_)
      have k1' : Keeps1 [J] h' h₁ := k₁
      rw [List.take_of_length_le (by simp)] at hl
      exact wpAny_pure (.mk (h := h₁) (Nat.lt_of_lt_of_le p' l₁) (done h₁ (keeps1_trans kk (keeps1_more k1' (by simp))) (let ⟨o, e, r⟩ := hl; ⟨o, k1' _ _ (by simpa using Ne.symm hJD) e, r⟩) ⟨m, let ⟨oL, a1, a2, hL, a3⟩ := hns; ⟨oL, a1, a2, k1' _ _ (by simpa using Ne.symm hJC) hL, a3⟩⟩))
  exact inner_start (key tk p) (wz.self 0 _ _ _ hst (key tk p))
theorem dc_flat {I Da C G : Addr} {gi : Array Value} {rows : List (List Value)} {B : Heap} {R : Result → Heap → Prop} (W : Src prog w I [I, G] [I] gi.size (fun i v => gi[i]? = some v) (fun i h => h.IsListIter I G i ∧ h.IsList G gi)) (hA : A.handled = none)
    (hE : EnvIs scope C cenv) (hIC : I ≠ C) (hID : I ≠ Da) (hCD : C ≠ Da) (hGI : G ≠ I) (hGC : G ≠ C) (hGD : G ≠ Da) (bI : B.get? I = none) (bD : B.get? Da = none) (bC : B.get? C = none) (kB : B.StaysIn h)
    (hT : ∀ (i : Nat) (v : Value), gi[i]? = some v → ∃ r ti, v = .ref r ∧ B.IsTuple r ti ∧ rows[i]? = some ti.toList) (hrl : rows.length = gi.size) (hz : rows.flatten.length ≤ 1000000)
    (hst : h.IsListIter I G 0 ∧ h.IsList G gi) (hda : h.IsList Da #[]) (hns : ∃ m, h.Ns C m)
    (done : ∀ h', B.StaysIn h' → h'.IsList Da rows.flatten.toArray → (∃ m, h'.Ns C m) → R (.ok .next) h')
    (hx : scope.names.lookup x = some .local) (hy : scope.names.lookup y = some .local) (hkind : scope.kind = .function) (hdx : (x == ("__debug__" : Str)) = false) (hdy : (y == ("__debug__" : Str)) = false) :
    DC (model prog w) A c (.compStart (flatE x y p0 p1 p2 p3 iter scope pos) 0 (.ref I) (.ref Da) cenv) h R := by
  have wz := W A hA
  have keepB : ∀ {h' h₁ : Heap}, Keeps1 [I] h' h₁ → B.StaysIn h' → B.StaysIn h₁ := fun {h' h₁} k kk b o e => by
    refine k b o (fun z => ?_) (kk _ _ e)
    have z : b = I := by simpa using z
    rw [z, bI] at e; cases e
  refine ⟨fun tk p => ?_⟩
  have key : ∀ tk, 0 < tk → codeAny (model prog w) A (.compLoop (flatE x y p0 p1 p2 p3 iter scope pos) 0 (.ref I) (.ref Da) cenv) (Lf c R) (c.st h tk) := by
    intro tk p
    refine codeAny_loop rfl (fun k s => ∃ (i : Nat) (h' : Heap) (tk' : Nat), s = c.st h' tk' ∧ 0 < tk' ∧ i ≤ gi.size ∧ k = gi.size + 1 - i ∧ (h'.IsListIter I G i ∧ h'.IsList G gi) ∧ B.StaysIn h' ∧ h'.IsList Da (rows.take i).flatten.toArray ∧ (∃ m, h'.Ns C m)) (fun k s => ?_) (gi.size + 1)
      ⟨0, h, tk, rfl, p, Nat.zero_le _, rfl, hst, kB, by simpa using hda, hns⟩
    rintro ⟨i, h', tk', rfl, p', hi, rfl, st, kk, hl, ⟨m, hns⟩⟩
    show wpAny _ _ ((compTurn (flatE x y p0 p1 p2 p3 iter scope pos) 0 (.ref I) (.ref Da) cenv).onRaise (fun x => do noteFrame x cenv; theTreesLotGoes x)) _ _ _
    refine wpAny_noted ?_
    rw [compTurn_f0]
    refine wpAny_bind (wpAny_standAt (wpAny_bind ?_))
    by_cases hlt : i < gi.size
    · refine wpAny_with_toks (n := tk') (Nat.le_refl _) (wz.item i _ _ _ hlt st fun v h₁ tk₁ hP st₁ k₁ l₁ => ?_)
      dsimp only
      have k1' : Keeps1 [I] h' h₁ := k₁
      obtain ⟨r, ti, rfl, hrt, hrow⟩ := hT i v hP
      have ns1 : h₁.Ns C m := let ⟨oL, a1, a2, hL, a3⟩ := hns; ⟨oL, a1, a2, k1' _ _ (by simpa using Ne.symm hIC) hL, a3⟩
      have hl1 : h₁.IsList Da (rows.take i).flatten.toArray := let ⟨o, e, r⟩ := hl; ⟨o, k1' _ _ (by simpa using Ne.symm hID) e, r⟩
      have kB1 : B.StaysIn h₁ := keepB k1' kk
      have F1 := FrL.of ns1
      refine wpAny_bind (wpAny_of_eq (rfl : letOwnedTupleGo (.Name x p0) (.ref I) (.ref r) = pure ()) ?_)
      refine wpAny_bind (wpAny_assign_Name (wpAny_mono ((d_store (c := c) (A := A) (E := fun _ _ => False) (Q := fun _ h₂ => FrL (h₁.hide C) C h₂ [(x, .ref r)]) hE F1 (fun h₂ F2 => F2) hkind hx).run tk₁ (Nat.lt_of_lt_of_le p' l₁)) (fun _ s₂ ⟨h₂, t₂, p₂, e₂, F2⟩ => ?_) fun _ _ ⟨_, _, _, _, z⟩ => z.elim))
      subst e₂
      have k12 : ∀ b o, b ≠ C → h₁.get? b = some o → h₂.get? b = some o := fun b o n e => F2.keep _ _ (hide_of e n)
      have kB2 : B.StaysIn h₂ := fun b o e => k12 _ _ (fun z => by rw [z, bC] at e; cases e) (kB1 _ _ e)
      have hl2 : h₂.IsList Da (rows.take i).flatten.toArray := let ⟨o, e, r⟩ := hl1; ⟨o, k12 _ _ (Ne.symm hCD) e, r⟩
      have st2 : h₂.IsListIter I G (i + 1) ∧ h₂.IsList G gi := ⟨let ⟨o, e, r⟩ := st₁.1; ⟨o, k12 _ _ hIC e, r⟩, let ⟨o, e, r⟩ := st₁.2; ⟨o, k12 _ _ hGC e, r⟩⟩
      have hr2 : h₂.IsTuple r ti := let ⟨o, e, q⟩ := hrt; ⟨o, kB2 _ _ e, q⟩
      refine wpAny_bind (wpAny_mono ((d_loc (prog := prog) (w := w) (c := c) (A := A) (E := fun _ _ => False) (x := x) (pos := p2) (v := .ref r) (Q := fun z h₃ => z = .ref r ∧ h₃ = h₂) hE F2 (by rw [List.lookup_cons]; simp) ⟨rfl, rfl⟩ hkind hx hdx).run t₂ p₂) (fun z s₃ ⟨h₃, t₃, p₃, e₃, e4, e5⟩ => ?_) fun _ _ ⟨_, _, _, _, z⟩ => z.elim)
      subst e₃ e4 e5
      refine wpAny_bind (wpAny_standAt (wpAny_bind (wpAny_of_eq (rfl : foldedSetIterable (.Name x p2) cenv (.ref r) = pure (.ref r)) ?_)))
      refine wpAny_bind (wpAny_holding (wpAny_mono ((d_iterTup (prog := prog) (w := w) (A := A) (c := c) (E := fun _ _ => False) (Q := fun v h₄ => ∃ J, v = .ref J ∧ h₃.StaysIn h₄ ∧ h₃.get? J = none ∧ Src prog w J [J, r] [J] ti.size (fun i v => ti[i]? = some v) (fun i h => h.IsTupleIter J r i ∧ h.IsTuple r ti) ∧ (h₄.IsTupleIter J r 0 ∧ h₄.IsTuple r ti)) hr2
        (fun h' J a b c d => ⟨J, rfl, a, b, c, d⟩)).run t₃ p₃) (fun it s₄ ⟨h₄, t₄, p₄, e4, J, e5, k4, nJ, WJ, stJ⟩ => ?_) fun _ _ ⟨_, _, _, _, z⟩ => z.elim))
      subst e4 e5
      have neJ : ∀ b o, h₃.get? b = some o → b ≠ J := fun b o e z => by rw [z, nJ] at e; cases e
      have hJC : J ≠ C := by obtain ⟨m3, ⟨oL, a1, a2, hL, a3⟩, _⟩ := F2.ns; exact Ne.symm (neJ _ _ hL)
      have hJD : J ≠ Da := by obtain ⟨o, e, _⟩ := hl2; exact Ne.symm (neJ _ _ e)
      have hrC : r ≠ C := fun z => by obtain ⟨o, e, _⟩ := hrt; rw [z, bC] at e; cases e
      have hrD : r ≠ Da := fun z => by obtain ⟨o, e, _⟩ := hrt; rw [z, bD] at e; cases e
      have hl4 : h₄.IsList Da (rows.take i).flatten.toArray := let ⟨o, e, r⟩ := hl2; ⟨o, k4 _ _ e, r⟩
      have hrows : rows.take (i + 1) = rows.take i ++ [ti.toList] := by rw [List.take_add_one, hrow]; rfl
      have hlen : (rows.take i).flatten.length + ti.size ≤ 1000000 := by
        have e1 : (rows.take (i + 1)).flatten.length ≤ rows.flatten.length := by
          conv => rhs; rw [← List.take_append_drop (i + 1) rows, List.flatten_append, List.length_append]
          omega
        rw [hrows, List.flatten_append, List.length_append] at e1
        have e2 : ([ti.toList] : List (List Value)).flatten.length = ti.size := by simp
        omega
      have inner := dc_inner (prog := prog) (w := w) (A := A.mark none) (c := c) (p0 := p0) (p1 := p1) (p2 := p2) (p3 := p3) (iter := iter) (pos := pos) (x := x) (y := y) (J := J) (Da := Da) (C := C) (r := r) (its := ti) (ys := (rows.take i).flatten) (h := h₄) (cenv := cenv) (scope := scope)
        (R := fun q h₅ => q = .ok .next ∧ Keeps1 [J, Da, C] h₄ h₅ ∧ h₅.IsList Da (rows.take (i + 1)).flatten.toArray ∧ ∃ m, h₅.Ns C m) WJ hA hE hJC hJD hCD hrC hrD hlen stJ hl4 (let ⟨m3, ⟨oL, a1, a2, hL, a3⟩, _⟩ := F2.ns; ⟨m3, oL, a1, a2, k4 _ _ hL, a3⟩)
        (fun h₅ k5 l5 n5 => ⟨rfl, k5, by rw [hrows, List.flatten_append]; simpa using l5, n5⟩) hy hkind hdy
      refine wpAny_bind (wpAny_runOwn (codeAny_mono (inner.run t₄ p₄) fun q s₅ ⟨h₅, t₅, p₅, e5, e6, k5, l5, n5⟩ => ?_))
      subst e5 e6
      have k35 : ∀ b o, b ≠ Da → b ≠ C → h₃.get? b = some o → h₅.get? b = some o := fun b o n1 n2 e => k5 _ _ (by simp [n1, n2, neJ _ _ e]) (k4 _ _ e)
      refine wpAny_pure ⟨rfl, gi.size + 1 - (i + 1), by omega, i + 1, h₅, t₅, rfl, p₅, by omega, rfl, ?_, ?_, l5, n5⟩
      · exact ⟨let ⟨o, e, r⟩ := st2.1; ⟨o, k35 _ _ hID hIC e, r⟩, let ⟨o, e, r⟩ := st2.2; ⟨o, k35 _ _ hGD hGC e, r⟩⟩
      · exact fun b o e => k35 _ _ (fun z => by rw [z, bD] at e; cases e) (fun z => by rw [z, bC] at e; cases e) (kB2 _ _ e)
    · have hin : i = gi.size := by omega
      subst hin
      refine wpAny_with_toks (n := tk') (Nat.le_refl _) (wz.done _ _ _ st fun h₁ tk₁ k₁ l₁ => ?_)
      have k1' : Keeps1 [I] h' h₁ := k₁
      rw [List.take_of_length_le (by omega)] at hl
      exact wpAny_pure (.mk (h := h₁) (Nat.lt_of_lt_of_le p' l₁) (done h₁ (keepB k1' kk) (let ⟨o, e, r⟩ := hl; ⟨o, k1' _ _ (by simpa using Ne.symm hID) e, r⟩) ⟨m, let ⟨oL, a1, a2, hL, a3⟩ := hns; ⟨oL, a1, a2, k1' _ _ (by simpa using Ne.symm hIC) hL, a3⟩⟩))
  exact codeAny_compStart_list (key tk p) (wz.self 0 _ _ _ hst (key tk p))
end
end
section
section
variable {prog : Program} {w : World} {A : Around} {c : Cfg} {h : Heap} {E : Value → Heap → Prop} {env : Env} {pos p0 vp xp : Pos} {scope sc : Scope} {x v : Str} {elt iter : Expr} {L : Addr} {bs : List (Str × Value)}
theorem d_newListL {vs : List Value} {Q : Value → Heap → Prop} (hz : vs.length ≤ 16000000) (q : ∀ h' D, h.StaysIn h' → h.get? D = none → h'.get? D = some (LObj vs.toArray 0) → Q (.ref D) h') : Mine.D (model prog w) A c (newList vs) h Q E := ⟨fun tk p =>
  wpAny_newList (.mk (h := h.push _) p (q _ _ (stays_push _) (not_get_size h) (Heap.get?_push_size _ rfl))) (by rw [sizeLine_eq]; omega)⟩
theorem d_addL {D1 D2 : Addr} {xs ys : Array Value} {Q : Value → Heap → Prop} (hl : h.IsList D1 xs) (hb : h.IsList D2 ys) (hz : xs.size + ys.size ≤ 1000000) (q : ∀ h' D' m, h.StaysIn h' → h.get? D' = none → h'.get? D' = some (LObj (xs ++ ys) m) → Q (.ref D') h') :
    Mine.D (model prog w) A c (binaryOp .Add (.ref D1) (.ref D2)) h Q E := d_of0 fun tk p => by
  obtain ⟨⟨cls, dd, data, sl⟩, ho, hc, n, hd⟩ := id hl
  obtain ⟨⟨cls2, dd2, data2, sl2⟩, ho2, hc2, n2, hd2⟩ := id hb
  simp only at hc hd hc2 hd2
  subst hc hd hc2 hd2
  exact concat_meets (s := c.st h tk) ⟨_, ho, rfl⟩ ⟨_, ho2, rfl⟩ noFill_list_add seq_list_add PySem.F.slot_list_add PySem.F.entry_list_add (PySem.F.args_list_add_2 _ _) (list_addW D1 D2 xs ys n n2 dd dd2 sl sl2 (by rw [sizeLine_eq]; omega))
    ⟨ho, ho2, _, tk, rfl, q _ _ _ (stays_push _) (not_get_size h) (Heap.get?_push_size _ rfl)⟩
/-- the elements of a comprehension over a list, and what they are -/
structure CompK (prog : Program) (w : World) (A : Around) (c : Cfg) (scope : Scope) (elt : Expr) (v : Str) (h₁ : Heap) (gi : Array Value) (Fy : Nat → Value → Heap → Prop) : Prop where
  sz : gi.size ≤ 1000000
  mono : ∀ i y h h', h.StaysIn h' → Fy i y h → Fy i y h'
  step : ∀ (i : Nat) (z : Value) (C : Addr) (cenv : Env) (h₂ : Heap), gi[i]? = some z → h₁.StaysIn h₂ → EnvIs scope C cenv → FrL (h₂.hide C) C h₂ [(v, z)] → h₁.get? C = none →
    D (model prog w) A c (eval elt cenv) h₂ (fun y h₃ => (h₂.hide C).StaysIn h₃ ∧ (∃ m, h₃.Ns C m) ∧ ∀ ws, (∀ a ∈ ws, ∃ o, h₂.get? a = some o) → Fy i y (cut ws h₃)) (fun _ _ => False)
theorem dc_listComp {I Da C : Addr} {G : Addr} {cenv : Env} {h₁ h₂ : Heap} {gi : Array Value} {Fy : Nat → Value → Heap → Prop} {R : Result → Heap → Prop} (K : CompK prog w A c scope elt v h₁ gi Fy) (hA : A.handled = none)
    (W : Src prog w I [I, G] [I] gi.size (fun i v => gi[i]? = some v) (fun i h => h.IsListIter I G i ∧ h.IsList G gi)) (hE : EnvIs scope C cenv) (k2 : h₁.StaysIn h₂) (nI : h₁.get? I = none) (nD : h₁.get? Da = none) (nC : h₁.get? C = none) (hCI : C ≠ I) (hCD : C ≠ Da) (hDI : Da ≠ I) (hG : ∃ o, h₁.get? G = some o)
    (hst : h₂.IsListIter I G 0 ∧ h₂.IsList G gi) (hda : h₂.IsList Da #[]) (hns : ∃ m, h₂.Ns C m)
    (done : ∀ h' (ys : List Value), h₁.StaysIn h' → h'.IsList Da ys.toArray → ys.length = gi.size → (∀ i y, ys[i]? = some y → Fy i y (cut [I, Da, C] h')) → (∃ m, h'.Ns C m) → R (.ok .next) h')
    (hx : scope.names.lookup v = some .local) (hkind : scope.kind = .function) :
    DC (model prog w) A c (.compStart (.ListComp elt [⟨.Name v vp, iter, [], 0⟩] scope pos) 0 (.ref I) (.ref Da) cenv) h₂ R := by
  have neG : ∀ a, h₁.get? a = none → a ≠ G := fun a n z => by obtain ⟨o, e⟩ := hG; rw [z, e] at n; cases n
  have up : ∀ {h' : Heap}, (cut [I, Da, C] h₂).StaysIn h' → h₁.StaysIn h' := fun {h'} k b o e => k b o (cut_of (k2 _ _ e) (by
    simp only [List.mem_cons, List.not_mem_nil, or_false, not_or]
    exact ⟨fun z => (by rw [z, nI] at e; cases e), fun z => (by rw [z, nD] at e; cases e), fun z => (by rw [z, nC] at e; cases e)⟩))
  refine dc_compL (Fy := Fy) (P := fun i v => gi[i]? = some v) (n := gi.size) W hA hE (by simp) (by simp [hCI, neG C nC]) (by simp [hDI, neG Da nD]) hCD hCI hDI (by have := K.sz; omega) (fun i h z => let ⟨o, e, _⟩ := z.1; ⟨o, e⟩) hst hda hns K.mono (fun i z h₃ hi hP ks xI xD F => ?_) (fun h' ys kk hl hlen hF hn => ?_) hx hkind
  · refine d_conseq (K.step i z C cenv h₃ hP (up ks) hE F nC) fun y h₄ q => ⟨q.1, q.2.1, q.2.2 _ fun a ha => ?_⟩
    simp at ha
    rcases ha with rfl | rfl | rfl
    · exact xI
    · exact xD
    · exact F.at
  · exact done h' ys (up fun b o e => kk b o (fun z => by rw [cut_no z] at e; cases e) (of_cut e)) hl hlen hF hn
theorem d_listComp {Fy : Nat → Value → Heap → Prop} {Q : Value → Heap → Prop} (hE : EnvIs sc L env) (hA : A.handled = none)
    (k : D (model prog w) A c (eval iter env) h (fun z h₁ => ∃ G gi, z = .ref G ∧ h₁.IsList G gi ∧ CompK prog w A c scope elt v h₁ gi Fy ∧
      ∀ h' Da (ys : List Value), h₁.StaysIn h' → h₁.get? Da = none → h'.IsList Da ys.toArray → ys.length = gi.size → (∀ i y, ys[i]? = some y → Fy i y h') → Q (.ref Da) h') (fun _ _ => False))
    (hs : ∀ x, foldedSetIterable iter env x = pure x := by intro _; rfl) (hfree : ∀ x ∈ scope.names, x.2 ≠ .free := by decide) (hkind : scope.kind = .function := by rfl) (hnames : ∀ x ∈ scope.names, x.2 = .local → scope.names.lookup x.1 = some .local := by decide)
    (hcell : ∀ x ∈ scope.names, x.2 ≠ .cell := by decide) (hx : scope.names.lookup v = some .local := by rfl) :
    D (model prog w) A c (eval (.ListComp elt [⟨.Name v vp, iter, [], 0⟩] scope pos) env) h Q E := by
  refine d_of_eq (t' := comprehension (.ListComp elt [⟨.Name v vp, iter, [], 0⟩] scope pos) scope env (firstIterPos [⟨.Name v vp, iter, [], 0⟩] pos) (newList []) false (eval iter env)) rfl ?_
  refine d_comp (g := ⟨.Name v vp, iter, [], 0⟩) (gs := []) (use := none) hE (d_mono k (fun z h₁ q => ?_) fun _ _ z => z.elim) rfl hs hfree hkind hnames hcell
  obtain ⟨G, gi, rfl, hl, K, done⟩ := q
  refine d_iterList hl (fun h₂ I k2 nI W st => ?_)
  refine d_newListL (by simp) (fun h₃ Da k3 nD hD h₄ C cenv nC k4 nsC hEc => ?_)
  have k13 := stays_trans k2 k3
  have nDI : Da ≠ I := fun z => by obtain ⟨o, e, _⟩ := st.1; rw [← z, nD] at e; cases e
  have nCI : C ≠ I := fun z => by obtain ⟨o, e, _⟩ := st.1; rw [z, k3 _ _ e] at nC; cases nC
  have nCD : C ≠ Da := fun z => by rw [z, hD] at nC; cases nC
  refine dc_listComp (G := G) K hA W hEc (stays_trans k13 k4) nI (none_of_stays k2 nD) (none_of_stays k13 nC) nCI nCD nDI (let ⟨o, e, _⟩ := hl; ⟨o, e⟩) ⟨let ⟨o, e, r⟩ := st.1; ⟨o, k4 _ _ (k3 _ _ e), r⟩, let ⟨o, e, r⟩ := st.2; ⟨o, k4 _ _ (k3 _ _ e), r⟩⟩ ⟨_, k4 _ _ hD, rfl, _, rfl⟩ nsC (fun h₅ ys k5 l5 n5 f5 ⟨m, nsm⟩ => ⟨m, nsm, fun h' sb => ?_⟩) hx hkind
  have up : ∀ b o, b ≠ C → h₅.get? b = some o → h'.get? b = some o := fun b o hb e => (sb.2 b hb).trans e
  refine done h' Da ys (fun b o e => up _ _ (fun z => by rw [z, none_of_stays k13 nC] at e; cases e) (k5 _ _ e)) (none_of_stays k2 nD) (let ⟨o, e, r⟩ := l5; ⟨o, up _ _ (Ne.symm nCD) e, r⟩) n5 (fun i y e => K.mono _ _ _ _ (fun b o q => up _ _ (fun z => by rw [z, cut_no (by simp)] at q; cases q) (of_cut q)) (f5 i y e))
theorem swaps_true {l : Nat} (hE : EnvIs sc L env) (hk : sc.kind = .function) (hl : sc.names.lookup x = some .local) (hp : (xp.line == pos.line) = true) (hn : (scope.names.any fun (n, k) => n == x && (k == .local || k == .cell)) = false) :
    swapsWith (.ListComp elt [⟨.Name v vp, iter, [], 0⟩] scope pos) (some (.Name x xp)) l env = pure true := by
  have e1 : env.blockKind = .function := by unfold Env.blockKind; rw [hE.scope, hk]; rfl
  have e2 : env.kindOf x = some .local := hE.kind hl
  unfold swapsWith
  dsimp only
  rw [e1, e2]
  have : (Expr.ListComp elt [⟨.Name v vp, iter, [], 0⟩] scope pos).pos = pos := rfl
  rw [this, hp, hn]
  rfl
/-- x = [elt for v in iter] -/
theorem d_assignComp {Fy : Nat → Value → Heap → Prop} {Q : Flow → Heap → Prop} (hE : EnvIs sc L env) (hA : A.handled = none) (hp : (xp.line == pos.line) = true) (hn : (scope.names.any fun (n, k) => n == x && (k == .local || k == .cell)) = false)
    (k : D (model prog w) A c (eval iter env) h (fun z h₁ => ∃ G gi, z = .ref G ∧ h₁.IsList G gi ∧ CompK prog w A c scope elt v h₁ gi Fy ∧ NsHas h₁ L bs ∧
      ∀ h' Da (ys : List Value), (∀ b o, b ≠ L → h₁.get? b = some o → h'.get? b = some o) → NsHas h' L ((x, .ref Da) :: bs) → h₁.get? Da = none → h'.IsList Da ys.toArray → ys.length = gi.size → (∀ i y, ys[i]? = some y → Fy i y h') → Q .next h') (fun _ _ => False))
    (hsk : sc.kind = .function := by rfl) (hsl : sc.names.lookup x = some .local := by rfl)
    (hs : ∀ x, foldedSetIterable iter env x = pure x := by intro _; rfl) (hfree : ∀ x ∈ scope.names, x.2 ≠ .free := by decide) (hkind : scope.kind = .function := by rfl) (hnames : ∀ x ∈ scope.names, x.2 = .local → scope.names.lookup x.1 = some .local := by decide)
    (hcell : ∀ x ∈ scope.names, x.2 ≠ .cell := by decide) (hx : scope.names.lookup v = some .local := by rfl) :
    D (model prog w) A c (exec (.Assign [.Name x xp] (.ListComp elt [⟨.Name v vp, iter, [], 0⟩] scope pos) p0) env) h Q E := by
  rw [exec_Assign_Name_used _ _ _ _ (swaps_true hE hsk hsl hp hn)]
  refine d_bind (d_standAt (d_bind ?_))
  rw [arm_evalThenUse_ListComp]
  refine d_bind ?_
  refine d_comp (g := ⟨.Name v vp, iter, [], 0⟩) (gs := []) (use := some (assign (.Name x xp) env)) (Q := fun _ h' => D (model prog w) A c (pure ()) h' (fun _ h' => D (model prog w) A c (pure Flow.next) h' Q E) E) hE (d_mono k (fun z h₁ q => ?_) fun _ _ z => z.elim) rfl hs hfree hkind hnames hcell
  obtain ⟨G, gi, rfl, hl, K, nsL, done⟩ := q
  refine d_iterList hl (fun h₂ I k2 nI W st => ?_)
  refine d_newListL (by simp) (fun h₃ Da k3 nD hD h₄ C cenv nC k4 nsC hEc => ?_)
  have k13 := stays_trans k2 k3
  have nDI : Da ≠ I := fun z => by obtain ⟨o, e, _⟩ := st.1; rw [← z, nD] at e; cases e
  have nCI : C ≠ I := fun z => by obtain ⟨o, e, _⟩ := st.1; rw [z, k3 _ _ e] at nC; cases nC
  have nCD : C ≠ Da := fun z => by rw [z, hD] at nC; cases nC
  have nC1 := none_of_stays k13 nC
  have nD1 := none_of_stays k2 nD
  have liv : ∀ a, h₁.get? a = none → a ≠ L := fun a n z => by obtain ⟨m, ⟨o, es, ep, e, _⟩, _⟩ := nsL; rw [z, e] at n; cases n
  have K' : CompK prog w A c scope elt v h₁ gi (fun i y h => Fy i y (cut [L] h)) := ⟨K.sz, fun i y a b k f => K.mono i y _ _ (cut_mono (keeps1_of k)) f, fun i z C cenv h₂ hz kz hE' F nC => d_conseq (K.step i z C cenv h₂ hz kz hE' F nC) fun y h₃ q => ⟨q.1, q.2.1, fun ws hw => q.2.2 (L :: ws) fun a ha => by
    rcases List.mem_cons.mp ha with ha | ha
    · obtain ⟨m, ⟨o, es, ep, e, _⟩, _⟩ := nsL
      exact ⟨o, by rw [ha]; exact kz _ _ e⟩
    · exact hw a ha⟩⟩
  refine dc_listComp (G := G) K' hA W hEc (stays_trans k13 k4) nI nD1 nC1 nCI nCD nDI (let ⟨o, e, _⟩ := hl; ⟨o, e⟩) ⟨let ⟨o, e, r⟩ := st.1; ⟨o, k4 _ _ (k3 _ _ e), r⟩, let ⟨o, e, r⟩ := st.2; ⟨o, k4 _ _ (k3 _ _ e), r⟩⟩ ⟨_, k4 _ _ hD, rfl, _, rfl⟩ nsC (fun h₅ ys k5 l5 n5 f5 ⟨m, nsm⟩ => ?_) hx hkind
  have F5 := (nsL.keep fun o e => k5 _ _ e).frl
  refine d_asgName (d_store hE F5 (fun h₆ F6 => ?_) hsk hsl)
  have k56 : ∀ b o, b ≠ L → h₅.get? b = some o → h₆.get? b = some o := fun b o hb e => F6.keep _ _ (hide_of e hb)
  refine ⟨m, let ⟨oL, a1, a2, hL, a3⟩ := nsm; ⟨oL, a1, a2, k56 _ _ (liv C nC1) hL, a3⟩, fun h' sb => d_pure (d_pure ?_)⟩
  have up : ∀ b o, b ≠ C → h₆.get? b = some o → h'.get? b = some o := fun b o hb e => (sb.2 b hb).trans e
  refine done h' Da ys (fun b o hb e => up _ _ (fun z => by rw [z, nC1] at e; cases e) (k56 _ _ hb (k5 _ _ e))) (NsHas.keep F6.ns fun o e => up _ _ (Ne.symm (liv C nC1)) e) nD1 (let ⟨o, e, r⟩ := l5; ⟨o, up _ _ (Ne.symm nCD) (k56 _ _ (liv Da nD1) e), r⟩) n5 (fun i y e => K.mono i y _ _ (fun b o q => ?_) (f5 i y e))
  have q1 := of_cut (ws := [L]) q
  have hbL : b ≠ L := fun z => by rw [z, cut_no (by simp)] at q; cases q
  have hbC : b ≠ C := fun z => by rw [z, cut_no (by simp)] at q1; cases q1
  exact up _ _ hbC (k56 _ _ hbL (of_cut q1))
end
end
section
theorem Strs.append : ∀ {a b : List Value} {l m : List (List Nat)}, Strs a l → Strs b m → Strs (a ++ b) (l ++ m) := by
  intro a b l m x y
  refine ⟨by simp [x.1, y.1], fun i z e => ?_⟩
  by_cases hi : i < l.length
  · rw [List.getElem?_append_left hi] at e
    obtain ⟨t, ht⟩ := x.2 i z e
    exact ⟨t, by rw [List.getElem?_append_left (by rw [x.1]; exact hi)]; exact ht⟩
  · rw [List.getElem?_append_right (by omega)] at e
    obtain ⟨t, ht⟩ := y.2 _ z e
    exact ⟨t, by rw [List.getElem?_append_right (by rw [x.1]; omega), x.1]; exact ht⟩
theorem Strs.take {a : List Value} {l : List (List Nat)} (x : Strs a l) (n : Nat) : Strs (a.take n) (l.take n) := by
  refine ⟨by simp [x.1], fun i z e => ?_⟩
  rw [List.getElem?_take] at e
  by_cases hi : i < n
  · rw [if_pos hi] at e
    obtain ⟨t, ht⟩ := x.2 i z e
    exact ⟨t, by rw [List.getElem?_take, if_pos hi]; exact ht⟩
  · rw [if_neg hi] at e; cases e
theorem rows_of {h : Heap} : ∀ (ys : List Value) (grp : List Int), ys.length = grp.length → (∀ (i : Nat) (y : Value), ys[i]? = some y → ∃ m r its, grp[i]? = some m ∧ y = .ref r ∧ IsTup h r its ∧ Strs its.toList (rd m)) →
    ∃ rows : List (List Value), rows.length = ys.length ∧ (∀ (i : Nat) (v : Value), ys[i]? = some v → ∃ r ti, v = .ref r ∧ IsTup h r ti ∧ rows[i]? = some ti.toList) ∧ Strs rows.flatten ((grp.map rd).flatten) ∧ rows.flatten.length = 4 * ys.length
  | [], [], _, _ => ⟨[], rfl, fun i v e => by simp at e, .nil, rfl⟩
  | y :: ys, g :: grp, hl, hf => by
    obtain ⟨m, r, its, e1, rfl, e3, e4⟩ := hf 0 y rfl
    simp only [List.getElem?_cons_zero, Option.some.injEq] at e1
    subst e1
    obtain ⟨rows, q1, q2, q3, q4⟩ := rows_of ys grp (by simpa using hl) fun i z e => hf (i + 1) z (by simpa using e)
    refine ⟨its.toList :: rows, by simp [q1], fun i v e => ?_, ?_, ?_⟩
    · cases i with
      | zero => simp at e; subst e; exact ⟨r, its, rfl, e3, rfl⟩
      | succ i => exact q2 i v (by simpa using e)
    · rw [List.map_cons, List.flatten_cons, List.flatten_cons]
      exact Strs.append e4 q3
    · rw [List.flatten_cons, List.length_append, e4.1, rd_len, q4, List.length_cons]; omega
section
variable {prog : Program} {w : World} {A : Around} {c : Cfg} {h : Heap} {E : Value → Heap → Prop} {env : Env} {pos p0 p1 p2 p3 : Pos} {scope sc : Scope} {x y : Str} {iter : Expr} {L : Addr}
theorem d_flat {Q : Value → Heap → Prop} (hE : EnvIs sc L env) (hA : A.handled = none)
    (k : D (model prog w) A c (eval iter env) h (fun z h₁ => ∃ (G : Addr) (gi : Array Value) (rows : List (List Value)), z = .ref G ∧ h₁.IsList G gi ∧ (∀ (i : Nat) (v : Value), gi[i]? = some v → ∃ r ti, v = .ref r ∧ h₁.IsTuple r ti ∧ rows[i]? = some ti.toList) ∧ rows.length = gi.size ∧ rows.flatten.length ≤ 1000000 ∧
      ∀ h' Da, h₁.StaysIn h' → h₁.get? Da = none → h'.IsList Da rows.flatten.toArray → Q (.ref Da) h') (fun _ _ => False))
    (hs : ∀ x, foldedSetIterable iter env x = pure x := by intro _; rfl) (hfree : ∀ x ∈ scope.names, x.2 ≠ .free := by decide) (hkind : scope.kind = .function := by rfl) (hnames : ∀ x ∈ scope.names, x.2 = .local → scope.names.lookup x.1 = some .local := by decide)
    (hcell : ∀ x ∈ scope.names, x.2 ≠ .cell := by decide) (hx : scope.names.lookup x = some .local := by rfl) (hy : scope.names.lookup y = some .local := by rfl) (hdx : (x == ("__debug__" : Str)) = false := by decide) (hdy : (y == ("__debug__" : Str)) = false := by decide) :
    D (model prog w) A c (eval (.ListComp (.Name y p3) [⟨.Name x p0, iter, [], 0⟩, ⟨.Name y p1, .Name x p2, [], 0⟩] scope pos) env) h Q E := by
  refine d_of_eq (t' := comprehension (flatE x y p0 p1 p2 p3 iter scope pos) scope env (firstIterPos [⟨.Name x p0, iter, [], 0⟩, ⟨.Name y p1, .Name x p2, [], 0⟩] pos) (newList []) false (eval iter env)) rfl ?_
  refine d_comp (g := ⟨.Name x p0, iter, [], 0⟩) (gs := [⟨.Name y p1, .Name x p2, [], 0⟩]) (use := none) hE (d_mono k (fun z h₁ q => ?_) fun _ _ z => z.elim) rfl hs hfree hkind hnames hcell
  obtain ⟨G, gi, rows, rfl, hl, hT, hrl, hz, done⟩ := q
  refine d_iterList hl (fun h₂ I k2 nI W st => ?_)
  refine d_newListL (by simp) (fun h₃ Da k3 nD hD h₄ C cenv nC k4 nsC hEc => ?_)
  have k13 := stays_trans k2 k3
  have nDI : Da ≠ I := fun z => by obtain ⟨o, e, _⟩ := st.1; rw [← z, nD] at e; cases e
  have nCI : C ≠ I := fun z => by obtain ⟨o, e, _⟩ := st.1; rw [z, k3 _ _ e] at nC; cases nC
  have nCD : C ≠ Da := fun z => by rw [z, hD] at nC; cases nC
  have neG : ∀ a, h₁.get? a = none → G ≠ a := fun a n z => by obtain ⟨o, e, _⟩ := hl; rw [z, n] at e; cases e
  refine dc_flat (G := G) (B := h₁) W hA hEc (Ne.symm nCI) (Ne.symm nDI) nCD (neG I nI) (neG C (none_of_stays k13 nC)) (neG Da (none_of_stays k2 nD)) nI (none_of_stays k2 nD) (none_of_stays k13 nC) (stays_trans k13 k4) hT hrl hz
    ⟨let ⟨o, e, r⟩ := st.1; ⟨o, k4 _ _ (k3 _ _ e), r⟩, let ⟨o, e, r⟩ := st.2; ⟨o, k4 _ _ (k3 _ _ e), r⟩⟩ ⟨_, k4 _ _ hD, rfl, _, rfl⟩ nsC (fun h₅ k5 l5 ⟨m, nsm⟩ => ⟨m, nsm, fun h' sb => ?_⟩) hx hy hkind hdx hdy
  have up : ∀ b o, b ≠ C → h₅.get? b = some o → h'.get? b = some o := fun b o hb e => (sb.2 b hb).trans e
  exact done h' Da (fun b o e => up _ _ (fun z => by rw [z, none_of_stays k13 nC] at e; cases e) (k5 _ _ e)) (none_of_stays k2 nD) (let ⟨o, e, r⟩ := l5; ⟨o, up _ _ (Ne.symm nCD) e, r⟩)
end
end
section
/-! range, and plain laws of the words -/
section
variable {prog : Program} {w : World} {A : Around} {c : Cfg} {h : Heap} {E : Value → Heap → Prop} {Q : Value → Heap → Prop}
theorem d_range1 {n : Nat} {t : Tok} (q : ∀ h' r t0 t1, h.StaysIn h' → h.get? r = none → IsRange h' r 0 n 1 t0 t t1 → Q (.ref r) h') : D (model prog w) A c (call (.type "range") [.int n t]) h Q E := ⟨fun tk p =>
  call_range_1 (s := c.st h tk) (.mk (h := h.push _) (Nat.succ_pos _) (q _ _ _ _ (stays_push _) (not_get_size h) (IsRange.new ..)))⟩
theorem d_iterRange {n : Nat} {r : Addr} {t u v : Tok} (hr : IsRange h r 0 n 1 t u v) (hz : n ≤ 1000000) (k : ∀ h' I, h.StaysIn h' → h.get? I = none → Src prog w I [I] [I] n (fun i v => ∃ t, v = .int ((i : Nat) : Int) t) (fun i h => IsRangeIter h I ((i : Nat) : Int) ((n : Int) - (i : Nat)) 1) → IsRangeIter h' I ((0 : Nat) : Int) ((n : Int) - (0 : Nat)) 1 → Q (.ref I) h') :
    D (model prog w) A c (pyIter (.ref r)) h Q E := ⟨fun tk p => by
  have hs : Builtin.Range.rangeSize 0 n 1 = n := by rw [rangeSize_one]; split <;> omega
  refine wpAny_pyIter_range (s := c.st h tk) hr (small_one (by decide) (by decide) (by omega) (by omega)) (.mk (h := h.push _) p (k _ _ (stays_push _) (not_get_size h) (fun A' hA => ?_) ?_))
  · have W' := Walks.range (prog := prog) (w := w) hA h.objs.size 0 1 n
    have e1 : (fun (i : Nat) (v : Value) => ∃ t, v = .int (0 + (i : Int) * 1) t) = fun (i : Nat) (v : Value) => ∃ t, v = Value.int ((i : Nat) : Int) t := by
      funext i v; rw [Int.zero_add, Int.mul_one]
    have e2 : (fun (i : Nat) (h' : Heap) => IsRangeIter h' h.objs.size (0 + ((i : Nat) : Int) * 1) ((n : Int) - (i : Nat)) 1) = fun (i : Nat) (h' : Heap) => IsRangeIter h' h.objs.size ((i : Nat) : Int) ((n : Int) - (i : Nat)) 1 := by
      funext i h'; rw [Int.zero_add, Int.mul_one]
    rw [e1, e2] at W'
    exact W'
  · rw [hs]
    have e : (n : Int) - ((0 : Nat) : Int) = n := by omega
    rw [e]
    exact Heap.get?_push_size _ rfl⟩
end
theorem Strs.set {vs : List Value} {ls : List (List Nat)} (x : Strs vs ls) {l : List Nat} {t : Tok} (j : Nat) : Strs (vs.set j (.str (S l) t)) (ls.set j l) := by
  refine ⟨by simp [x.1], fun i m e => ?_⟩
  rw [List.getElem?_set] at e ⊢
  by_cases hj : j = i
  · rw [if_pos hj] at e ⊢
    have hl := x.1
    by_cases hi : i < ls.length
    · rw [hj, if_pos hi] at e
      rw [hj, if_pos (by rw [hl]; exact hi)]
      exact ⟨t, by rw [Option.some.inj e]⟩
    · rw [hj, if_neg hi] at e; cases e
  · rw [if_neg hj] at e ⊢
    exact x.2 i m e
theorem Strs.at {vs : List Value} {ls : List (List Nat)} (x : Strs vs ls) {i : Nat} {v : Value} (e : vs[i]? = some v) : ∃ l t, ls[i]? = some l ∧ v = .str (S l) t := by
  have hi : i < ls.length := by rw [← x.1]; exact (List.getElem?_eq_some_iff.mp e).1
  obtain ⟨t, ht⟩ := x.2 i _ (List.getElem?_eq_getElem hi)
  rw [e] at ht
  exact ⟨_, t, List.getElem?_eq_getElem hi, Option.some.inj ht⟩
def WOk (ws : List (List Nat)) : Prop := ∀ x ∈ ws, (∀ c ∈ x, c ∈ al) ∧ x.length ≤ 5
theorem num_ok : ∀ k : Nat, k < 810 → (∀ c ∈ txt ((k : Int) - 10), c ∈ al) ∧ (txt ((k : Int) - 10)).length ≤ 4 := by decide +kernel
theorem WOk.set {ws : List (List Nat)} (x : WOk ws) {z : Int} (h1 : -10 ≤ z) (h2 : z < 800) (j : Nat) : WOk (ws.set j (txt z)) := fun y hy => by
  rcases List.mem_or_eq_of_mem_set hy with hy | rfl
  · exact x y hy
  · have e : (((z + 10).toNat : Nat) : Int) - 10 = z := by omega
    have := num_ok (z + 10).toNat (by omega)
    rw [e] at this
    exact ⟨this.1, by omega⟩
theorem WOk.chars {ws : List (List Nat)} (x : WOk ws) : ∀ c ∈ jn 44 ws, c ∈ al2 := fun c hc => by
  rcases jn_mem hc with h | ⟨y, hy, h⟩
  · subst h; simp [al2]
  · exact List.mem_cons_of_mem _ ((x y hy).1 c h)
theorem WOk.sum {ws : List (List Nat)} (x : WOk ws) : (ws.map List.length).sum ≤ 5 * ws.length := sum_le fun y hy => (x y hy).2
theorem WOk.len {ws : List (List Nat)} (x : WOk ws) : (jn 44 ws).length ≤ 6 * ws.length := by
  have h1 := jn_len 44 ws
  have h2 := x.sum
  omega
theorem WOk.lt {ws : List (List Nat)} (x : WOk ws) (t : Tn) : xs (t.ta ++ sg "XDR," ++ jn 44 ws) < 128 := xs_lt fun c hc => by
  rcases List.mem_append.mp hc with h | h
  · exact (head_lt t c h).1
  · exact (al_plain c (x.chars c h)).2.2
theorem WOk.line {ws : List (List Nat)} (x : WOk ws) (t : Tn) (hl : ws.length ≤ 100) : LineOk t.ta (jn 44 ws) (xs (t.ta ++ sg "XDR," ++ jn 44 ws)) where
  tk := ta_mem t
  nostar := fun z => (al_plain _ (x.chars _ z)).1 rfl
  len := by have := x.len; omega
  nn := by have := x.lt t; omega
  xx := by have := x.lt t; omega
theorem WOk.spl {ws : List (List Nat)} (x : WOk ws) (h : ws ≠ []) : spl 44 (jn 44 ws) = ws := spl_jn h fun y hy z => al_word ((x y hy).1 44 z)
def newW (N k : Nat) (t : Tn) : List (List Nat) := t.words.set ((N + k) % 4) (txt ((N : Int) - (k : Nat)))
theorem words_wok (t : Tn) : WOk t.words := words_ok t
theorem newW_ok {N k : Nat} {t : Tn} (h1 : N ≤ 777) (h2 : k ≤ 7) : WOk (newW N k t) := (words_wok t).set (by omega) (by omega) _
theorem newW_len {N k : Nat} {t : Tn} : (newW N k t).length = t.words.length := by unfold newW; simp
theorem flat_at : ∀ (ns : List Int) (i j : Nat) (n : Int), ns[i]? = some n → j < 4 → ((ns.map rd).flatten)[4 * i + j]? = (rd n)[j]?
  | [], i, j, n, h, _ => by simp at h
  | m :: r, 0, j, n, h, hj => by
    have : m = n := by simpa using h
    subst this
    rw [List.map_cons, List.flatten_cons, List.getElem?_append_left (by rw [rd_len]; omega)]
    congr 1; omega
  | m :: r, i + 1, j, n, h, hj => by
    rw [List.map_cons, List.flatten_cons, List.getElem?_append_right (by rw [rd_len]; omega), rd_len]
    rw [show 4 * (i + 1) + j - 4 = 4 * i + j by omega]
    exact flat_at r i j n (by simpa using h) hj
theorem words_at {t : Tn} {i j : Nat} {n : Int} (h : t.2[i]? = some n) (hj : j < 4) : t.words[4 * i + j]? = (rd n)[j]? := by
  unfold Tn.words
  have hi : i < t.2.length := (List.getElem?_eq_some_iff.mp h).1
  rw [List.getElem?_append_left (by rw [flat_len]; omega)]
  exact flat_at _ _ _ _ h hj
theorem words_quot (t : Tn) : t.words.length / 4 = t.2.length := by have := words_len t; omega
end
section
/-! the law's own statements, by their number -/
noncomputable def lawFd (P : Params) : Option FuncData := match (hd.heap_39 P).lookup 450 with | some ⟨_, _, .func fd, _⟩ => some fd | _ => none
noncomputable def lawStmt (P : Params) (i : Nat) : Option Stmt := (lawFd P).bind fun fd => match fd.body with | .stmts b => b[i]? | _ => none
noncomputable def lawScope (P : Params) : Option Scope := (lawFd P).map (·.scope)
theorem lawStmt_of {P : Params} {i : Nat} {st : Stmt} {oc cdv ct dV kV doc pm : Value} {od an : Option Addr} {osl : Array (Option Value)} {name qual : Str} {params : Arguments} {body : List Stmt} {scope : Scope}
    (h : (hd.heap_39 P).lookup 450 = some ⟨oc, od, .func (fnOf name qual params body scope dV kV doc pm an cdv ct), osl⟩) (e : body[i]? = some st) : lawStmt P i = some st := by
  unfold lawStmt lawFd
  rw [h]
  exact e
theorem lawScope_of {P : Params} {oc : Value} {od : Option Addr} {osl : Array (Option Value)} {fd : FuncData} (h : (hd.heap_39 P).lookup 450 = some ⟨oc, od, .func fd, osl⟩) : lawScope P = some fd.scope := by
  unfold lawScope lawFd
  rw [h]; rfl
def IntsOf (vs : Array Value) (ns : List Int) : Prop := vs.size = ns.length ∧ ∀ (i : Nat) (n : Int), ns[i]? = some n → ∃ t, vs[i]? = some (.int n t)
theorem IntsOf.cut {vs : Array Value} {ns : List Int} (x : IntsOf vs ns) (a b : Nat) : IntsOf ((vs.toList.take b).drop a).toArray ((ns.take b).drop a) := by
  refine ⟨by simp [x.1], fun i n e => ?_⟩
  rw [List.getElem?_drop, List.getElem?_take] at e
  by_cases hb : a + i < b
  · rw [if_pos hb] at e
    obtain ⟨t, ht⟩ := x.2 _ _ e
    refine ⟨t, ?_⟩
    rw [List.getElem?_toArray, List.getElem?_drop, List.getElem?_take, if_pos hb, Array.getElem?_toList]
    exact ht
  · rw [if_neg hb] at e; cases e
theorem IntsOf.val {vs : Array Value} {ns : List Int} (x : IntsOf vs ns) {i : Nat} {z : Value} (e : vs[i]? = some z) : ∃ n t, ns[i]? = some n ∧ z = .int n t := by
  have hi : i < ns.length := by rw [← x.1]; exact (Array.getElem?_eq_some_iff.mp e).1
  obtain ⟨t, ht⟩ := x.2 i _ (List.getElem?_eq_getElem hi)
  rw [e] at ht
  exact ⟨_, t, List.getElem?_eq_getElem hi, Option.some.inj ht⟩
/-- one that is asked: its tuple, its readings, its words -/
structure AskAt (h : Heap) (q : Trip) (t : Tn) (ws : List (List Nat)) : Prop where
  tup : ∃ tt, IsTup h q.1 #[.str (S t.ta) tt, .ref q.2.1, .ref q.2.2]
  grp : ∃ gi, h.IsList q.2.1 gi ∧ gi.size = t.2.length ∧ ∀ (i : Nat) (n : Int), t.2[i]? = some n → ∃ r its, gi[i]? = some (.ref r) ∧ IsTup h r its ∧ Strs its.toList (rd n)
  wds : ∃ wi, h.IsList q.2.2 wi ∧ Strs wi.toList ws
theorem AskAt.keep {h h' : Heap} {q : Trip} {t : Tn} {ws : List (List Nat)} (x : AskAt h q t ws) (k : h.StaysIn h') : AskAt h' q t ws where
  tup := let ⟨tt, o, e, r⟩ := x.tup; ⟨tt, o, k _ _ e, r⟩
  grp := let ⟨gi, ⟨o, e, r⟩, sz, f⟩ := x.grp; ⟨gi, ⟨o, k _ _ e, r⟩, sz, fun i n hn => let ⟨r, its, a, ⟨o, e, z⟩, c⟩ := f i n hn; ⟨r, its, a, ⟨o, k _ _ e, z⟩, c⟩⟩
  wds := let ⟨wi, ⟨o, e, r⟩, f⟩ := x.wds; ⟨wi, ⟨o, k _ _ e, r⟩, f⟩
theorem AskAt.live {h : Heap} {q : Trip} {t : Tn} {ws : List (List Nat)} (x : AskAt h q t ws) : ∀ b ∈ q.on, ∃ o, h.get? b = some o := fun b hb => by
  simp only [Trip.on, List.mem_cons, List.not_mem_nil, or_false] at hb
  rcases hb with rfl | rfl | rfl
  · obtain ⟨tt, o, e, r⟩ := x.tup; exact ⟨o, e⟩
  · obtain ⟨gi, ⟨o, e, r⟩, _⟩ := x.grp; exact ⟨o, e⟩
  · obtain ⟨wi, ⟨o, e, r⟩, _⟩ := x.wds; exact ⟨o, e⟩
structure AskAll (B h : Heap) (L la : Addr) (ts : List Tn) (as : List Trip) : Prop where
  lst : ∃ m, h.get? la = some (LObj (as.map fun q => Value.ref q.1).toArray m)
  len : as.length = ts.length
  each : ∀ (k : Nat) (q : Trip) (t : Tn), as[k]? = some q → ts[k]? = some t → AskAt (cut [L, la] h) q t t.words
  sep : as.Pairwise (fun a b => ∀ y ∈ a.on, y ∉ b.on)
  gw : ∀ q ∈ as, q.2.1 ≠ q.2.2
  new : ∀ q ∈ as, ∀ y ∈ q.on, B.get? y = none
abbrev nKinds : Str := Str.ofString "kinds"
abbrev nNumbers : Str := Str.ofString "numbers"
abbrev nLog : Str := Str.ofString "log"
abbrev nAsked : Str := Str.ofString "asked"
abbrev nAt : Str := Str.ofString "at"
structure BInv (B : Heap) (L la ln kd : Addr) (at_ : Nat) (dn : List Tn) (h : Heap) : Prop where
  keep : B.StaysIn h
  ns : ∃ t1 t2, NsHas h L [(nKinds, .ref kd), (nNumbers, .ref ln), (nLog, .str (S (logOf dn)) t1), (nAsked, .ref la), (nAt, .int (at_ : Nat) t2)]
  ask : ∃ as, AskAll B h L la (askedOf dn) as
theorem ite_mid {α : Type} {M : Model} {A : Around} {c : Cfg} {h : Heap} {t1 t2 : Sem α} {b : Bool} {Q Q' : α → Heap → Prop} {E : Value → Heap → Prop} (h1 : b = true → D M A c t1 h Q' (fun _ _ => False)) (h2 : b = false → D M A c t2 h Q' (fun _ _ => False)) (k : ∀ a h', Q' a h' → Q a h') : if b = true then D M A c t1 h Q E else D M A c t2 h Q E := by
  cases b with
  | true => exact d_mono (h1 rfl) k fun _ _ z => z.elim
  | false => exact d_mono (h2 rfl) k fun _ _ z => z.elim
theorem AskAll.keep {B h h' : Heap} {L la : Addr} {ts : List Tn} {as : List Trip} (x : AskAll B h L la ts as) (n : la ≠ L) (k : ∀ b o, b ≠ L → h.get? b = some o → h'.get? b = some o) : AskAll B h' L la ts as where
  lst := let ⟨m, e⟩ := x.lst; ⟨m, k _ _ n e⟩
  len := x.len
  each := fun i q t e1 e2 => (x.each i q t e1 e2).keep (cut_mono fun b o hb e => k b o (fun z => hb (by simp [z])) e)
  sep := x.sep
  gw := x.gw
  new := x.new
abbrev nSaid : Str := Str.ofString "said"
abbrev nMark : Str := Str.ofString "mark"
abbrev nN : Str := Str.ofString "n"
theorem said0_split (t : Tn) : t.said0 = (t.ta ++ sg "XDR,") ++ t.body0 := rfl
theorem said0_len (t : Tn) : t.said0.length = 6 + t.body0.length := by
  have l2 : t.ta.length = 2 := talk_len _ (ta_mem t)
  have l4 : (sg "XDR,").length = 4 := rfl
  rw [said0_split, List.length_append, List.length_append, l2, l4]
theorem head_len (t : Tn) : (t.ta ++ sg "XDR,").length = 6 := by
  have l2 : t.ta.length = 2 := talk_len _ (ta_mem t)
  have l4 : (sg "XDR,").length = 4 := rfl
  rw [List.length_append, l2, l4]
theorem strike_said {t : Tn} (h : t.2 ≠ []) (hs : t.struck = true) : t.said0.take (6 + t.place) ++ [t.body0.getD t.place 0 ^^^ t.bit] ++ t.said0.drop (6 + t.place + 1) = t.ta ++ sg "XDR," ++ t.body := by
  rw [said0_split, List.take_append, List.drop_append, head_len]
  rw [List.take_of_length_le (by rw [head_len]; omega), List.drop_of_length_le (by rw [head_len]; omega)]
  rw [show 6 + t.place - 6 = t.place by omega, show 6 + t.place + 1 - 6 = t.place + 1 by omega, List.nil_append]
  unfold Tn.body
  rw [if_pos hs]
  unfold strike
  simp only [List.append_assoc]
theorem said_at {t : Tn} (h : t.2 ≠ []) : t.said0[6 + t.place]? = some (t.body0.getD t.place 0) := by
  rw [said0_split, List.getElem?_append_right (by rw [head_len]; omega), head_len, show 6 + t.place - 6 = t.place by omega]
  rw [List.getD_eq_getElem?_getD, List.getElem?_eq_getElem (place_lt h)]; rfl
theorem xor_lt {t : Tn} (h : t.2 ≠ []) : t.body0.getD t.place 0 ^^^ t.bit < 128 := by
  have hm : t.body0.getD t.place 0 ∈ t.body0 := by
    rw [List.getD_eq_getElem?_getD, List.getElem?_eq_getElem (place_lt h)]
    exact List.getElem_mem _
  exact (al_xor _ (body0_ok t _ hm) _ (by rcases bit_is t with z | z <;> simp [z])).2.2
theorem asked_struck {dn : List Tn} {t : Tn} (h : t.struck = true) : askedOf (dn ++ [t]) = askedOf dn := by unfold askedOf; simp [h]
theorem asked_plain {dn : List Tn} {t : Tn} (h : t.struck = false) : askedOf (dn ++ [t]) = askedOf dn ++ [t] := by unfold askedOf; simp [h]
theorem log_more {dn : List Tn} {t : Tn} : logOf dn ++ ((if t.1.fmod 2 == 0 then [36] else []) ++ (t.ta ++ sg "XDR," ++ t.body) ++ (sg "*" ++ hex2 (xs t.said0) ++ [13, 10])) = logOf (dn ++ [t]) := by
  rw [logOf_app]
  congr 1
  have : sg "*" = [42] := rfl
  rw [this]
  unfold logOf Ln.text lineOf Tn.ln
  simp
theorem AskAll.more {B h : Heap} {L la : Addr} {ts : List Tn} {as : List Trip} {t : Tn} {q : Trip} (x : AskAll B h L la ts as) (h' : Heap) (n : la ≠ L) (k : ∀ b o, b ≠ L → b ≠ la → h.get? b = some o → h'.get? b = some o) {m : Nat} (e : h'.get? la = some (LObj ((as.map fun q => Value.ref q.1).toArray.push (.ref q.1)) m))
    (a : AskAt (cut [L, la] h') q t t.words) (nq : ∀ y ∈ q.on, ∀ o, (cut [L, la] h).get? y ≠ some o) (gw : q.2.1 ≠ q.2.2) (kB : B.StaysIn h) (bL : B.get? L = none) (bla : B.get? la = none) : AskAll B h' L la (ts ++ [t]) (as ++ [q]) where
  lst := ⟨m, by rw [e]; simp⟩
  len := by simp [x.len]
  each := fun i p u e1 e2 => by
    by_cases hi : i < as.length
    · rw [List.getElem?_append_left hi] at e1
      rw [List.getElem?_append_left (by rw [← x.len]; exact hi)] at e2
      exact (x.each i p u e1 e2).keep (cut_mono fun b o hb e => k b o (fun z => hb (by simp [z])) (fun z => hb (by simp [z])) e)
    · rw [List.getElem?_append_right (by omega)] at e1
      rw [List.getElem?_append_right (by rw [← x.len]; omega)] at e2
      have h0 : i - as.length = 0 := by
        have := (List.getElem?_eq_some_iff.mp e1).1
        simp at this; omega
      rw [h0] at e1
      rw [← x.len, h0] at e2
      simp at e1 e2
      subst e1 e2
      exact a
  sep := by
    rw [List.pairwise_append]
    refine ⟨x.sep, List.pairwise_singleton _ _, fun p hp c hc y hy z => ?_⟩
    have hc : c = q := by simpa using hc
    subst hc
    obtain ⟨i, hi⟩ := List.mem_iff_getElem?.mp hp
    have hil : i < ts.length := by rw [← x.len]; exact (List.getElem?_eq_some_iff.mp hi).1
    obtain ⟨o, eo⟩ := (x.each i p _ hi (List.getElem?_eq_getElem hil)).live y hy
    exact nq y z o eo
  gw := fun p hp => by
    rcases List.mem_append.mp hp with z | z
    · exact x.gw p z
    · have : p = q := by simpa using z
      rw [this]; exact gw
  new := fun p hp y hy => by
    rcases List.mem_append.mp hp with z | z
    · exact x.new p z y hy
    · have : p = q := by simpa using z
      subst this
      cases e : B.get? y with
      | none => rfl
      | some o =>
        refine absurd (cut_of (kB _ _ e) ?_) (nq y hy o)
        simp only [List.mem_cons, List.not_mem_nil, or_false, not_or]
        exact ⟨fun z => (by rw [z, bL] at e; cases e), fun z => (by rw [z, bla] at e; cases e)⟩
theorem talk_tup {P : Params} {h : Heap} (X : (hd.heap_39 P).In h) : ∃ items : Array Value, IsTup h 428 items ∧ Strs items.toList [sg "YX", sg "II", sg "WI"] := by
  obtain ⟨o, items, n, ho, hc, hd, hs⟩ : ∃ (o : Obj) (items : Array Value) (n : Nat), (hd.heap_39 P).lookup 428 = some o ∧ o.cls = .type "tuple" ∧ o.data = .seq items n ∧ Strs items.toList [sg "YX", sg "II", sg "WI"] :=
    ⟨_, _, _, by k_is, rfl, rfl, .cons (.cons (.cons .nil))⟩
  exact ⟨items, ⟨o, X _ _ ho, hc, n, hd⟩, hs⟩
theorem ta_at (t : Tn) : ([sg "YX", sg "II", sg "WI"] : List (List Nat))[(t.1.fmod 3).toNat]? = some t.ta := by
  have b := fmod_bd t.1 (b := 3) (by decide)
  have : (t.1.fmod 3).toNat < 3 := by omega
  unfold Tn.ta
  generalize (t.1.fmod 3).toNat = j at *
  rcases j with _ | _ | _ | j <;> first | rfl | omega
section
variable {prog : Program} {w : World} {A : Around} {c : Cfg} {h : Heap} {E : Value → Heap → Prop} {env : Env} {L la ln kd : Addr} {B : Heap} {pr : Program} {loose : List Str} {mg mb : Str → Option Value} {ns : List Int} {lv : Array Value} {st : Stmt} {sc : Scope}
theorem build_spec (hst : lawStmt w.params 5 = some st) (hS : lawScope w.params = some sc) (T : Top0 w.params pr loose mg mb B) (hroom : A.depth + 100 < recursionLimit) (hA : A.handled = none) (hE : EnvIs sc L env)
    (bL : B.get? L = none) (bla : B.get? la = none) (hLa : L ≠ la) (hln : B.IsList ln lv) (hlv : IntsOf lv ns) (hn : ns.length ≤ 7) (iv : BInv B L la ln kd 0 [] h) {Q : Flow → Heap → Prop}
    (k : ∀ h', BInv B L la ln kd ns.length (turnsF ns.length ns) h' → Q .next h') : D (model prog w) A c (exec st env) h Q E := by
  have e := Option.some.inj (hst.symm.trans (lawStmt_of (by k_is) rfl))
  have e2 := Option.some.inj (hS.symm.trans (lawScope_of (by k_is)))
  subst e
  subst e2
  dsimp only at hE
  refine d_while ?_
  refine dc_while (fun n h => ∃ at_ dn f, n = ns.length - at_ ∧ at_ ≤ ns.length ∧ (ns.drop at_).length ≤ f ∧ turnsF ns.length ns = dn ++ turnsF f (ns.drop at_) ∧ BInv B L la ln kd at_ dn h) (fun n h z => ?_) ns.length ⟨0, [], ns.length, rfl, Nat.zero_le _, by simp, by simp, iv⟩
  obtain ⟨at_, dn, f, rfl, hat, hf, hT, iv⟩ := z
  obtain ⟨t1, t2, nsL⟩ := iv.ns
  have F := nsL.frl
  have Th : Top0 w.params pr loose mg mb (h.hide L) := T.keeps fun b o e => hide_of (iv.keep b o e) fun z => by rw [z, bL] at e; cases e
  have hln' : (h.hide L).IsList ln lv := let ⟨o, e, r⟩ := hln; ⟨o, hide_of (iv.keep _ _ e) (fun z => by rw [z, bL] at e; cases e), r⟩
  repeat walk_at "d1"
  have hlnh : h.IsList ln lv := let ⟨o, e, r⟩ := hln'; ⟨o, Heap.of_hide e, r⟩
  have hlz : lv.size ≤ 7 := by rw [hlv.1]; exact hn
  refine d_lenList hlnh (by omega) (fun t3 => ?_)
  repeat walk_at "d1"
  rw [hlv.1]
  by_cases hlt : at_ < ns.length
  · refine ite_yes (by simp; omega) ?_
    obtain ⟨n, hn'⟩ : ∃ n, ns[at_]? = some n := ⟨_, List.getElem?_eq_getElem hlt⟩
    obtain ⟨tn, hvn⟩ := hlv.2 _ _ hn'
    repeat walk_at "d1"
    refine d_tailList hlnh (i := ((at_ : Nat) : Int)) (j := at_) rfl (by omega) hvn ?_
    repeat walk_at "d1"
    rename_i h₂ F2
    have b3 := fmod_bd (n.fdiv 7) (b := 3) (by decide)
    have ecnt : ((at_ : Nat) : Int) + (n.fdiv 7).fmod 3 + 1 = ((at_ + cnt n : Nat) : Int) := by unfold cnt; omega
    have hln2 : h₂.IsList ln lv := let ⟨o, e, r⟩ := hln'; ⟨o, F2.keep _ _ e, r⟩
    have hbase : ∀ b o, b ≠ L → h.get? b = some o → h₂.get? b = some o := fun b o hb e => F2.keep _ _ (hide_of e hb)
    refine d_assignComp (Fy := fun i y h => ∃ m r its, ((ns.drop at_).take (cnt n))[i]? = some m ∧ y = .ref r ∧ IsTup h r its ∧ Strs its.toList (rd m)) (bs := [(Str.ofString "n", .int n tn), (nKinds, .ref kd), (nNumbers, .ref ln), (nLog, .str (S (logOf dn)) t1), (nAsked, .ref la), (nAt, .int (at_ : Nat) t2)]) hE hA (by decide) (by decide) ?_
    repeat walk_at "d1"
    rw [ecnt]
    refine d_mkSlice F2 (fun h₃ a F3 hsl k3 => ?_)
    have hln3 : h₃.IsList ln lv := let ⟨o, e, r⟩ := hln2; ⟨o, k3 _ _ e, r⟩
    refine d_tailSlList (lo := some (at_, _)) (hi := some (at_ + cnt n, _)) hln3 hsl (by omega) (fun h₄ G k4 nG hG => ?_)
    dsimp only [Option.map_some, Option.getD_some] at hG
    have hints := hlv.cut at_ (at_ + cnt n)
    rw [show (ns.take (at_ + cnt n)).drop at_ = (ns.drop at_).take (cnt n) by rw [List.drop_take, Nat.add_sub_cancel_left]] at hints
    obtain ⟨grp, hgrp⟩ : ∃ grp, grp = (ns.drop at_).take (cnt n) := ⟨_, rfl⟩
    rw [← hgrp] at hints ⊢
    generalize ((lv.toList.take (at_ + cnt n)).drop at_).toArray = gi at hG hints
    have hgl : grp.length ≤ 3 := by rw [hgrp, List.length_take]; unfold cnt; omega
    have k24 := stays_trans k3 k4
    have kB4 : B.StaysIn h₄ := fun b o e => k24 _ _ (hbase _ _ (fun z => by rw [z, bL] at e; cases e) (iv.keep _ _ e))
    have ns4 : NsHas h₄ L _ := (show NsHas h₂ L _ from F2.ns).keep fun o e => k24 _ _ e
    refine ⟨G, gi, rfl, hG, ⟨by rw [hints.1]; omega, ?_, ?_⟩, ns4, ?_⟩
    · rintro i y a b k ⟨m, r, its, e1, e2, ⟨o, e3, e4⟩, e5⟩
      exact ⟨m, r, its, e1, e2, ⟨o, k _ _ e3, e4⟩, e5⟩
    · intro i z C cenv h₅ hz kz hEc FC nC
      obtain ⟨m, tm, hm, rfl⟩ := hints.val hz
      have bC : B.get? C = none := none_of_stays kB4 nC
      have TC : Top0 w.params pr loose mg mb (h₅.hide C) := T.keeps fun b o e => hide_of (kz _ _ (kB4 _ _ e)) fun z => by rw [z, bC] at e; cases e
      repeat walk_at "d1"
      refine d_withK (K := hd.heap_39 w.params) (by k_is) ?_
      repeat walk_at "d1"
      have T5 : Top0 w.params pr loose mg mb h₅ := T.keeps fun b o e => kz _ _ (kB4 _ _ e)
      refine ⟨T5.K, d_call (reading_spec T5 (by omega) m tm (fun h₆ r vs k6 nr ht hs => ?_))⟩
      refine ⟨fun b o e => k6 _ _ (Heap.of_hide e), let ⟨m, n, _⟩ := FC.ns; ⟨m, ns_same n k6⟩, fun ws hws => ⟨m, r, vs.toArray, hm, rfl, ?_, by simpa using hs⟩⟩
      obtain ⟨o, e, q⟩ := ht
      refine ⟨o, cut_of e (fun z => ?_), q⟩
      obtain ⟨o', e'⟩ := hws r z
      rw [nr] at e'; cases e'
    · intro h₇ Da ys k7 ns7 nDa lDa hyl hyf
      have kB7 : B.StaysIn h₇ := fun b o e => k7 _ _ (fun z => by rw [z, bL] at e; cases e) (kB4 _ _ e)
      have F7 := ns7.frl
      have T7 : Top0 w.params pr loose mg mb (h₇.hide L) := T.keeps fun b o e => hide_of (kB7 _ _ e) fun z => by rw [z, bL] at e; cases e
      have hysl : ys.length = grp.length := hyl.trans hints.1
      have hDaL : Da ≠ L := fun z => by obtain ⟨m, ⟨o, es, ep, e, _⟩, _⟩ := ns4; rw [z, e] at nDa; cases nDa
      clear F F2 F3
      repeat walk_at "d1"
      refine d_lenList lDa (by simp; omega) (fun t4 => ?_)
      repeat walk_at "d1"
      refine d_iaddInt (fun t5 => ?_)
      refine d_store hE F7.all (fun h₈ F8 => ?_)
      have k78 : ∀ b o, b ≠ L → h₇.get? b = some o → h₈.get? b = some o := fun b o hb e => F8.keep _ _ (hide_of e hb)
      have lDa8 : h₈.IsList Da ys.toArray := let ⟨o, e, r⟩ := lDa; ⟨o, k78 _ _ hDaL e, r⟩
      have hyf8 : ∀ (i : Nat) (y : Value), ys[i]? = some y → ∃ m r its, grp[i]? = some m ∧ y = .ref r ∧ IsTup h₈ r its ∧ Strs its.toList (rd m) := fun i y e => by
        obtain ⟨m, r, its, e1, e2, ⟨o, e3, e4⟩, e5⟩ := hyf i y e
        refine ⟨m, r, its, e1, e2, ⟨o, k78 _ _ (fun z => ?_) e3, e4⟩, e5⟩
        obtain ⟨m', ⟨o', es, ep, e', d', _⟩, _⟩ := ns7
        rw [z, e'] at e3; cases e3
        obtain ⟨_, _, q⟩ := e4
        rw [d'] at q; cases q
      obtain ⟨rows, r1, r2, r3, r4⟩ := rows_of ys grp hysl hyf8
      repeat walk_at "d1"
      refine d_flat hE hA ?_
      repeat walk_at "d1"
      refine ⟨Da, _, rows, rfl, lDa8, fun i v e => r2 i v (by simpa using e), by simp [r1], by omega, fun h₉ Df k9 nDf lDf => ?_⟩
      have F9 := F8.back k9
      clear F7 F8
      repeat walk_at "d1"
      refine d_newListL (by simp) (fun h₁₀ Dx k10 nDx hDx => ?_)
      have F10 := F9.back k10
      clear F9
      repeat walk_at "d1"
      have b4 := fmod_bd (n.fdiv 2) (b := 4) (by decide)
      obtain ⟨kx, hkx⟩ : ∃ kx : Nat, (n.fdiv 2).fmod 4 = kx := ⟨((n.fdiv 2).fmod 4).toNat, by omega⟩
      rw [hkx]
      refine d_mkSlice F10 (fun h₁₁ a F11 hsl k11 => ?_)
      refine d_tailSlList (lo := none) (hi := some (kx, _)) (LObj.isList (k11 _ _ hDx)) hsl (by simp) (fun h₁₂ Dy k12 nDy hDy => ?_)
      dsimp only [Option.map_none, Option.map_some, Option.getD_none, Option.getD_some, List.drop_zero] at hDy
      have k912 := stays_trans k10 (stays_trans k11 k12)
      have F12 := F11.back k12
      clear F10 F11
      obtain ⟨tq, htq⟩ : ∃ tq : Tn, tq = (n, grp) := ⟨_, rfl⟩
      have hws : ∀ ta tb tc, Strs (rows.flatten.toArray ++ (List.take kx [Value.str (S (sg "x")) ta, Value.str (S (sg "y")) tb, Value.str (S (sg "z")) tc]).toArray).toList tq.words := by
        intro ta tb tc
        rw [htq]
        unfold Tn.words
        dsimp only
        rw [hkx]
        have e1 : ∀ (a b : List Value), (a.toArray ++ b.toArray).toList = a ++ b := fun a b => by simp
        rw [e1]
        exact Strs.append r3 (Strs.take (.cons (.cons (.cons .nil))) kx)
      have hs1 : rows.flatten.toArray.size ≤ 12 := by rw [List.size_toArray, r4]; omega
      have hs2 : ∀ a b d : Value, (List.take kx [a, b, d]).toArray.size ≤ 3 := fun a b d => by rw [List.size_toArray, List.length_take]; simp; omega
      refine d_addL (let ⟨o, e, r⟩ := lDf; ⟨o, k912 _ _ e, r⟩) hDy (Nat.le_trans (Nat.add_le_add hs1 (hs2 _ _ _)) (by decide)) (fun h₁₃ W m13 k13 nW hW => ?_)
      obtain ⟨wi, hW', hwS⟩ : ∃ wi, h₁₃.get? W = some (LObj wi m13) ∧ Strs wi.toList tq.words := ⟨_, hW, hws _ _ _⟩
      clear hW
      have hW := hW'
      clear hW'
      have F13 := (F12.back k13).all
      have L12 := F12.at
      have k712 : ∀ b o, b ≠ L → h₇.get? b = some o → h₁₂.get? b = some o := fun b o hb e => F12.keep _ _ (hide_of e hb)
      have i13 := (F12.back k13).into
      have T13 := T7.keeps i13
      clear F12
      refine d_store hE F13 (fun h₁₄ F14 => ?_)
      have hWL : W ≠ L := ne_of_new nW L12
      have hW14 := F14.keep _ _ (hide_of hW hWL)
      repeat walk_at "d1"
      obtain ⟨its, hti, hts⟩ := talk_tup (T13.K.keeps F14.keep)
      have b5 := fmod_bd n (b := 3) (by decide)
      obtain ⟨tt, htt⟩ := hts.2 _ _ (ta_at tq)
      rw [Array.getElem?_toList, htq] at htt
      refine d_tailTup hti (j := (n.fmod 3).toNat) (by omega) (by omega) htt ?_
      have hta : Tn.ta (n, grp) = tq.ta := by rw [htq]
      rw [hta]
      clear hti
      have l2 : tq.ta.length = 2 := talk_len _ (ta_mem tq)
      have l4 : (sg "XDR,").length = 4 := rfl
      repeat walk_at "d1"
      have hwl := words_len tq
      have hsl := sum_le fun x hx => (words_ok tq x hx).2
      have hgq : tq.2.length ≤ 3 := by rw [htq]; exact hgl
      refine d_gm (fun M A E s Q q => GM.join q) ?_
      repeat walk_at "d1"
      rename_i h₁₅ F15 za zb zc zd ze
      have hW15 := F15.keep _ _ (hide_of hW hWL)
      refine d_join (k := 44) (LObj.isList hW15) hwS (by omega) (fun t6 => ?_)
      have hjl : (jn 44 tq.words).length ≤ 1000 := Nat.le_trans (body0_len tq) (by omega)
      refine d_addStr (x := tq.ta ++ sg "XDR,") (y := jn 44 tq.words) (by rw [List.length_append]; omega) (fun t7 => ?_)
      change Mine.D _ _ _ (storeName env _ (.str (S tq.said0) t7)) _ _ _
      refine d_store hE F15 (fun h₁₆ F16 => ?_)
      clear F14 F15
      repeat walk_at "d1"
      refine d_withK (K := hd.heap_39 w.params) (by k_is) ?_
      repeat walk_at "d1"
      have T16 := T13.keeps F16.keep
      refine ⟨T16.K, d_call (lawsum_spec T16 (by omega) hA tq.said0 _ (fun h₁₇ t8 k17 => ?_))⟩
      have F17 := F16.back k17
      clear F16
      have hxs := said0_lt tq
      refine d_pct2 (by omega) (fun t9 => ?_)
      refine d_store hE F17 (fun h₁₈ F18 => ?_)
      clear F17
      repeat walk_at "d1"
      have hstr : (n.fmod 5 == 4) = tq.struck := by rw [htq]; rfl
      rw [hstr]
      have hne : tq.2 ≠ [] := by
        rw [htq, hgrp, List.drop_eq_getElem_cons hlt]
        unfold cnt; simp [hlt]
      have kAll : ∀ b o, b ≠ L → h.get? b = some o → h₁₈.get? b = some o := fun b o hb e => F18.keep _ _ (i13 _ _ (hide_of (k7 _ _ hb (k24 _ _ (hbase _ _ hb e))) hb))
      obtain ⟨as, hAs⟩ := iv.ask
      have hAs18 := hAs.keep (Ne.symm hLa) kAll
      have kB18 : B.StaysIn h₁₈ := fun b o e => kAll _ _ (fun z => by rw [z, bL] at e; cases e) (iv.keep _ _ e)
      refine ite_mid (Q' := fun f h' => f = .next ∧ B.StaysIn h' ∧ (∃ as', AskAll B h' L la (askedOf (dn ++ [tq])) as') ∧ ∃ ts tm, NsHas h' L [(nSaid, .str (S (tq.ta ++ sg "XDR," ++ tq.body)) ts), (nMark, .str (S (sg "*" ++ hex2 (xs tq.said0) ++ [13, 10])) tm), (nN, .int n tn), (nKinds, .ref kd), (nNumbers, .ref ln), (nLog, .str (S (logOf dn)) t1), (nAsked, .ref la), (nAt, .int (((at_ : Nat) : Int) + ((ys.toArray.size : Nat) : Int)) t5)]) (fun hs => ?_) (fun hs => ?_) (fun f h' z => ?_)
      · repeat walk_at "d1"
        have hb0 := body0_pos hne
        have hb1 := body0_len tq
        have hpl := place_lt hne
        refine d_lenStr (by rw [said0_len]; omega) (fun t10 => ?_)
        repeat walk_at "d1"
        have esub : ((tq.said0.length : Nat) : Int) - 6 = (tq.body0.length : Nat) := by rw [said0_len]; omega
        rw [esub]
        refine d_modInt (by omega) (fun t11 => ?_) (PyProof.noPylong_of_log2 (Nat.lt_trans (log2_lt (by omega)) (by decide)))
        refine d_addInt (fun t12 => ?_)
        have epl : (6 : Int) + (n.fdiv 3).fmod ((tq.body0.length : Nat) : Int) = ((6 + tq.place : Nat) : Int) := by
          have b := fmod_bd (n.fdiv 3) (b := (tq.body0.length : Int)) (by omega)
          have : (tq.place : Int) = (n.fdiv 3).fmod ((tq.body0.length : Nat) : Int) := by
            have e1 : tq.1 = n := by rw [htq]
            unfold Tn.place
            rw [e1]; omega
          omega
        rw [epl]
        refine d_store hE F18 (fun h₁₉ F19 => ?_)
        clear F18
        have hsl0 := said0_len tq
        repeat walk_at "d1"
        refine d_mkSlice F19 (fun h₂₀ a F20 hsl20 k20 => ?_)
        refine d_cutS (lo := none) (hi := some (6 + tq.place, _)) (y := tq.said0.take (6 + tq.place)) hsl20 (by dsimp only [Option.map_none, Option.map_some, Option.getD_none, Option.getD_some]; rw [List.drop_zero]) (by omega) (fun t13 => ?_)
        clear F19
        repeat walk_at "d1"
        refine d_strItem (j := 6 + tq.place) rfl (said_at hne) (by omega) (fun t14 => ?_)
        repeat walk_at "d1"
        refine d_ifexp ?_
        repeat walk_at "d1"
        refine ite_mid (Q' := fun v h' => h' = h₂₀ ∧ ∃ t, v = .int ((tq.bit : Nat) : Int) t) (fun hz => ?_) (fun hz => ?_) (fun v h' z => ?_)
        · refine d_int (fun t _ => ⟨rfl, t, ?_⟩)
          have : tq.bit = 1 := by rw [htq]; unfold Tn.bit; rw [if_pos hz]
          rw [this]; rfl
        · refine d_int (fun t _ => ⟨rfl, t, ?_⟩)
          have : tq.bit = 16 := by rw [htq]; unfold Tn.bit; rw [if_neg (by rw [hz]; decide)]
          rw [this]; rfl
        · obtain ⟨rfl, t15, rfl⟩ := z
          repeat walk_at "d1"
          rw [bitXor_nat]
          have hcx := xor_lt hne
          refine d_chr (k := tq.body0.getD tq.place 0 ^^^ tq.bit) (by omega) (fun t16 => ?_)
          refine d_addStr (by rw [List.length_take, List.length_singleton]; omega) (fun t17 => ?_)
          repeat walk_at "d1"
          have epl1 : ((6 + tq.place : Nat) : Int) + 1 = ((6 + tq.place + 1 : Nat) : Int) := by omega
          rw [epl1]
          refine d_mkSlice F20 (fun h₂₁ a F21 hsl21 k21 => ?_)
          refine d_cutS (lo := some (6 + tq.place + 1, _)) (hi := none) (y := tq.said0.drop (6 + tq.place + 1)) hsl21 (by dsimp only [Option.map_none, Option.map_some, Option.getD_none, Option.getD_some]; rw [List.take_length]) (by omega) (fun t18 => ?_)
          clear F20
          refine d_addStr (by rw [List.length_append, List.length_take, List.length_singleton, List.length_drop]; omega) (fun t19 => ?_)
          rw [strike_said hne hs]
          refine d_store hE F21 (fun h₂₂ F22 => ?_)
          repeat walk_at "d1"
          have kAll22 : ∀ b o, b ≠ L → h.get? b = some o → h₂₂.get? b = some o := fun b o hb e => F22.keep _ _ (i13 _ _ (hide_of (k7 _ _ hb (k24 _ _ (hbase _ _ hb e))) hb))
          refine ⟨rfl, fun b o e => kAll22 _ _ (fun z => by rw [z, bL] at e; cases e) (iv.keep _ _ e), ⟨as, ?_⟩, t19, t9, (show NsHas h₂₂ L _ from F22.ns).sub ?_⟩
          · rw [asked_struck hs]
            exact hAs.keep (Ne.symm hLa) kAll22
          · exact sub_cons rfl (sub_cons rfl (sub_cons rfl (sub_cons rfl (sub_cons rfl (sub_cons rfl (sub_cons rfl (sub_cons rfl sub_nil)))))))
      · obtain ⟨mla, hla⟩ := hAs18.lst
        repeat walk_at "d1"
        refine d_gmList slot_list_append PySem.F.type_list_append hla ?_
        repeat walk_at "d1"
        refine d_newTuple F18 (by simp) (fun H' h₁₉ Tp kH F19 k19 nT ht => ?_)
        repeat walk_at "d1"
        have hdn : dn.length ≤ 7 := by
          have e1 := turns_len ns.length ns
          rw [hT, List.length_append] at e1
          omega
        have hasl : as.length ≤ 7 := by
          rw [hAs.len]
          exact Nat.le_trans (List.length_filter_le _ _) hdn
        refine d_append (k19 _ _ hla) (by rw [List.size_toArray, List.length_map]; omega) (fun h₂₀ m20 e20 sb20 => ?_)
        repeat walk_at "d1"
        have k1820 : ∀ b o, b ≠ la → h₁₈.get? b = some o → h₂₀.get? b = some o := fun b o hb e => (sb20.2 b hb).trans (k19 _ _ e)
        have k718 : ∀ b o, b ≠ L → h₇.get? b = some o → h₁₈.get? b = some o := fun b o hb e => F18.keep _ _ (i13 _ _ (hide_of e hb))
        have kh7 : ∀ b o, b ≠ L → h.get? b = some o → h₇.get? b = some o := fun b o hb e => k7 _ _ hb (k24 _ _ (hbase _ _ hb e))
        have hbody : tq.ta ++ sg "XDR," ++ tq.body = tq.said0 := by unfold Tn.body; rw [if_neg (by rw [hs]; decide)]; rfl
        have lah : ∃ o, h.get? la = some o := let ⟨m, e⟩ := hAs.lst; ⟨_, e⟩
        have lah18 : ∃ o, h₁₈.get? la = some o := ⟨_, hla⟩
        have hDala : Da ≠ la := fun z => by
          obtain ⟨o, e⟩ := lah
          have := k24 _ _ (hbase _ _ (Ne.symm hLa) e)
          rw [← z, nDa] at this; cases this
        have hWla : W ≠ la := fun z => by
          obtain ⟨o, e⟩ := lah
          have := k712 _ _ (Ne.symm hLa) (kh7 _ _ (Ne.symm hLa) e)
          rw [← z, nW] at this; cases this
        have hTla : Tp ≠ la := ne_of_new nT lah18
        have hTL : Tp ≠ L := ne_of_new nT F18.at
        have ncut : ∀ {a : Addr}, a ≠ L → a ≠ la → a ∉ [L, la] := fun {a} h1 h2 => by simp [h1, h2]
        have hDaW : Da ≠ W := fun z => by
          obtain ⟨o, e, _⟩ := lDa
          have := k712 _ _ hDaL e
          rw [z, nW] at this; cases this
        refine ⟨rfl, fun b o e => k1820 _ _ (fun z => by rw [z, bla] at e; cases e) (kB18 _ _ e), ⟨as ++ [(Tp, Da, W)], ?_⟩, t7, t9, ?_⟩
        · rw [asked_plain hs]
          refine hAs.more h₂₀ (Ne.symm hLa) (fun b o h1 h2 e => k1820 _ _ h2 (kAll _ _ h1 e)) e20 ⟨⟨tt, ?_⟩, ⟨ys.toArray, ?_, ?_, ?_⟩, ⟨wi, ?_, hwS⟩⟩ ?_ hDaW iv.keep bL bla
          · obtain ⟨o, e, q⟩ := ht.keeps F19.keep
            exact ⟨o, cut_of ((sb20.2 _ hTla).trans e) (ncut hTL hTla), q⟩
          · obtain ⟨o, e, q⟩ := lDa
            exact ⟨o, cut_of (k1820 _ _ hDala (k718 _ _ hDaL e)) (ncut hDaL hDala), q⟩
          · rw [List.size_toArray, hysl, htq]
          · intro i n' hn'
            rw [htq] at hn'
            have hil : i < ys.length := by rw [hysl]; exact (List.getElem?_eq_some_iff.mp hn').1
            obtain ⟨m, r, its', q1, q2, ⟨o, q3, q4⟩, q5⟩ := hyf i _ (List.getElem?_eq_getElem hil)
            have q1' : grp[i]? = some n' := hn'
            rw [q1] at q1'; cases q1'
            have rL : r ≠ L := fun z => by
              obtain ⟨m', ⟨o', es, ep, e', d', _⟩, _⟩ := ns7
              rw [z, e'] at q3; cases q3
              obtain ⟨_, _, q⟩ := q4
              rw [d'] at q; cases q
            have rla : r ≠ la := fun z => by
              obtain ⟨m', e'⟩ := hAs.lst
              have := kh7 _ _ (Ne.symm hLa) e'
              rw [← z, q3] at this; cases this
              exact absurd (Value.type.inj q4.1) (by decide)
            exact ⟨r, its', by rw [List.getElem?_toArray, List.getElem?_eq_getElem hil, q2], ⟨o, cut_of (k1820 _ _ rla (k718 _ _ rL q3)) (ncut rL rla), q4⟩, q5⟩
          · exact ⟨_, cut_of (k1820 _ _ hWla (F18.keep _ _ (hide_of hW hWL))) (ncut hWL hWla), rfl, _, rfl⟩
          · intro y hy o e
            have e1 := of_cut e
            have yL : y ≠ L := fun z => by rw [z, cut_no (by simp)] at e; cases e
            simp only [Trip.on, List.mem_cons, List.not_mem_nil, or_false] at hy
            rcases hy with rfl | rfl | rfl
            · rw [kAll _ _ yL e1] at nT; cases nT
            · rw [k24 _ _ (hbase _ _ yL e1)] at nDa; cases nDa
            · rw [k712 _ _ yL (kh7 _ _ yL e1)] at nW; cases nW
        · rw [hbody]
          exact ((show NsHas h₁₉ L _ from F19.ns).keep fun o e => (sb20.2 _ hLa).trans e).sub (sub_cons rfl (sub_cons rfl (sub_cons rfl (sub_cons rfl (sub_cons rfl (sub_cons rfl (sub_cons rfl (sub_cons rfl sub_nil))))))))
      · obtain ⟨rfl, kB', ⟨as', hAs'⟩, ts, tm, ns'⟩ := z
        dsimp only
        have eat : ((at_ : Nat) : Int) + ((ys.toArray.size : Nat) : Int) = ((at_ + grp.length : Nat) : Int) := by rw [List.size_toArray, hysl]; omega
        rw [eat] at ns'
        have F20 := ns'.frl
        have T20 : Top0 w.params pr loose mg mb (h'.hide L) := T.keeps fun b o e => hide_of (kB' _ _ e) fun z => by rw [z, bL] at e; cases e
        have hturns : ∀ t ∈ turnsF ns.length ns, t.2 ≠ [] ∧ t.2.length ≤ 3 := fun t ht => ⟨(turns_ok _ _ t ht).1, (turns_ok _ _ t ht).2.1⟩
        have hdn : dn.length ≤ 7 := by
          have e1 := turns_len ns.length ns
          rw [hT, List.length_append] at e1
          omega
        have hlog : (logOf dn).length ≤ 777 := by
          have := logOf_len (ts := dn) fun t ht => hturns t (by rw [hT]; exact List.mem_append_left _ ht)
          omega
        have hbl : tq.body.length ≤ 100 := by
          have h1 := body0_len tq
          rw [body_len hne]; omega
        repeat walk_at "d1"
        refine d_ifexp ?_
        repeat walk_at "d1"
        refine ite_mid (Q' := fun v h₁ => h₁ = h' ∧ ∃ t, v = .str (S (if tq.1.fmod 2 == 0 then [36] else [])) t) (fun hz => ?_) (fun hz => ?_) (fun v h₁ z => ?_)
        · refine d_strC (fun t _ => ⟨rfl, t, ?_⟩)
          rw [htq, if_pos hz]; rfl
        · refine d_strC (fun t _ => ⟨rfl, t, ?_⟩)
          rw [htq, if_neg (by rw [hz]; decide)]; rfl
        · obtain ⟨rfl, t20, rfl⟩ := z
          have hdl : (if tq.1.fmod 2 == 0 then [36] else [] : List Nat).length ≤ 1 := by split <;> simp
          have hx2 : (hex2 (xs tq.said0)).length = 2 := rfl
          have l1 : (sg "*").length = 1 := rfl
          have hsl2 : (tq.ta ++ sg "XDR," ++ tq.body).length ≤ 106 := by rw [List.length_append, head_len]; omega
          have hml : (sg "*" ++ hex2 (xs tq.said0) ++ [13, 10]).length = 5 := rfl
          repeat walk_at "de"
          refine d_addStr (by omega) (fun t21 => ?_)
          repeat walk_at "de"
          refine d_addStr (by rw [List.length_append]; omega) (fun t22 => ?_)
          refine d_iaddStr (by rw [List.length_append, List.length_append]; omega) (fun t23 => ?_)
          have elog := log_more (dn := dn) (t := tq)
          rw [elog]
          refine d_store hE F20 (fun h₂₁ F21 => ?_)
          refine d_nil ?_
          dsimp only
          obtain ⟨f', rfl⟩ : ∃ f', f = f' + 1 := by
            refine ⟨f - 1, ?_⟩
            rw [List.length_drop] at hf
            omega
          have hdrop : ns.drop at_ = n :: ns.drop (at_ + 1) := by
            rw [List.drop_eq_getElem_cons hlt]
            congr 1
            exact (List.getElem?_eq_some_iff.mp hn').2
          have hgl2 : grp.length = min (cnt n) (ns.length - at_) := by rw [hgrp, List.length_take, List.length_drop]
          have hde : (ns.drop at_).drop (cnt n) = ns.drop (at_ + grp.length) := by
            rw [List.drop_drop]
            by_cases z : cnt n ≤ ns.length - at_
            · rw [hgl2, Nat.min_eq_left z]
            · rw [List.drop_of_length_le (by omega), List.drop_of_length_le (by omega)]
          have hgp : 0 < grp.length := by
            have : grp ≠ [] := by have := hne; rw [htq] at this; exact this
            exact List.length_pos_iff.mpr this
          refine ⟨ns.length - (at_ + grp.length), by omega, at_ + grp.length, dn ++ [tq], f', rfl, by omega, ?_, ?_, ?_⟩
          · rw [List.length_drop] at hf ⊢; omega
          · rw [hT, hdrop]
            show dn ++ ((n, (n :: ns.drop (at_ + 1)).take (cnt n)) :: turnsF f' ((n :: ns.drop (at_ + 1)).drop (cnt n))) = _
            rw [← hdrop, ← hgrp, ← htq, hde, List.append_assoc]; rfl
          · have kk : ∀ b o, b ≠ L → h₁.get? b = some o → h₂₁.get? b = some o := fun b o hb e => F21.keep _ _ (hide_of e hb)
            exact ⟨fun b o e => kk _ _ (fun z => by rw [z, bL] at e; cases e) (kB' _ _ e), ⟨_, _, (show NsHas h₂₁ L _ from F21.ns).sub (sub_cons rfl (sub_cons rfl (sub_cons rfl (sub_cons rfl (sub_cons rfl sub_nil)))))⟩, ⟨as', hAs'.keep (Ne.symm hLa) kk⟩⟩
  · refine ite_no (by simp; omega) ?_
    have e0 : at_ = ns.length := by omega
    subst e0
    rw [List.drop_length] at hT
    have hTd : turnsF f [] = [] := by cases f <;> rfl
    rw [hTd, List.append_nil] at hT
    rw [hT] at k
    exact k h iv
end
end
section
abbrev nReader : Str := Str.ofString "reader"
abbrev nHeard : Str := Str.ofString "heard"
abbrev nFed : Str := Str.ofString "fed"
abbrev nStep : Str := Str.ofString "step"
/-- a sentence that stands for a turn -/
def SenK (P : Params) (h : Heap) (a : Trip) (t : Tn) (ws : List (List Nat)) : Prop := ∃ t1 t2 items, Sen P h a.1 a.2.1 a.2.2 (.str (S t.ta) t1) (.str (S (sg "XDR")) t2) items ∧ Strs items.toList ws
theorem SenK.keep {P : Params} {h h' : Heap} {a : Trip} {t : Tn} {ws : List (List Nat)} (x : SenK P h a t ws) (k : h.StaysIn h') : SenK P h' a t ws := by
  obtain ⟨t1, t2, items, ⟨⟨ta, tb, tc, I⟩, o, e, r⟩, s⟩ := x
  exact ⟨t1, t2, items, ⟨⟨ta, tb, tc, I.keeps k⟩, o, k _ _ e, r⟩, s⟩
theorem SenK.live {P : Params} {h : Heap} {a : Trip} {t : Tn} {ws : List (List Nat)} (x : SenK P h a t ws) : ∀ b ∈ a.on, ∃ o, h.get? b = some o := fun b hb => by
  obtain ⟨t1, t2, items, ⟨⟨ta, tb, tc, I⟩, o, e, r⟩, s⟩ := x
  simp only [Trip.on, List.mem_cons, List.not_mem_nil, or_false] at hb
  rcases hb with rfl | rfl | rfl
  · exact ⟨_, I.x⟩
  · exact ⟨_, I.d⟩
  · exact ⟨o, e⟩
structure Heard (P : Params) (B : Heap) (L dxr lh : Addr) (ex : List Addr) (ts : List Tn) (as : List Trip) (h : Heap) : Prop where
  lst : ∃ m, h.get? lh = some (LObj (as.map fun q => Value.ref q.1).toArray m)
  len : as.length = ts.length
  each : ∀ (k : Nat) (a : Trip) (t : Tn), as[k]? = some a → ts[k]? = some t → SenK P (cut (L :: dxr :: lh :: ex) h) a t t.words ∧ a.1 ≠ a.2.1
  sep : as.Pairwise (fun a b => ∀ y ∈ a.on, y ∉ b.on)
  new : ∀ a ∈ as, ∀ y ∈ a.on, B.get? y = none
theorem Heard.keep {P : Params} {B : Heap} {L dxr lh : Addr} {ex : List Addr} {ts : List Tn} {as : List Trip} {h h' : Heap} (x : Heard P B L dxr lh ex ts as h) (n : lh ∉ L :: dxr :: ex) (k : Keeps1 (L :: dxr :: ex) h h') : Heard P B L dxr lh ex ts as h' where
  lst := let ⟨m, e⟩ := x.lst; ⟨m, k _ _ n e⟩
  len := x.len
  each := fun i a t e1 e2 => ⟨(x.each i a t e1 e2).1.keep (cut_mono (keeps1_more k fun p hp => by
    simp only [List.mem_cons] at hp ⊢
    rcases hp with z | z | z
    · exact .inl z
    · exact .inr (.inl z)
    · exact .inr (.inr (.inr z)))), (x.each i a t e1 e2).2⟩
  sep := x.sep
  new := x.new
structure FInv (P : Params) (B : Heap) (L xr dxr lh la kd : Addr) (ex : List Addr) (ts : List Tn) (fed j : Nat) (buf : List Nat) (h : Heap) : Prop where
  keep : B.StaysIn h
  ns : ∃ t1 t2, NsHas h L [(nKinds, .ref kd), (nLog, .str (S (logOf ts)) t1), (nAsked, .ref la), (nReader, .ref xr), (nHeard, .ref lh), (nFed, .int ((fed : Nat) : Int) t2)]
  rd : ∃ ta tb tc te t0, Inst h xr 423 dxr (res P ta tb tc (.str (S (sg "ignore")) te) (.str (S buf) t0)) 3
  hd : ∃ as, Heard P B L dxr lh ex (askedOf (ts.take j)) as h
  txt : logOf (ts.take j) ++ buf = (logOf ts).take fed
  free : 10 ∉ buf
  jl : j ≤ ts.length
theorem filter_ln (ts : List Tn) (h : ∀ t ∈ ts, t.2 ≠ []) : (ts.map Tn.ln).filter Ln.good = (askedOf ts).map Tn.ln := by
  induction ts with
  | nil => rfl
  | cons t r ih =>
    have i := ih fun x hx => h x (List.mem_cons_of_mem _ hx)
    have g := ln_good (h t (by simp))
    unfold askedOf at i ⊢
    rw [List.map_cons]
    cases hs : t.struck
    · rw [List.filter_cons_of_pos (by rw [g, hs]; rfl), List.filter_cons_of_pos (by rw [hs]; rfl), List.map_cons, i]
    · rw [List.filter_cons_of_neg (by rw [g, hs]; decide), List.filter_cons_of_neg (by rw [hs]; decide), i]
section
variable {prog : Program} {w : World} {A : Around} {c : Cfg} {h : Heap} {env : Env} {L la kd xr dxr lh : Addr} {B : Heap} {pr : Program} {loose : List Str} {mg mb : Str → Option Value} {ES : Value → Shared → Prop}
theorem d_gmReader {dx : Addr} {es : List DictEntry} {n : Nat} {pl : Sem Bool} {E : Value → Heap → Prop} {Q : Value × List Value → Heap → Prop} (X : (hd.heap_39 w.params).In h) (I : Inst h xr 423 dx es n) (hl : getL (Str.ofString "next") es = some none) (q : Q (.ref 420, [.ref xr]) h) :
    D (model prog w) A c (getMethod (.ref xr) (Str.ofString "next") pl) h Q E := ⟨fun tk p =>
  method_fn (s := c.st h tk) X I.at (by k_is) (by k_is) (by k_is) (by k_is) (by show (lookIn _ (dictOf es n)).map _ = _; rw [lookIn_dict, hl]; rfl) (.mk p q)⟩
theorem asked_sub {ts : List Tn} {t : Tn} (h : t ∈ askedOf ts) : t ∈ ts ∧ t.struck = false := by
  unfold askedOf at h
  rw [List.mem_filter] at h
  exact ⟨h.1, by simpa using h.2⟩
theorem feed_call {envL : Env} {kvs : List (Str × Value)} {ex : List Addr} {ts : List Tn} {fed j step : Nat} {buf : List Nat} {bs : List (Str × Value)} {tp : Tok} {QS : Value → Shared → Prop} (T : Top0 w.params pr loose mg mb B) (hA : A.handled = none) (hroom : A.depth + 100 < recursionLimit)
    (hfr : A.frames = some [envL]) (hfL : envL.frame = some L) (hkL : envL.scope.kind ≠ .module) (bL : B.get? L = none) (bd : B.get? dxr = none) (hLd : L ≠ dxr) (hks : (kd == sysModules) = false) (hk : B.DictOf (strKind prog w) kd kvs) (hkv : valueAt kvs (Str.ofString "XDR") = some (.ref 394))
    (hts : ∀ t ∈ ts, t.2 ≠ [] ∧ t.2.length ≤ 3) (tsl : ts.length ≤ 7) (iv : FInv w.params B L xr dxr lh la kd ex ts fed j buf h) (hbs : NsHas h L bs)
    (kQ : ∀ (c' : Cfg) (h' : Heap) (tk' : Nat) (S' : Addr) (acc : Array Value) (m : Nat) (as : List Trip) (j' : Nat) (rest : List Nat), 0 < tk' → (c'.drawn = c.drawn ∧ (AllBare c.gens → AllBare c'.gens)) → c'.os = c.os → B.StaysIn h' → NsHas h' L bs → (∃ ta tb tc te t0, Inst h' xr 423 dxr (res w.params ta tb tc (.str (S (sg "ignore")) te) (.str (S rest) t0)) 3) →
      Keeps1 [L, dxr] h h' → h.get? S' = none → h'.get? S' = some (LObj acc m) → acc.toList = as.map (fun a => Value.ref a.1) → as.length = (askedOf ((ts.drop j).take (j' - j))).length → as.Pairwise (fun a b => ∀ y ∈ a.on, y ∉ b.on) →
      (∀ (i : Nat) (t : Tn), (askedOf ((ts.drop j).take (j' - j)))[i]? = some t → ∃ a, as[i]? = some a ∧ SenK w.params h' a t t.words ∧ a.1 ≠ a.2.1 ∧ ∀ y ∈ a.on, h.get? y = none ∧ y ≠ S') →
      logOf (ts.take j') ++ rest = (logOf ts).take (fed + step) → 10 ∉ rest → j ≤ j' → j' ≤ ts.length → QS (.ref S') (c'.st h' tk')) :
    Run (model prog w) A c (call (.ref 420) [.ref xr, .ref kd, .str (S (((logOf ts).take (fed + step)).drop fed)) tp]) h (fun v s => wpAny (model prog w) A (call (.type "list") [v]) QS ES s) ES := by
  intro tk pt
  obtain ⟨ta, tb, tc, te, t0, rd⟩ := iv.rd
  have hlogl : (logOf ts).length ≤ 777 := by have := logOf_len hts; omega
  have epre : (logOf ts).take fed ++ ((logOf ts).take (fed + step)).drop fed = (logOf ts).take (fed + step) := by
    have : (logOf ts).take fed = ((logOf ts).take (fed + step)).take fed := by rw [List.take_take]; congr 1; omega
    rw [this, List.take_append_drop]
  obtain ⟨piece, hpiece⟩ : ∃ piece, piece = ((logOf ts).take (fed + step)).drop fed := ⟨_, rfl⟩
  rw [← hpiece] at epre ⊢
  have esp : logOf ts = logOf (ts.take j) ++ (buf ++ piece) ++ (logOf ts).drop (fed + step) := by
    rw [← List.append_assoc, iv.txt, epre, List.take_append_drop]
  obtain ⟨j', rest, hj1, hj2, hspl, htxt, hfree⟩ := feed_split (fun t ht => (hts t ht).1) iv.jl esp
  have htxt' : logOf (ts.take j') ++ rest = (logOf ts).take (fed + step) := by rw [htxt, ← List.append_assoc, iv.txt, epre]
  refine wpAny_call (next_new (T.keeps iv.keep) (by omega) pt (fun h₁ Lg gen tk₁ cd k1 nLg nG nGL isg nsg p1 seg => ?_))
  have hbp : (buf ++ piece).length ≤ 1000000 := by
    have := congrArg List.length esp
    simp only [List.length_append] at this ⊢
    omega
  have Ll : ∃ o, h.get? L = some o := let ⟨m, ⟨o, es, ep, e, _⟩, _⟩ := hbs; ⟨o, e⟩
  obtain ⟨p, hp⟩ : ∃ p : Gp, p = ⟨h, Lg, L, h₁.objs.size, xr, dxr, kd, bs, ((ts.drop j).take (j' - j)).map Tn.ln, fun t' => res w.params ta tb tc (.str (S (sg "ignore")) te) (.str (S rest) t')⟩ := ⟨_, rfl⟩
  have pS : p.S = h₁.objs.size := by rw [hp]
  have liveS : ∀ a, (∃ o, h₁.get? a = some o) → a ≠ h₁.objs.size := fun a ⟨o, e⟩ => Nat.ne_of_lt (Heap.lt_size e)
  have live1 : ∀ a, (∃ o, h.get? a = some o) → ∃ o, h₁.get? a = some o := fun a ⟨o, e⟩ => ⟨o, k1 _ _ e⟩
  have LgL : ∃ o, h₁.get? Lg = some o := let ⟨m, ⟨o, es, ep, e, _⟩, _⟩ := nsg; ⟨o, e⟩
  have fine : p.Fine := by
    rw [hp]
    exact ⟨nLg, none_of_stays k1 (not_get_size h₁), liveS _ LgL, liveS _ (live1 _ Ll), liveS _ (live1 _ ⟨_, rd.d⟩), liveS _ (live1 _ ⟨_, rd.x⟩), hLd, by show h.get? dxr ≠ none; rw [rd.d]; simp, by
      show h.get? L ≠ none
      obtain ⟨o, e⟩ := Ll
      rw [e]; simp⟩
  have kBh : B.StaysIn (hideAll p.H0 [p.Ll, p.dxr]) := by
    rw [hp]
    exact fun b o e => hideAll_get _ (iv.keep _ _ e) (by
      simp only [List.mem_cons, List.not_mem_nil, or_false, not_or]
      exact ⟨fun z => (by rw [z, bL] at e; cases e), fun z => (by rw [z, bd] at e; cases e)⟩)
  have TB : Top0 w.params pr loose mg mb (hideAll p.H0 [p.Ll, p.dxr]) := T.keeps kBh
  have kh1 : (hideAll p.H0 [p.Ll, p.dxr]).StaysIn h₁ := by
    rw [hp]
    exact fun b o e => k1 _ _ (of_hideAll _ e)
  have hgood : p.goods 0 = (askedOf ((ts.drop j).take (j' - j))).map Tn.ln := by
    unfold Gp.goods
    rw [List.drop_zero, hp]
    exact filter_ln _ fun t ht => (hts t (List.mem_of_mem_drop (List.mem_of_mem_take ht))).1
  refine list_gen (p := p) (gen := gen) (gi := c.gens.size) (gs := .fresh cd) (g := { c with gens := c.gens.push (.fresh cd) }) fine TB hA (by omega) ?_ ?_ pS p1 (by simp) isg kh1 (fun g' h' tk' p' sx k1' => ⟨rfl, ?_⟩) (fun g' h' tk' acc m as p' d1 d2 ge kp nS eS hac hal hpw hsn => ?_)
  · rw [hp]
    unfold Gp.wr
    simp only [List.mem_cons, List.not_mem_nil, or_false, not_or]
    exact ⟨nGL, ne_of_new nG Ll, ne_of_new nG ⟨_, rd.d⟩⟩
  · rw [hp]
    show (((ts.drop j).take (j' - j)).map Tn.ln).length ≤ _
    rw [List.length_map, List.length_take, List.length_drop]; omega
  · refine seg A.in1.in1.in1 p envL kvs g' h' tk' buf rest ta tb tc te t0 hA (by show A.depth + 60 < _; omega) hfr (by rw [hp]; exact hfL) hkL (by rw [hp]) (by rw [hp]) (by rw [hp]) fine TB hks (hk.keep kBh) hkv (stays_trans kh1 k1') (nsg.keep fun o e => k1' _ _ e) ?_ ?_ ?_ ?_ ?_ ?_ hbp p'
    · rw [hp]; exact (hbs.keep fun o e => k1 _ _ e).keep fun o e => k1' _ _ e
    · rw [hp]; exact (rd.keeps k1).keeps k1'
    · rw [hp]
    · obtain ⟨o, e⟩ := sx
      rw [e]; simp
    · rw [hspl, hp, List.map_map]; rfl
    · rw [hp]
      intro l hl
      obtain ⟨t, ht, rfl⟩ := List.mem_map.mp hl
      have := hts t (List.mem_of_mem_drop (List.mem_of_mem_take ht))
      exact ln_ok this.1 this.2
  · have nS1 : h.get? p.S = none := none_of_stays k1 nS
    have kk : Keeps1 [L, dxr] h h' := fun b o hb e => by
      refine kp b o (fun z => ?_) (fun z => ?_) (k1 _ _ e)
      · rw [hp] at z
        unfold Gp.wr at z
        simp only [List.mem_cons, List.not_mem_nil, or_false] at z
        rcases z with z | z | z
        · rw [z, nLg] at e; cases e
        · exact hb (by simp [z])
        · exact hb (by simp [z])
      · rw [hp] at z
        rw [show h.get? b = none from z] at e; cases e
    refine kQ g' h' tk' p.S acc m as j' rest p' ⟨d1.1, fun b => d1.2 (BareBut.fresh b)⟩ d2 (stays_trans kBh ge.keep) ?_ ?_ kk nS1 eS hac ?_ hpw ?_ htxt' hfree hj1 hj2
    · have := ge.nl; rw [hp] at this; exact this
    · obtain ⟨t, r⟩ := ge.rd
      rw [hp] at r
      exact ⟨ta, tb, tc, te, t, r⟩
    · rw [hal, hgood, List.length_map]
    · intro i t ht
      obtain ⟨a, e1, sa⟩ := hsn i t.ln (by rw [hgood, List.getElem?_map, ht]; rfl)
      obtain ⟨u1, u2, items, Sn, hs⟩ := sa.ex
      have hm := asked_sub (List.mem_of_getElem? ht)
      have hmt := hts t (List.mem_of_mem_drop (List.mem_of_mem_take hm.1))
      have hb : t.ln.body = t.body0 := by show t.body = t.body0; unfold Tn.body; rw [if_neg (by rw [hm.2]; decide)]
      rw [hb, spl_words hmt.1] at hs
      refine ⟨a, e1, ⟨u1, u2, items, Sn, hs⟩, sa.ne, fun y hy => ⟨?_, fun z => (sa.new y hy).1 ?_⟩⟩
      · have := (sa.new y hy).2; rw [hp] at this; exact this
      · rw [z]; unfold Gp.ws; simp
end
end
section
theorem SenK.cut {P : Params} {h : Heap} {a : Trip} {t : Tn} {ws : List (List Nat)} {X : List Addr} (x : SenK P h a t ws) (n : ∀ y ∈ a.on, y ∉ X) : SenK P (cut X h) a t ws := by
  obtain ⟨t1, t2, items, ⟨⟨ta, tb, tc, I⟩, o, e, r⟩, s⟩ := x
  exact ⟨t1, t2, items, ⟨⟨ta, tb, tc, cut_of I.x (n _ (by simp)), cut_of I.d (n _ (by simp))⟩, o, cut_of e (n _ (by simp)), r⟩, s⟩
theorem Heard.more {P : Params} {B : Heap} {L dxr lh : Addr} {ex : List Addr} {tsA tsB : List Tn} {as as2 : List Trip} {h h' : Heap} (x : Heard P B L dxr lh ex tsA as h) (kB : B.StaysIn h) (k : ∀ b o, b ∉ (L :: dxr :: lh :: ex) → h.get? b = some o → h'.get? b = some o) {m : Nat}
    (lst : h'.get? lh = some (LObj ((as.map fun q => Value.ref q.1).toArray ++ (as2.map fun q => Value.ref q.1).toArray) m)) (len : as2.length = tsB.length) (sep : as2.Pairwise (fun a b => ∀ y ∈ a.on, y ∉ b.on))
    (each : ∀ (i : Nat) (t : Tn), tsB[i]? = some t → ∃ a, as2[i]? = some a ∧ SenK P (cut (L :: dxr :: lh :: ex) h') a t t.words ∧ a.1 ≠ a.2.1 ∧ ∀ y ∈ a.on, h.get? y = none) : Heard P B L dxr lh ex (tsA ++ tsB) (as ++ as2) h' where
  lst := ⟨m, by rw [lst]; simp⟩
  len := by rw [List.length_append, List.length_append, x.len, len]
  each := fun i a t e1 e2 => by
    by_cases hi : i < as.length
    · rw [List.getElem?_append_left hi] at e1
      rw [List.getElem?_append_left (by rw [← x.len]; exact hi)] at e2
      exact ⟨(x.each i a t e1 e2).1.keep (cut_mono fun b o hb e => k b o hb e), (x.each i a t e1 e2).2⟩
    · rw [List.getElem?_append_right (by omega)] at e1
      rw [List.getElem?_append_right (by rw [← x.len]; omega), ← x.len] at e2
      obtain ⟨a', f1, f2, f3, _⟩ := each _ t e2
      rw [e1] at f1; cases f1
      exact ⟨f2, f3⟩
  sep := by
    rw [List.pairwise_append]
    refine ⟨x.sep, sep, fun a ha b hb y hy z => ?_⟩
    obtain ⟨i, hi⟩ := List.mem_iff_getElem?.mp ha
    have hil : i < tsA.length := by rw [← x.len]; exact (List.getElem?_eq_some_iff.mp hi).1
    obtain ⟨o, e⟩ := (x.each i a _ hi (List.getElem?_eq_getElem hil)).1.live y hy
    obtain ⟨i2, hi2⟩ := List.mem_iff_getElem?.mp hb
    have hil2 : i2 < tsB.length := by rw [← len]; exact (List.getElem?_eq_some_iff.mp hi2).1
    obtain ⟨b', f1, _, _, f4⟩ := each i2 _ (List.getElem?_eq_getElem hil2)
    rw [hi2] at f1; cases f1
    have := f4 y z
    rw [of_cut e] at this; cases this
  new := fun a ha y hy => by
    rcases List.mem_append.mp ha with z | z
    · exact x.new a z y hy
    · obtain ⟨i2, hi2⟩ := List.mem_iff_getElem?.mp z
      have hil2 : i2 < tsB.length := by rw [← len]; exact (List.getElem?_eq_some_iff.mp hi2).1
      obtain ⟨b', f1, _, _, f4⟩ := each i2 _ (List.getElem?_eq_getElem hil2)
      rw [hi2] at f1; cases f1
      exact none_of_stays kB (f4 y hy)
def stepsN (ns : List Int) (ts : List Tn) : List Nat := ns.map (fun m => (m.fmod 37).toNat) ++ [(logOf ts).length]
def NatsOf (vs : Array Value) (ks : List Nat) : Prop := vs.size = ks.length ∧ ∀ (i : Nat) (k : Nat), ks[i]? = some k → ∃ t, vs[i]? = some (.int ((k : Nat) : Int) t)
theorem FInv.loc {P : Params} {B : Heap} {L xr dxr lh la kd : Addr} {ex : List Addr} {ts : List Tn} {fed fed' j : Nat} {buf : List Nat} {h h' : Heap} (x : FInv P B L xr dxr lh la kd ex ts fed j buf h) (bX : ∀ y ∈ L :: ex, B.get? y = none) (hd : dxr ∉ L :: ex) (hl : lh ∉ L :: dxr :: ex) (hx : xr ∉ L :: ex) (k : ∀ b o, b ∉ L :: ex → h.get? b = some o → h'.get? b = some o)
    (n : ∃ t1 t2, NsHas h' L [(nKinds, .ref kd), (nLog, .str (S (logOf ts)) t1), (nAsked, .ref la), (nReader, .ref xr), (nHeard, .ref lh), (nFed, .int ((fed' : Nat) : Int) t2)]) (txt : logOf (ts.take j) ++ buf = (logOf ts).take fed') : FInv P B L xr dxr lh la kd ex ts fed' j buf h' where
  keep := fun b o e => k _ _ (fun z => by rw [bX b z] at e; cases e) (x.keep _ _ e)
  ns := n
  rd := let ⟨ta, tb, tc, te, t0, I⟩ := x.rd; ⟨ta, tb, tc, te, t0, k _ _ hx I.x, k _ _ hd I.d⟩
  hd := let ⟨as, H⟩ := x.hd; ⟨as, H.keep hl fun b o hb e => k b o (fun z => hb (by
    simp only [List.mem_cons] at z ⊢
    rcases z with z | z
    · exact .inl z
    · exact .inr (.inr z))) e⟩
  txt := txt
  free := x.free
  jl := x.jl
theorem FInv.ex {P : Params} {B : Heap} {L xr dxr lh la kd : Addr} {ex ex' : List Addr} {ts : List Tn} {fed j : Nat} {buf : List Nat} {h : Heap} (x : FInv P B L xr dxr lh la kd ex ts fed j buf h) (hs : (∀ y ∈ ex', y ∈ ex) ∨ ts.take j = []) : FInv P B L xr dxr lh la kd ex' ts fed j buf h where
  keep := x.keep
  ns := x.ns
  rd := x.rd
  hd := let ⟨as, H⟩ := x.hd; ⟨as, ⟨H.lst, H.len, fun i a t e1 e2 => by
    rcases hs with hs | hs
    · refine ⟨(H.each i a t e1 e2).1.keep fun b o e => cut_of (of_cut e) (fun z => ?_), (H.each i a t e1 e2).2⟩
      rw [cut_no (by
        simp only [List.mem_cons] at z ⊢
        rcases z with z | z | z | z
        · exact .inl z
        · exact .inr (.inl z)
        · exact .inr (.inr (.inl z))
        · exact .inr (.inr (.inr (hs _ z))))] at e
      cases e
    · rw [hs] at e2; simp [askedOf] at e2, H.sep, H.new⟩⟩
  txt := x.txt
  free := x.free
  jl := x.jl
theorem asked_take {ts : List Tn} {j j' : Nat} (h : j ≤ j') : askedOf (ts.take j') = askedOf (ts.take j) ++ askedOf ((ts.drop j).take (j' - j)) := by
  unfold askedOf
  rw [← List.filter_append]
  congr 1
  obtain ⟨m, rfl⟩ : ∃ m, j' = j + m := ⟨j' - j, by omega⟩
  rw [Nat.add_sub_cancel_left, List.take_add]
theorem steps_sum (ns : List Int) (ts : List Tn) : (logOf ts).length ≤ (stepsN ns ts).sum := by
  unfold stepsN; simp
section
variable {prog : Program} {w : World} {A : Around} {c : Cfg} {h : Heap} {env : Env} {L la kd xr dxr lh ln : Addr} {B : Heap} {pr : Program} {loose : List Str} {mg mb : Str → Option Value} {ES : Value → Shared → Prop} {ns : List Int} {lv : Array Value} {ts : List Tn} {kvs : List (Str × Value)} {st : Stmt} {sc : Scope} {pos : Pos}
theorem feed_spec (hst : lawStmt w.params 9 = some st) (hS : lawScope w.params = some sc) (T : Top0 w.params pr loose mg mb B) (hA : A.handled = none) (hroom : A.depth + 100 < recursionLimit) (hE : EnvIs sc L env) (hfr : A.frames = some [env]) (hfL : env.frame = some L)
    (bL : B.get? L = none) (bd : B.get? dxr = none) (blh : B.get? lh = none) (hLd : L ≠ dxr) (hlL : lh ≠ L ∧ lh ≠ dxr) (hxL : xr ≠ L) (hks : (kd == sysModules) = false) (hk : B.DictOf (strKind prog w) kd kvs) (hkv : valueAt kvs (Str.ofString "XDR") = some (.ref 394)) (hln : B.IsList ln lv) (hlv : IntsOf lv ns) (hn : ns.length ≤ 7)
    (hts : ∀ t ∈ ts, t.2 ≠ [] ∧ t.2.length ≤ 3) (tsl : ts.length ≤ 7) (iv : FInv w.params B L xr dxr lh la kd [] ts 0 0 [] h) (hnum : ∃ t1, NsHas h L [(nNumbers, .ref ln), (nLog, .str (S (logOf ts)) t1)]) {QS : Flow → Shared → Prop}
    (kQ : ∀ (c' : Cfg) (h' : Heap) (tk' : Nat) (fed : Nat), 0 < tk' → (c'.drawn = c.drawn ∧ (AllBare c.gens → AllBare c'.gens)) → c'.os = c.os → FInv w.params B L xr dxr lh la kd [] ts fed ts.length [] h' → QS .next (c'.st h' tk')) : Run (model prog w) A c (exec st env) h QS ES := by
  have e := Option.some.inj (hst.symm.trans (lawStmt_of (by k_is) rfl))
  have e2 := Option.some.inj (hS.symm.trans (lawScope_of (by k_is)))
  subst e
  subst e2
  dsimp only at hE
  obtain ⟨tl, nsN⟩ := hnum
  have F := nsN.frl
  have Th : Top0 w.params pr loose mg mb (h.hide L) := T.keeps fun b o e => hide_of (iv.keep b o e) fun z => by rw [z, bL] at e; cases e
  have hlnh : h.IsList ln lv := let ⟨o, e, r⟩ := hln; ⟨o, iv.keep _ _ e, r⟩
  have hlogl : (logOf ts).length ≤ 777 := by have := logOf_len hts; omega
  intro tk pt
  refine wpAny_For (wpAny_mono (D.run (c := c) (h := h) (Q := fun x h₁ => ∃ Sl sv m, x = .ref Sl ∧ h.StaysIn h₁ ∧ h.get? Sl = none ∧ h₁.get? Sl = some (LObj sv m) ∧ NatsOf sv (stepsN ns ts)) (E := fun _ _ => False) ?_ tk pt) (fun x s₁ z => ?_) fun _ _ z => by obtain ⟨_, _, _, _, z⟩ := z; exact z.elim)
  · refine d_binop ?_
    refine d_listComp (Fy := fun i y h => ∃ m t, ns[i]? = some m ∧ y = .int (m.fmod 37) t) hE hA ?_
    repeat walk_at "d1"
    refine ⟨ln, lv, rfl, hlnh, ⟨by rw [hlv.1]; omega, fun i y a b _ f => f, fun i z C cenv h₂ hz kz hEc FC nC => ?_⟩, fun h₂ Da ys k2 nDa lDa hyl hyf => ?_⟩
    · obtain ⟨m, tm, hm, rfl⟩ := hlv.val hz
      repeat walk_at "d1"
      exact ⟨fun b o e => Heap.of_hide e, let ⟨m, n, _⟩ := FC.ns; ⟨m, n⟩, fun ws _ => ⟨m, _, hm, rfl⟩⟩
    · have F2 := F.back k2
      repeat walk_at "d1"
      refine d_lenStr (by omega) (fun t3 => ?_)
      repeat walk_at "d1"
      refine d_newListL (by simp) (fun h₃ Dl k3 nDl hDl => ?_)
      refine d_addL (let ⟨o, e, r⟩ := lDa; ⟨o, k3 _ _ e, r⟩) (LObj.isList hDl) (by simp; rw [hyl, hlv.1]; omega) (fun h₄ Sl m k4 nSl hSl => ?_)
      refine ⟨Sl, _, m, rfl, stays_trans k2 (stays_trans k3 k4), none_of_stays (stays_trans k2 k3) nSl, hSl, ?_, fun i k hk => ?_⟩
      · unfold stepsN
        simp [hyl, hlv.1]
      · unfold stepsN at hk
        have ea : ∀ (a b : List Value), (a.toArray ++ b.toArray) = (a ++ b).toArray := fun a b => by simp
        rw [ea, List.getElem?_toArray]
        have hyl' : ys.length = (ns.map (fun m => (m.fmod 37).toNat)).length := by rw [hyl, hlv.1, List.length_map]
        by_cases hi : i < (ns.map (fun m => (m.fmod 37).toNat)).length
        · rw [List.getElem?_append_left hi, List.getElem?_map] at hk
          rw [List.getElem?_append_left (by rw [hyl']; exact hi)]
          obtain ⟨m', t', e1, e2⟩ := hyf i _ (List.getElem?_eq_getElem (by rw [hyl']; exact hi))
          rw [e1] at hk
          simp only [Option.map_some, Option.some.injEq] at hk
          have b := fmod_bd m' (b := 37) (by decide)
          refine ⟨t', ?_⟩
          rw [List.getElem?_eq_getElem (by rw [hyl']; exact hi), e2, ← hk]
          congr 2
          omega
        · rw [List.getElem?_append_right (by omega), ← hyl'] at hk
          rw [List.getElem?_append_right (by omega)]
          have h0 : i - ys.length = 0 := by
            have := (List.getElem?_eq_some_iff.mp hk).1
            simp at this; omega
          rw [h0] at hk ⊢
          simp at hk
          exact ⟨t3, by rw [← hk]; rfl⟩
  · obtain ⟨h₁, tk₁, p₁, rfl, Sl, sv, mS, rfl, k1, nSl, hSl, hsv⟩ := z
    refine wpAny_mono (D.run (c := c) (h := h₁) (Q := fun v h₂ => ∃ I, v = .ref I ∧ h₁.StaysIn h₂ ∧ h₁.get? I = none ∧ Src prog w I [I, Sl] [I] sv.size (fun i v => sv[i]? = some v) (fun i h => h.IsListIter I Sl i ∧ h.IsList Sl sv) ∧ (h₂.IsListIter I Sl 0 ∧ h₂.IsList Sl sv)) (E := fun _ _ => False)
      (d_iterList (LObj.isList hSl) fun h' I a b c d => ⟨I, rfl, a, b, c, d⟩) tk₁ p₁) (fun it s₂ z => ?_) fun _ _ z => by obtain ⟨_, _, _, _, z⟩ := z; exact z.elim
    obtain ⟨h₂, tk₂, p₂, rfl, I, rfl, k2, nI, W, stI⟩ := z
    have k12 := stays_trans k1 k2
    have kB1 : B.StaysIn h₁ := stays_trans iv.keep k1
    have bI : B.get? I = none := none_of_stays kB1 nI
    have liv : ∀ a, (∃ o, h.get? a = some o) → a ≠ I := fun a ⟨o, e⟩ z => by rw [z] at e; rw [k1 _ _ e] at nI; cases nI
    obtain ⟨q1, q2, nsL⟩ := iv.ns
    have oL : ∃ o, h.get? L = some o := let ⟨m, ⟨o, es, ep, e, _⟩, _⟩ := nsL; ⟨o, e⟩
    have od : ∃ o, h.get? dxr = some o := let ⟨_, _, _, _, _, J⟩ := iv.rd; ⟨_, J.d⟩
    have ox : ∃ o, h.get? xr = some o := let ⟨_, _, _, _, _, J⟩ := iv.rd; ⟨_, J.x⟩
    have ol : ∃ o, h.get? lh = some o := let ⟨as, H⟩ := iv.hd; let ⟨m, e⟩ := H.lst; ⟨_, e⟩
    have bX : ∀ y ∈ L :: [I], B.get? y = none := fun y hy => by
      simp only [List.mem_cons, List.not_mem_nil, or_false] at hy
      rcases hy with rfl | rfl
      · exact bL
      · exact bI
    have xd : dxr ∉ L :: [I] := by simp [Ne.symm hLd, liv _ od]
    have xl : lh ∉ L :: dxr :: [I] := by simp [hlL.1, hlL.2, liv _ ol]
    have xx : xr ∉ L :: [I] := by simp [hxL, liv _ ox]
    have hSld : Sl ≠ L ∧ Sl ≠ dxr ∧ Sl ≠ lh := ⟨ne_of_new nSl oL, ne_of_new nSl od, ne_of_new nSl ol⟩
    have iv2 : FInv w.params B L xr dxr lh la kd [I] ts 0 0 [] h₂ := (iv.ex (ex' := [I]) (.inr rfl)).loc bX xd xl xx (fun b o _ e => k12 _ _ e) ⟨q1, q2, nsL.keep fun o e => k12 _ _ e⟩ iv.txt
    refine codeAny_forLoop_any (I := fun n s => ∃ (i : Nat) (c' : Cfg) (h' : Heap) (tk' j : Nat) (buf : List Nat), s = c'.st h' tk' ∧ 0 < tk' ∧ (c'.drawn = c.drawn ∧ (AllBare c.gens → AllBare c'.gens)) ∧ c'.os = c.os ∧ i ≤ sv.size ∧ n = sv.size + 1 - i ∧ (h'.IsListIter I Sl i ∧ h'.IsList Sl sv) ∧ FInv w.params B L xr dxr lh la kd [I] ts ((stepsN ns ts).take i).sum j buf h') ?_ (sv.size + 1)
      ⟨0, c, h₂, tk₂, 0, [], rfl, p₂, ⟨rfl, fun b => b⟩, rfl, Nat.zero_le _, rfl, stI, iv2⟩
    rintro n s ⟨i, c', h', tk', j, buf, rfl, p', d1, d2, hi, rfl, st', iv'⟩
    by_cases hlt : i < sv.size
    · refine wpAny_with_toks (n := tk') (Nat.le_refl _) ((W A hA).item i _ _ _ hlt st' fun v h₃ tk₃ hP st₃ k₃ l₃ => ?_)
      dsimp only
      refine wpAny_pure (?_ : wpAny _ _ _ _ _ _)
      obtain ⟨k, hk'⟩ : ∃ k, (stepsN ns ts)[i]? = some k := ⟨_, List.getElem?_eq_getElem (by rw [← hsv.1]; exact hlt)⟩
      obtain ⟨t, ht⟩ := hsv.2 i k hk'
      have hP : sv[i]? = some v := hP
      rw [ht] at hP; cases hP
      have k3 : Keeps1 [I] h' h₃ := k₃
      obtain ⟨q1, q2, nsL'⟩ := iv'.ns
      have hLI : L ≠ I := liv _ oL
      have iv3 := iv'.loc (h' := h₃) bX xd xl xx (fun b o hb e => k3 _ _ (fun z => hb (by simp at z; simp [z])) e) ⟨q1, q2, nsL'.keep fun o e => k3 _ _ (by simpa using hLI) e⟩ iv'.txt
      obtain ⟨q1, q2, ns3⟩ := iv3.ns
      refine wpAny_assign_Name (wpAny_mono (D.run (c := c') (h := h₃) (Q := fun _ h₄ => FrL (h₃.hide L) L h₄ ((nStep, .int ((k : Nat) : Int) t) :: [(nKinds, .ref kd), (nLog, .str (S (logOf ts)) q1), (nAsked, .ref la), (nReader, .ref xr), (nHeard, .ref lh), (nFed, .int ((((stepsN ns ts).take i).sum : Nat) : Int) q2)])) (E := fun _ _ => False) (d_store hE ns3.frl fun h₄ F4 => F4) tk₃ (Nat.lt_of_lt_of_le p' l₃)) (fun _ s₄ z => ?_) fun _ _ z => by obtain ⟨_, _, _, _, z⟩ := z; exact z.elim)
      obtain ⟨h₄, tk₄, p₄, rfl, F4⟩ := z
      have k34 : ∀ b o, b ≠ L → h₃.get? b = some o → h₄.get? b = some o := fun b o hb e => F4.keep _ _ (hide_of e hb)
      have iv4 := iv3.loc (h' := h₄) bX xd xl xx (fun b o hb e => k34 _ _ (fun z => hb (by simp [z])) e) ⟨q1, q2, (show NsHas h₄ L _ from F4.ns).sub (sub_cons rfl (sub_cons rfl (sub_cons rfl (sub_cons rfl (sub_cons rfl (sub_cons rfl sub_nil))))))⟩ iv3.txt
      have st4 : h₄.IsListIter I Sl (i + 1) ∧ h₄.IsList Sl sv := ⟨let ⟨o, e, r⟩ := st₃.1; ⟨o, k34 _ _ (Ne.symm hLI) e, r⟩, let ⟨o, e, r⟩ := st₃.2; ⟨o, k34 _ _ hSld.1 e, r⟩⟩
      have T4 : Top0 w.params pr loose mg mb (h₃.hide L) := T.keeps fun b o e => hide_of (iv3.keep _ _ e) fun z => by rw [z, bL] at e; cases e
      refine run_consR ?_ tk₄ p₄
      refine run_aug ?_
      repeat walk_at "d1"
      refine run_callT (T := "list") ?_ ?_
      · repeat walk_at "d1"
        exact ⟨rfl, rfl⟩
      · refine run_mcall ?_
        repeat walk_at "d1"
        obtain ⟨ta, tb, tc, te, t0, rd4⟩ := iv4.rd
        refine d_gmReader (T.K.keeps iv4.keep) rd4 rfl ?_
        dsimp only
        refine run_withK (K := hd.heap_39 w.params) (by k_is) ?_
        repeat walk_at "d1"
        have esum : ((((stepsN ns ts).take i).sum : Nat) : Int) + ((k : Nat) : Int) = ((((stepsN ns ts).take i).sum + k : Nat) : Int) := by omega
        rw [esum]
        refine d_mkSlice F4 (fun h₅ a F5 hsl k5 => ?_)
        refine d_cutS (lo := some (((stepsN ns ts).take i).sum, _)) (hi := some (((stepsN ns ts).take i).sum + k, _)) (y := ((logOf ts).take (((stepsN ns ts).take i).sum + k)).drop ((stepsN ns ts).take i).sum) hsl rfl (by omega) (fun t5 => ?_)
        have iv5 := iv4.loc (h' := h₅) bX xd xl xx (fun b o _ e => k5 _ _ e) (let ⟨u1, u2, n⟩ := iv4.ns; ⟨u1, u2, n.keep fun o e => k5 _ _ e⟩) iv4.txt
        repeat walk_at "d1"
        refine ⟨T.K.keeps iv5.keep, feed_call (la := la) (ex := [I]) T hA hroom hfr hfL (by rw [hE.scope]; decide) bL bd hLd hks hk hkv hts tsl iv5 (show NsHas h₅ L _ from F5.ns) (fun c'' h₆ tk₆ S' acc m as2 j' rest p₆ e1 e2 kB6 ns6 rd6 k56 nS' hS' hac hal hpw hsen htx hfree hj1 hj2 => ?_)⟩
        obtain ⟨as, H5⟩ := iv5.hd
        obtain ⟨m5, e5⟩ := H5.lst
        have hasl : as.length ≤ 7 := by
          rw [H5.len]
          exact Nat.le_trans (List.length_filter_le _ _) (by rw [List.length_take]; omega)
        have has2 : as2.length ≤ 7 := by
          rw [hal]
          exact Nat.le_trans (List.length_filter_le _ _) (by rw [List.length_take, List.length_drop]; omega)
        have hacc : acc = (as2.map fun q => Value.ref q.1).toArray := by rw [← hac, Array.toArray_toList]
        have hlh6 := k56 _ _ (by simp [hlL.1, hlL.2]) e5
        have o5 : ∀ a, (∃ o, h₅.get? a = some o) → a ≠ S' := fun a ⟨o, e⟩ z => by rw [z, nS'] at e; cases e
        refine (run_d (d_iaddList hlh6 hS' (by rw [hacc, List.size_toArray, List.length_map, List.size_toArray, List.length_map]; omega) (fun h₇ m7 e7 sb7 tk₇ p₇ => ?_))) tk₆ p₆
        have ns7 : NsHas h₇ L _ := ns6.keep fun o e => (sb7.2 _ (Ne.symm hlL.1)).trans e
        refine (run_d (d_store hE ns7.frl (fun h₈ F8 tk₈ p₈ => ⟨rfl, ?_⟩))) tk₇ p₇
        refine (run_d ?_) tk₈ p₈
        repeat walk_at "d1"
        refine d_iaddInt (fun t9 => ?_)
        refine d_store hE F8.all (fun h₉ F9 => ?_)
        refine d_nil ?_
        intro tk₉ p₉
        dsimp only
        have k78 : ∀ b o, b ≠ L → h₇.get? b = some o → h₈.get? b = some o := fun b o hb e => F8.keep _ _ (hide_of e hb)
        have k89 : ∀ b o, b ≠ L → h₈.get? b = some o → h₉.get? b = some o := fun b o hb e => F9.keep _ _ (hide_of e hb)
        have k69 : ∀ b o, b ≠ lh → b ≠ L → h₆.get? b = some o → h₉.get? b = some o := fun b o h1 h2 e => k89 _ _ h2 (k78 _ _ h2 ((sb7.2 b h1).trans e))
        have hIlh : I ≠ lh := Ne.symm (liv _ ol)
        have hIdx : I ≠ dxr := Ne.symm (liv _ od)
        have st9 : h₉.IsListIter I Sl (i + 1) ∧ h₉.IsList Sl sv := ⟨let ⟨o, e, r⟩ := st4.1; ⟨o, k69 _ _ hIlh (Ne.symm hLI) (k56 _ _ (by simp [Ne.symm hLI, hIdx]) (k5 _ _ e)), r⟩, let ⟨o, e, r⟩ := st4.2; ⟨o, k69 _ _ hSld.2.2 hSld.1 (k56 _ _ (by simp [hSld.1, hSld.2.1]) (k5 _ _ e)), r⟩⟩
        have X5 : ∀ y ∈ L :: dxr :: lh :: [I], ∃ o, h₅.get? y = some o := fun y hy => by
          simp only [List.mem_cons, List.not_mem_nil, or_false] at hy
          rcases hy with rfl | rfl | rfl | rfl
          · obtain ⟨m, ⟨o, es, ep, e, _⟩, _⟩ := (show NsHas h₅ y _ from F5.ns); exact ⟨o, e⟩
          · obtain ⟨_, _, _, _, _, J⟩ := iv5.rd; exact ⟨_, J.d⟩
          · exact ⟨_, e5⟩
          · obtain ⟨o, e, _⟩ := st4.1; exact ⟨o, k5 _ _ e⟩
        have esum2 : ((stepsN ns ts).take (i + 1)).sum = ((stepsN ns ts).take i).sum + k := by
          rw [List.take_add_one, hk', List.sum_append]; simp
        refine ⟨sv.size + 1 - (i + 1), by omega, i + 1, c'', h₉, tk₉, j', rest, rfl, p₉, ⟨e1.1.trans d1.1, fun b => e1.2 (d1.2 b)⟩, e2.trans d2, by omega, rfl, st9, ?_⟩
        obtain ⟨ta', tb', tc', te', t0', rd6⟩ := rd6
        refine ⟨fun b o e => k69 _ _ (fun z => by rw [z, blh] at e; cases e) (fun z => by rw [z, bL] at e; cases e) (kB6 _ _ e), ⟨q1, t9, ?_⟩, ⟨ta', tb', tc', te', t0', k69 _ _ (fun z => ?_) hxL rd6.x, k69 _ _ (Ne.symm hlL.2) (Ne.symm hLd) rd6.d⟩, ⟨as ++ as2, ?_⟩, by rw [esum2]; exact htx, hfree, hj2⟩
        · rw [esum2, ← esum]
          exact (show NsHas h₉ L _ from F9.ns).sub (sub_cons rfl (sub_cons rfl (sub_cons rfl (sub_cons rfl (sub_cons rfl (sub_cons rfl sub_nil))))))
        · have := rd6.x
          rw [z, hlh6] at this; cases this
        · rw [asked_take hj1]
          refine H5.more iv5.keep (fun b o hb e => ?_) (m := m7) ?_ hal hpw (fun i' t' ht' => ?_)
          · simp only [List.mem_cons, List.not_mem_nil, or_false, not_or] at hb
            exact k69 _ _ hb.2.2.1 hb.1 (k56 _ _ (by simp [hb.1, hb.2.1]) e)
          · rw [← hacc]
            exact k89 _ _ hlL.1 (k78 _ _ hlL.1 e7)
          · obtain ⟨a', f1, f2, f3, f4⟩ := hsen i' t' ht'
            refine ⟨a', f1, ?_, f3, fun y hy => (f4 y hy).1⟩
            refine (f2.cut (X := L :: dxr :: lh :: [I]) fun y hy z => ?_).keep (cut_mono fun b o hb e => ?_)
            · obtain ⟨o, e⟩ := X5 y z
              rw [(f4 y hy).1] at e; cases e
            · simp only [List.mem_cons, List.not_mem_nil, or_false, not_or] at hb
              exact k69 _ _ hb.2.2.1 hb.1 e
    · have hin : i = sv.size := by omega
      subst hin
      refine wpAny_with_toks (n := tk') (Nat.le_refl _) ((W A hA).done _ _ _ st' fun h₃ tk₃ k₃ l₃ => ?_)
      have k3 : Keeps1 [I] h' h₃ := k₃
      obtain ⟨q1, q2, nsL'⟩ := iv'.ns
      have hLI : L ≠ I := liv _ oL
      have iv3 := iv'.loc (h' := h₃) bX xd xl xx (fun b o hb e => k3 _ _ (fun z => hb (by simp at z; simp [z])) e) ⟨q1, q2, nsL'.keep fun o e => k3 _ _ (by simpa using hLI) e⟩ iv'.txt
      have hall : (stepsN ns ts).take sv.size = stepsN ns ts := List.take_of_length_le (by rw [hsv.1]; exact Nat.le_refl _)
      have htx := iv3.txt
      rw [hall, List.take_of_length_le (steps_sum ns ts)] at htx
      obtain ⟨g1, g2⟩ := feed_end htx iv3.free
      have hj : j = ts.length := by
        have := congrArg List.length g1
        rw [List.length_drop] at this
        have := iv3.jl
        simp at *; omega
      subst hj
      subst g2
      refine wpAny_execs_nil ?_
      exact kQ c' h₃ tk₃ _ (Nat.lt_of_lt_of_le p' l₃) d1 d2 (iv3.ex (.inl (by simp)))
end
end
section
/-! the law's check loop -/
noncomputable def subOf : Stmt → Nat → Option Stmt
  | .For _ _ b _ _, j => b[j]?
  | _, _ => none
noncomputable def lawSub (P : Params) (i j : Nat) : Option Stmt := (lawStmt P i).bind fun st => subOf st j
theorem lawSub_of {P : Params} {i j : Nat} {st : Stmt} {tgt it : Expr} {body orelse : List Stmt} {pos : Pos} (h : lawStmt P i = some (.For tgt it body orelse pos)) (e : body[j]? = some st) : lawSub P i j = some st := by
  unfold lawSub
  rw [h]
  exact e
abbrev nTalker : Str := Str.ofString "talker"
abbrev nGroup : Str := Str.ofString "group"
abbrev nWords : Str := Str.ofString "words"
abbrev nS : Str := Str.ofString "s"
abbrev nK : Str := Str.ofString "k"
abbrev nGot : Str := Str.ofString "got"
/-- one that is asked and the sentence heard for it -/
structure CAt (P : Params) (h : Heap) (q a : Trip) (t : Tn) (ws : List (List Nat)) : Prop where
  ask : AskAt h q t ws
  sen : SenK P h a t ws
theorem CAt.keep {P : Params} {h h' : Heap} {q a : Trip} {t : Tn} {ws : List (List Nat)} (x : CAt P h q a t ws) (k : h.StaysIn h') : CAt P h' q a t ws := ⟨x.ask.keep k, x.sen.keep k⟩
/-- the names of a turn -/
abbrev bsT (q a : Trip) (ta : List Nat) (tt : Tok) (k : Nat) (tk : Tok) (kd la lh : Addr) (lg : List Nat) (tl : Tok) : List (Str × Value) :=
  [(nS, .ref a.1), (nWords, .ref q.2.2), (nGroup, .ref q.2.1), (nTalker, .str (S ta) tt), (nK, .int ((k : Nat) : Int) tk), (nKinds, .ref kd), (nLog, .str (S lg) tl), (nAsked, .ref la), (nHeard, .ref lh)]
/-- tuples of four words -/
def RowsIs (h : Heap) (rows : List Value) (ns : List Int) : Prop := ∀ (j : Nat) (r : Value), rows[j]? = some r → ∃ n p its, ns[j]? = some n ∧ r = .ref p ∧ IsTup h p its ∧ Strs its.toList (rd n)
theorem RowsIs.keep {h h' : Heap} {rows : List Value} {ns : List Int} (x : RowsIs h rows ns) (k : h.StaysIn h') : RowsIs h' rows ns := fun j r e => let ⟨n, p, its, e1, e2, ⟨o, e3, e4⟩, e5⟩ := x j r e; ⟨n, p, its, e1, e2, ⟨o, k _ _ e3, e4⟩, e5⟩
theorem RowsIs.more {h : Heap} {rows : List Value} {ns : List Int} (x : RowsIs h rows ns) {n : Int} {p : Addr} {its : Array Value} (e : ns[rows.length]? = some n) (t : IsTup h p its) (s : Strs its.toList (rd n)) : RowsIs h (rows ++ [.ref p]) ns := fun j r e' => by
  by_cases hj : j < rows.length
  · rw [List.getElem?_append_left hj] at e'
    exact x j r e'
  · rw [List.getElem?_append_right (by omega)] at e'
    have h0 : j - rows.length = 0 := by
      have := (List.getElem?_eq_some_iff.mp e').1
      simp at this; omega
    rw [h0] at e'
    simp at e'
    subst e'
    exact ⟨n, p, its, by rw [show j = rows.length by omega]; exact e, rfl, t, s⟩
theorem strs_sz {its : Array Value} {ls : List (List Nat)} (s : Strs its.toList ls) : its.size = ls.length := by rw [← Array.length_toList, s.1]
theorem strs_hand {items : Array Value} {ls : List (List Nat)} (hs : Strs items.toList ls) {i : Nat} {v : Value} (e : items[i]? = some v) : handedIn v = true := by
  obtain ⟨l, t, _, rfl⟩ := hs.at (i := i) (v := v) (by rw [Array.getElem?_toList]; exact e)
  rfl
theorem row_strs {items : Array Value} {t : Tn} (hs : Strs items.toList t.words) {i : Nat} {n : Int} (hn : t.2[i]? = some n) {v1 v2 v3 v4 : Value} (g1 : items[4 * i]? = some v1) (g2 : items[4 * i + 1]? = some v2) (g3 : items[4 * i + 2]? = some v3) (g4 : items[4 * i + 3]? = some v4) : Strs #[v1, v2, v3, v4].toList (rd n) := by
  rw [← Array.getElem?_toList] at g1 g2 g3 g4
  obtain ⟨l1, u1, f1, rfl⟩ := hs.at g1
  obtain ⟨l2, u2, f2, rfl⟩ := hs.at g2
  obtain ⟨l3, u3, f3, rfl⟩ := hs.at g3
  obtain ⟨l4, u4, f4, rfl⟩ := hs.at g4
  rw [← Nat.add_zero (4 * i), words_at hn (by omega)] at f1
  rw [words_at hn (by omega)] at f2 f3 f4
  simp [rd] at f1 f2 f3 f4
  subst f1 f2 f3 f4
  exact .cons (.cons (.cons (.cons .nil)))
theorem IsTr.hide {h : Heap} {tr L : Addr} {xs : Array Value} {bs : List (Str × Value)} {x : Str} {v : Value} (It : IsTr h tr xs) (n : NsHas h L bs) (hx : bs.lookup x = some v) : IsTr (h.hide L) tr xs := by
  obtain ⟨dx, e1, e2⟩ := It.o
  obtain ⟨m, ⟨o, es, ep, e, d, _, f⟩, g⟩ := n
  refine ⟨dx, hide_of e1 fun z => ?_, hide_of e2 fun z => ?_⟩
  · rw [z, e] at e1; cases e1
    cases d
  · rw [z, e] at e2; cases e2
    cases d
    have := (f x).trans (g x v hx)
    cases this
section
variable {prog : Program} {w : World} {A : Around} {c : Cfg} {h : Heap} {E : Value → Heap → Prop} {env : Env} {L la kd lh D : Addr} {B : Heap} {pr : Program} {loose : List Str} {mg mb : Str → Option Value} {st : Stmt} {sc : Scope} {q a : Trip} {t : Tn} {bs : List (Str × Value)}
theorem seg3 (hst : lawSub w.params 11 3 = some st) (hS : lawScope w.params = some sc) (T : Top0 w.params pr loose mg mb B) (hroom : A.depth + 100 < recursionLimit) (hA : A.handled = none) (hE : EnvIs sc L env)
    (bL : B.get? L = none) (bD : B.get? D = none) (hDL : D ≠ L) (kB : B.StaysIn h) {m : Nat} (hgot : h.get? D = some (LObj #[] m)) {tt tk tl : Tok} {kk : Nat} {lg : List Nat} (ns : NsHas h L ((nGot, .ref D) :: bsT q a t.ta tt kk tk kd la lh lg tl))
    (cx : CAt w.params (cut [L, D] h) q a t t.words) (hts : t.2 ≠ [] ∧ t.2.length ≤ 3) {Q : Flow → Heap → Prop}
    (k : ∀ h' rows m', Keeps1 [L, D] h h' → h'.get? D = some (LObj rows.toArray m') → rows.length = t.2.length → RowsIs (cut [L, D] h') rows t.2 → NsHas h' L ((nGot, .ref D) :: bsT q a t.ta tt kk tk kd la lh lg tl) → Q .next h') :
    Mine.D (model prog w) A c (exec st env) h Q E := by
  have e0 := lawStmt_of (P := w.params) (i := 11) (by k_is) rfl
  have e := Option.some.inj (hst.symm.trans (lawSub_of e0 rfl))
  have e2 := Option.some.inj (hS.symm.trans (lawScope_of (by k_is)))
  subst e
  subst e2
  clear e0
  dsimp only at hE
  have F := ns.frl
  have Th : Top0 w.params pr loose mg mb (h.hide L) := T.keeps fun b o e => hide_of (kB b o e) fun z => by rw [z, bL] at e; cases e
  obtain ⟨t1, t2, items, Sn, hs⟩ := cx.sen
  have hwl := words_len t
  have hsz := strs_sz hs
  have Snh : Sen w.params h a.1 a.2.1 a.2.2 (.str (S t.ta) t1) (.str (S (sg "XDR")) t2) items := Sn.keeps cut_in
  refine d_for ?_
  repeat walk_at "d1"
  refine d_numtr (T.keeps kB) (by omega) Snh (by omega) (fun h₁ t3 k1 => ?_)
  have hq : items.size / 4 = t.2.length := by rw [hsz, words_quot]
  rw [hq]
  repeat walk_at "d1"
  refine d_range1 (fun h₂ r t4 t5 k2 n2 hr => ?_)
  refine d_iterRange hr (by omega) (fun h₃ I k3 nI W st0 => ?_)
  have k03 := stays_trans k1 (stays_trans k2 k3)
  have nI0 : h.get? I = none := none_of_stays (stays_trans k1 k2) nI
  have bI : B.get? I = none := none_of_stays kB nI0
  have LI : L ≠ I := Ne.symm (ne_of_new nI0 F.at)
  have DI : D ≠ I := fun z => by rw [z, nI0] at hgot; cases hgot
  have kcut : (cut [L, D] h).StaysIn (cut [L, D, I] h₃) := fun b o e => cut_of (k03 _ _ (of_cut e)) (fun z => by
    simp only [List.mem_cons, List.not_mem_nil, or_false] at z
    rcases z with z | z | z
    · rw [cut_no (by simp [z])] at e; cases e
    · rw [cut_no (by simp [z])] at e; cases e
    · rw [z] at e; rw [of_cut e] at nI0; cases nI0)
  have kB3 : B.StaysIn (cut [L, D, I] h₃) := fun b o e => cut_of (k03 _ _ (kB _ _ e)) (fun z => by
    simp only [List.mem_cons, List.not_mem_nil, or_false] at z
    rcases z with z | z | z <;> subst z <;> first | (rw [bL] at e; cases e) | (rw [bD] at e; cases e) | (rw [bI] at e; cases e))
  have Sn3 := Sn.keeps kcut
  refine dc_for W hA (fun i h' => (cut [L, D, I] h₃).StaysIn h' ∧ NsHas h' L ((nGot, .ref D) :: bsT q a t.ta tt kk tk kd la lh lg tl) ∧ ∃ rows m', h'.get? D = some (LObj rows.toArray m') ∧ rows.length = i ∧ RowsIs (cut [L, D, I] h') rows t.2) st0
    ⟨fun b o e => of_cut e, ns.keep fun o e => k03 _ _ e, [], m, k03 _ _ hgot, rfl, fun j r e => by simp at e⟩ (fun i v h₄ h₅ hi hP iv k5 st5 => ?_) (fun h₄ h₅ iv k5 => ?_)
  · obtain ⟨kc, ns4, rows, m', hD4, hrl, hrows⟩ := iv
    obtain ⟨ti, rfl⟩ := hP
    have k5 : Keeps1 [I] h₄ h₅ := k5
    have ns5 := ns4.keep (h' := h₅) fun o e => k5 _ _ (by simpa using LI) e
    have hD5 := k5 _ _ (by simpa using DI) hD4
    have kc5 : (cut [L, D, I] h₃).StaysIn (h₅.hide L) := fun b o e => hide_of (k5 _ _ (fun z => by
      rw [cut_no (by simp at z; simp [z])] at e; cases e) (kc _ _ e)) fun z => by rw [cut_no (by simp [z])] at e; cases e
    have T5 : Top0 w.params pr loose mg mb (h₅.hide L) := (T.keeps kB3).keeps kc5
    have Sn5 := Sn3.keeps kc5
    have F5 := ns5.frl
    obtain ⟨n, hn⟩ : ∃ n, t.2[i]? = some n := ⟨_, List.getElem?_eq_getElem hi⟩
    refine d_store hE F5 (fun h₆ F6 => ?_)
    repeat walk_at "d1"
    refine d_meth (T5.K.keeps F6.keep) (Sn5.keeps F6.keep) (f := 391) (by k_is) (by k_is) (by k_is) (by k_is) (by decide +kernel) (fun _ _ _ => rfl) (fun h₇ qm k7 n7 hqm => ?_)
    have F7 := F6.back k7
    clear F6
    refine d_withM (K := hd.heap_39 w.params) (by k_is) (T5.K.keeps F7.keep) hqm ?_
    repeat walk_at "d1"
    refine ⟨stays_refl _, gettr_spec (T5.keeps F7.keep) (by omega) (Sn5.keeps F7.keep) (by omega) (i := i) (by rw [hsz]; omega) (fun h₈ tr v1 v2 v3 v4 k8 n8 g1 g2 g3 g4 It => ?_)⟩
    have F8 := F7.back k8
    clear F7
    have ns8 : NsHas h₈ L _ := F8.ns
    have It8 := It.hide ns8 (x := nGot) (v := .ref D) rfl
    have k58 : (h₅.hide L).StaysIn (h₈.hide L) := F8.into
    have T8 := T5.keeps k58
    have hD8 : (h₈.hide L).get? D = some (LObj rows.toArray m') := hide_of (F8.keep _ _ (hide_of hD5 hDL)) hDL
    refine d_store hE F8.all (fun h₉ F9 => ?_)
    repeat walk_at "d1"
    have It9 := It8.keeps F9.keep
    refine d_isTr (T8.K.keeps F9.keep) It9 ?_
    repeat walk_at "d1"
    refine d_gmList slot_list_append PySem.F.type_list_append (F9.keep _ _ hD8) ?_
    repeat walk_at "d1"
    refine d_trAttr (T8.keeps F9.keep) (by omega) It9 (tra_type _) (v := v1) rfl (by omega) (strs_hand hs g1) (fun h₁₀ k10 => ?_)
    have F10 := F9.back k10
    clear F9
    repeat walk_at "d1"
    refine d_trAttr (T8.keeps F10.keep) (by omega) (It8.keeps F10.keep) (tra_value _) (v := v2) rfl (by omega) (strs_hand hs g2) (fun h₁₁ k11 => ?_)
    have F11 := F10.back k11
    clear F10
    repeat walk_at "d1"
    refine d_trAttr (T8.keeps F11.keep) (by omega) (It8.keeps F11.keep) (tra_units _) (v := v3) rfl (by omega) (strs_hand hs g3) (fun h₁₂ k12 => ?_)
    have F12 := F11.back k12
    clear F11
    repeat walk_at "d1"
    refine d_trAttr (T8.keeps F12.keep) (by omega) (It8.keeps F12.keep) (tra_id _) (v := v4) rfl (by omega) (strs_hand hs g4) (fun h₁₃ k13 => ?_)
    have F13 := F12.back k13
    clear F12
    repeat walk_at "d1"
    refine d_newTuple F13 (by simp) (fun H' h₁₄ Tp kH F14 k14 nT ht => ?_)
    have L13 := F13.at
    have hD13 := F13.keep _ _ hD8
    have hTL : Tp ≠ L := ne_of_new nT L13
    have hTD : Tp ≠ D := fun z => by rw [z, hD13] at nT; cases nT
    have hTI : Tp ≠ I := fun z => by
      have := F13.keep _ _ (k58 _ _ (hide_of st5 (Ne.symm LI)))
      rw [← z, nT] at this; cases this
    repeat walk_at "d1"
    refine d_append (k14 _ _ hD13) (by rw [List.size_toArray]; omega) (fun h₁₅ m15 e15 sb15 => ?_)
    repeat walk_at "d1"
    have k515 : ∀ b o, b ≠ L → b ≠ D → h₅.get? b = some o → h₁₅.get? b = some o := fun b o h1 h2 e => (sb15.2 b h2).trans (k14 _ _ (F13.keep _ _ (k58 _ _ (hide_of e h1))))
    have cutS : (cut [L, D, I] h₄).StaysIn (cut [L, D, I] h₁₅) := fun b o e => by
      have e1 := of_cut e
      have z : b ∉ [L, D, I] := fun z => by rw [cut_no z] at e; cases e
      have z2 : b ≠ L ∧ b ≠ D ∧ b ≠ I := by simpa using z
      exact cut_of (k515 _ _ z2.1 z2.2.1 (k5 _ _ (by simpa using z2.2.2) e1)) z
    refine ⟨k515 _ _ (Ne.symm LI) (Ne.symm DI) st5, fun b o e => ?_, ((show NsHas h₁₄ L _ from F14.ns).keep fun o e => (sb15.2 _ (Ne.symm hDL)).trans e).sub ?_, rows ++ [.ref Tp], m15, by rw [e15]; simp, by simp [hrl], (hrows.keep cutS).more (n := n) (by rw [hrl]; exact hn) (p := Tp) (its := #[v1, v2, v3, v4]) ?_ ?_⟩
    · have z : b ∉ [L, D, I] := fun z => by rw [cut_no z] at e; cases e
      have z2 : b ≠ L ∧ b ≠ D ∧ b ≠ I := by simpa using z
      exact k515 _ _ z2.1 z2.2.1 (k5 _ _ (by simpa using z2.2.2) (kc _ _ e))
    · exact sub_cons rfl (sub_cons rfl (sub_cons rfl (sub_cons rfl (sub_cons rfl (sub_cons rfl (sub_cons rfl (sub_cons rfl (sub_cons rfl (sub_cons rfl sub_nil)))))))))
    · obtain ⟨o, e, r'⟩ := ht.keeps F14.keep
      exact ⟨o, cut_of ((sb15.2 _ hTD).trans e) (by simp [hTL, hTD, hTI]), r'⟩
    · exact row_strs hs hn g1 g2 g3 g4
  · obtain ⟨kc, ns4, rows, m', hD4, hrl, hrows⟩ := iv
    have k5 : Keeps1 [I] h₄ h₅ := k5
    refine k h₅ rows m' (fun b o hb e => ?_) (k5 _ _ (by simpa using DI) hD4) hrl (hrows.keep fun b o e => ?_) (ns4.keep fun o e => k5 _ _ (by simpa using LI) e)
    · have hb2 : b ≠ L ∧ b ≠ D := by simpa using hb
      have hbI : b ≠ I := fun z => by rw [z, nI0] at e; cases e
      exact k5 _ _ (by simpa using hbI) (kc _ _ (cut_of (k03 _ _ e) (by simp [hb2.1, hb2.2, hbI])))
    · have z : b ∉ [L, D, I] := fun z => by rw [cut_no z] at e; cases e
      have z2 : b ≠ L ∧ b ≠ D ∧ b ≠ I := by simpa using z
      exact cut_of (k5 _ _ (by simpa using z2.2.2) (of_cut e)) (by simp [z2.1, z2.2.1])
end
end
section
section
variable {prog : Program} {w : World} {A : Around} {c : Cfg} {h : Heap} {E : Value → Heap → Prop} {env : Env} {L la kd lh D : Addr} {B : Heap} {pr : Program} {loose : List Str} {mg mb : Str → Option Value} {st : Stmt} {sc : Scope} {q a : Trip} {t : Tn} {bs : List (Str × Value)}
theorem EqT.rows {p r : Addr} {x y : Array Value} {ls : List (List Nat)} (h1 : IsTup h p x) (h2 : IsTup h r y) (s1 : Strs x.toList ls) (s2 : Strs y.toList ls) (hu : A.units < cLine) : EqT A h (.ref p) (.ref r) :=
  EqT.tup h1 h2 (by rw [strs_sz s1, strs_sz s2]) hu (by
    have := strs_eqT (A := A.in1) (h := h) s1 s2
    simpa using this)
theorem seg4 (hst : lawSub w.params 11 4 = some st) (hS : lawScope w.params = some sc) (T : Top0 w.params pr loose mg mb (h.hide L)) (hu : A.units + 10 < cLine) (hE : EnvIs sc L env)
    {rows : List Value} {m : Nat} (hgot : h.get? D = some (LObj rows.toArray m)) (hrl : rows.length = t.2.length) (hrows : RowsIs h rows t.2) {tt tk tl : Tok} {kk : Nat} {lg : List Nat} (ns : NsHas h L ((nGot, .ref D) :: bsT q a t.ta tt kk tk kd la lh lg tl))
    (cx : CAt w.params h q a t t.words) {Q : Flow → Heap → Prop} (k : Q .next h) :
    Mine.D (model prog w) A c (exec st env) h Q E := by
  have e0 := lawStmt_of (P := w.params) (i := 11) (by k_is) rfl
  have e := Option.some.inj (hst.symm.trans (lawSub_of e0 rfl))
  have e2 := Option.some.inj (hS.symm.trans (lawScope_of (by k_is)))
  subst e
  subst e2
  clear e0
  dsimp only at hE
  have F := ns.frl
  obtain ⟨t1, t2, items, ⟨⟨ta, tb, tc, I⟩, Il⟩, hs⟩ := cx.sen
  obtain ⟨gi, hgi, hgz, hgf⟩ := cx.ask.grp
  obtain ⟨wi, hwi, hws⟩ := cx.ask.wds
  repeat walk_at "d1"
  refine d_neRc (fun s es => (RcT.list (LObj.isList hgot) hgi (by rw [List.size_toArray, hrl, hgz]) (by omega) (fun j x y e1 e2 => ?_) s es).2) ?_
  · rw [List.getElem?_toArray] at e1
    obtain ⟨n, p, its, f1, rfl, f3, f4⟩ := hrows j x e1
    obtain ⟨r, its', g1, g2, g3⟩ := hgf j n f1
    rw [e2] at g1; cases g1
    exact EqT.rows f3 g2 f4 g3 (by show A.units + 1 < _; omega)
  repeat walk_at "d1"
  refine d_getOwn (K := hd.heap_39 w.params) (T.K.keeps fun b o e => Heap.of_hide e) I (by k_is) (by k_is) (attr := none) (by k_is) rfl (v := .str (S t.ta) t1) rfl rfl ?_
  repeat walk_at "d1"
  rw [show (t.ta != t.ta) = false by simp]
  repeat walk_at "d1"
  refine d_getOwn (K := hd.heap_39 w.params) (T.K.keeps fun b o e => Heap.of_hide e) I (by k_is) (by k_is) (attr := none) (by k_is) rfl (v := .ref a.2.2) rfl rfl ?_
  repeat walk_at "d1"
  refine d_neStrs Il hwi hs hws (by omega) ?_
  repeat walk_at "d1"
  exact k
theorem seg5 (hst : lawSub w.params 11 5 = some st) (hS : lawScope w.params = some sc) (T : Top0 w.params pr loose mg mb (h.hide L)) (hroom : A.depth + 100 < recursionLimit) (hA : A.handled = none) (hu : A.units + 10 < cLine) (hE : EnvIs sc L env)
    {tt tk tl : Tok} {kk : Nat} {lg : List Nat} (ns : NsHas h L ((nGot, .ref D) :: bsT q a t.ta tt kk tk kd la lh lg tl))
    (cx : CAt w.params (h.hide L) q a t t.words) (hts : t.2 ≠ [] ∧ t.2.length ≤ 3) {Q : Flow → Heap → Prop} (k : ∀ h', h.StaysIn h' → Q .next h') :
    Mine.D (model prog w) A c (exec st env) h Q E := by
  have e0 := lawStmt_of (P := w.params) (i := 11) (by k_is) rfl
  have e := Option.some.inj (hst.symm.trans (lawSub_of e0 rfl))
  have e2 := Option.some.inj (hS.symm.trans (lawScope_of (by k_is)))
  subst e
  subst e2
  clear e0
  dsimp only at hE
  have F := ns.frl
  obtain ⟨t1, t2, items, Sn, hs⟩ := cx.sen
  obtain ⟨gi, hgi, hgz, hgf⟩ := cx.ask.grp
  have hwl := words_len t
  have hsz := strs_sz hs
  have h0 : 0 < t.2.length := List.length_pos_iff.mpr hts.1
  obtain ⟨n, hn⟩ : ∃ n, t.2[0]? = some n := ⟨_, List.getElem?_eq_getElem h0⟩
  obtain ⟨v1, g1⟩ : ∃ v, items[0]? = some v := ⟨_, Array.getElem?_eq_getElem (by omega)⟩
  obtain ⟨v2, g2⟩ : ∃ v, items[1]? = some v := ⟨_, Array.getElem?_eq_getElem (by omega)⟩
  obtain ⟨v3, g3⟩ : ∃ v, items[2]? = some v := ⟨_, Array.getElem?_eq_getElem (by omega)⟩
  obtain ⟨v4, g4⟩ : ∃ v, items[3]? = some v := ⟨_, Array.getElem?_eq_getElem (by omega)⟩
  repeat walk_at "d1"
  refine d_field (T.keeps F.keep) (by omega) hA (Sn.keeps F.keep) (by omega) (j := 0) (by omega) g1 (strs_hand hs g1) (fun h₁ k1 => ?_)
  have F1 := F.back k1
  repeat walk_at "d1"
  refine d_field (T.keeps F1.keep) (by omega) hA (Sn.keeps F1.keep) (by omega) (j := 1) (by omega) g2 (strs_hand hs g2) (fun h₂ k2 => ?_)
  have F2 := F1.back k2
  repeat walk_at "d1"
  refine d_field (T.keeps F2.keep) (by omega) hA (Sn.keeps F2.keep) (by omega) (j := 2) (by omega) g3 (strs_hand hs g3) (fun h₃ k3 => ?_)
  have F3 := F2.back k3
  repeat walk_at "d1"
  refine d_field (T.keeps F3.keep) (by omega) hA (Sn.keeps F3.keep) (by omega) (j := 3) (by omega) g4 (strs_hand hs g4) (fun h₄ k4 => ?_)
  have F4 := F3.back k4
  clear F F1 F2 F3
  repeat walk_at "d1"
  refine d_newTuple F4 (by simp) (fun H' h₅ Tp kH F5 k5 nT ht => ?_)
  clear F4
  repeat walk_at "d1"
  obtain ⟨r, its, f1, f2, f3⟩ := hgf 0 n hn
  have kall := stays_trans k1 (stays_trans k2 (stays_trans k3 (stays_trans k4 k5)))
  refine d_tailList (isl_keeps hgi (fun b o e => kall _ _ (Heap.of_hide e))) (i := (0 : Int)) (j := 0) rfl (by omega) f1 ?_
  repeat walk_at "d1"
  have hrow := row_strs hs (i := 0) hn g1 g2 g3 g4
  refine d_neStrsT (ht.keeps F5.keep) (f2.keeps (fun b o e => kall _ _ (Heap.of_hide e))) hrow f3 (by omega) ?_
  repeat walk_at "d1"
  exact k _ kall
end
end
section
abbrev nJ : Str := Str.ofString "j"
theorem isl_ne_tup {h : Heap} {a b : Addr} {x y : Array Value} (h1 : h.IsList a x) (h2 : IsTup h b y) : b ≠ a := fun z => by
  obtain ⟨o, e, c, _⟩ := h1
  obtain ⟨o', e', c', _⟩ := h2
  rw [z, e] at e'; cases e'
  rw [c] at c'
  exact absurd (Value.type.inj c') (by decide)
theorem AskAt.but {h h' : Heap} {q : Trip} {t : Tn} {ws ws' : List (List Nat)} {X : List Addr} (x : AskAt h q t ws) (kX : Keeps1 X h h') (hX : ∀ b ∈ X, ∃ its, h.IsList b its) (hG : q.2.1 ∉ X) (w' : ∃ wi, h'.IsList q.2.2 wi ∧ Strs wi.toList ws') : AskAt h' q t ws' where
  tup := by
    obtain ⟨tt, ht⟩ := x.tup
    refine ⟨tt, ?_⟩
    obtain ⟨o, e, r⟩ := id ht
    exact ⟨o, kX _ _ (fun z => let ⟨its, i⟩ := hX _ z; isl_ne_tup i ht rfl) e, r⟩
  grp := by
    obtain ⟨gi, ⟨o, e, r⟩, sz, f⟩ := x.grp
    refine ⟨gi, ⟨o, kX _ _ hG e, r⟩, sz, fun i n hn => ?_⟩
    obtain ⟨p, its, a, ht, c⟩ := f i n hn
    obtain ⟨o, e, z⟩ := id ht
    exact ⟨p, its, a, ⟨o, kX _ _ (fun z => let ⟨its, i⟩ := hX _ z; isl_ne_tup i ht rfl) e, z⟩, c⟩
  wds := w'
theorem SenK.but {P : Params} {h h' : Heap} {a : Trip} {t : Tn} {ws ws' : List (List Nat)} {X : List Addr} (x : SenK P h a t ws) (kX : Keeps1 X h h') (hX : ∀ b ∈ X, ∃ its, h.IsList b its) (l' : ∃ its, h'.IsList a.2.2 its ∧ Strs its.toList ws') : SenK P h' a t ws' := by
  obtain ⟨t1, t2, items, ⟨⟨ta, tb, tc, I⟩, Il⟩, hs⟩ := x
  obtain ⟨its', h1, h2⟩ := l'
  refine ⟨t1, t2, its', ⟨⟨ta, tb, tc, kX _ _ (fun z => ?_) I.x, kX _ _ (fun z => ?_) I.d⟩, h1⟩, h2⟩
  · obtain ⟨its, o, e, c, _⟩ := hX _ z
    have e' := I.x
    rw [e] at e'; cases e'
    cases c
  · obtain ⟨its, o, e, c, _⟩ := hX _ z
    have e' := I.d
    rw [e] at e'; cases e'
    exact absurd (Value.type.inj c) (by decide)
theorem CAt.lists {P : Params} {h : Heap} {q a : Trip} {t : Tn} {ws : List (List Nat)} (x : CAt P h q a t ws) : ∀ b ∈ [q.2.2, a.2.2], ∃ its, h.IsList b its := fun b hb => by
  simp only [List.mem_cons, List.not_mem_nil, or_false] at hb
  rcases hb with rfl | rfl
  · obtain ⟨wi, h1, _⟩ := x.ask.wds; exact ⟨wi, h1⟩
  · obtain ⟨t1, t2, items, ⟨_, Il⟩, _⟩ := x.sen; exact ⟨items, Il⟩
theorem names_tup {P : Params} {h : Heap} (X : (hd.heap_39 P).In h) : ∃ items : Array Value, IsTup h 431 items ∧ ∀ j, j < 4 → ∃ t, items[j]? = some (.str (nm j) t) := by
  obtain ⟨o, items, n, ho, hc, hd, hs⟩ : ∃ (o : Obj) (items : Array Value) (n : Nat), (hd.heap_39 P).lookup 431 = some o ∧ o.cls = .type "tuple" ∧ o.data = .seq items n ∧ ∀ j, j < 4 → ∃ t, items[j]? = some (.str (nm j) t) := by
    refine ⟨_, _, _, by k_is, rfl, rfl, fun j hj => ?_⟩
    rcases j with _ | _ | _ | _ | j <;> first | exact ⟨_, rfl⟩ | omega
  exact ⟨items, ⟨o, X _ _ ho, hc, n, hd⟩, hs⟩
theorem set_strs {items : Array Value} {ls : List (List Nat)} (hs : Strs items.toList ls) {l : List Nat} {t : Tok} (j : Nat) : Strs (items.setIfInBounds j (.str (S l) t)).toList (ls.set j l) := by
  rw [Array.toList_setIfInBounds]
  exact hs.set j
section
variable {prog : Program} {w : World} {A : Around} {c : Cfg} {h : Heap} {E : Value → Heap → Prop} {env : Env} {L la kd lh D : Addr} {B : Heap} {pr : Program} {loose : List Str} {mg mb : Str → Option Value} {st : Stmt} {sc : Scope} {q a : Trip} {t : Tn} {bs : List (Str × Value)} {tt tk tl : Tok} {kk : Nat} {lg : List Nat}
theorem seg6 (hst : lawSub w.params 11 6 = some st) (hS : lawScope w.params = some sc) (T : Top0 w.params pr loose mg mb (h.hide L)) (hE : EnvIs sc L env) (hlg : lg.length ≤ 777)
    (ns : NsHas h L (bsT q a t.ta tt kk tk kd la lh lg tl)) {Q : Flow → Heap → Prop} (k : ∀ h' tj, (h.hide L).StaysIn h' → NsHas h' L ((nJ, .int (((lg.length + kk) % 4 : Nat) : Int) tj) :: bsT q a t.ta tt kk tk kd la lh lg tl) → Q .next h') :
    Mine.D (model prog w) A c (exec st env) h Q E := by
  have e0 := lawStmt_of (P := w.params) (i := 11) (by k_is) rfl
  have e := Option.some.inj (hst.symm.trans (lawSub_of e0 rfl))
  have e2 := Option.some.inj (hS.symm.trans (lawScope_of (by k_is)))
  subst e
  subst e2
  clear e0
  dsimp only at hE
  have F := ns.frl
  repeat walk_at "d1"
  refine d_lenStr (by omega) (fun t1 => ?_)
  repeat walk_at "d1"
  have ej : (((lg.length : Nat) : Int) + ((kk : Nat) : Int)).fmod 4 = (((lg.length + kk) % 4 : Nat) : Int) := by
    rw [Int.fmod_eq_emod_of_nonneg _ (by decide)]; omega
  rename_i tj h' F'
  refine k h' tj F'.keep ?_
  rw [← ej]
  exact F'.ns
theorem seg7 (hst : lawSub w.params 11 7 = some st) (hS : lawScope w.params = some sc) (T : Top0 w.params pr loose mg mb B) (hroom : A.depth + 100 < recursionLimit) (hA : A.handled = none) (hE : EnvIs sc L env) (bL : B.get? L = none) (bl : B.get? a.2.2 = none) (kB : B.StaysIn h) (hlg : lg.length ≤ 777) (hkk : kk ≤ 7) {tj : Tok}
    (ns : NsHas h L ((nJ, .int (((lg.length + kk) % 4 : Nat) : Int) tj) :: bsT q a t.ta tt kk tk kd la lh lg tl)) (sn : SenK w.params (h.hide L) a t t.words) (hts : t.2 ≠ [] ∧ t.2.length ≤ 3) {Q : Flow → Heap → Prop}
    (k : ∀ h', (∀ b o, b ≠ a.2.2 → h.get? b = some o → h'.get? b = some o) → (∃ its, h'.IsList a.2.2 its ∧ Strs its.toList (newW lg.length kk t)) → Q .next h') :
    Mine.D (model prog w) A c (exec st env) h Q E := by
  have e0 := lawStmt_of (P := w.params) (i := 11) (by k_is) rfl
  have e := Option.some.inj (hst.symm.trans (lawSub_of e0 rfl))
  have e2 := Option.some.inj (hS.symm.trans (lawScope_of (by k_is)))
  subst e
  subst e2
  clear e0
  dsimp only at hE
  have F := ns.frl
  have Th : Top0 w.params pr loose mg mb (h.hide L) := T.keeps fun b o e => hide_of (kB b o e) fun z => by rw [z, bL] at e; cases e
  obtain ⟨t1, t2, items, Sn, hs⟩ := sn
  have hwl := words_len t
  have hsz := strs_sz hs
  have h0 : 0 < t.2.length := List.length_pos_iff.mpr hts.1
  have hj4 : (lg.length + kk) % 4 < 4 := Nat.mod_lt _ (by decide)
  repeat walk_at "d1"
  refine d_meth (Th.K.keeps F.keep) (Sn.keeps F.keep) (f := 137) (by k_is) (by k_is) (by k_is) (by k_is) (by decide +kernel) (fun _ _ _ => rfl) (fun h₁ qm k1 n1 hqm => ?_)
  have F1 := F.back k1
  refine d_withM (K := hd.heap_39 w.params) (by k_is) (Th.K.keeps F1.keep) hqm ?_
  repeat walk_at "d1"
  obtain ⟨nmi, hnt, hnj⟩ := names_tup (Th.K.keeps F1.keep)
  obtain ⟨tn, htn⟩ := hnj _ hj4
  refine d_tailTup hnt (j := (lg.length + kk) % 4) rfl (by omega) htn ?_
  repeat walk_at "d1"
  refine d_lenStr (by omega) (fun t3 => ?_)
  repeat walk_at "d1"
  refine ⟨stays_refl _, setfield_spec T (stays_trans kB k1) (by omega) hA (Sn.keeps F1.keep) bl (by omega) hj4 (by omega) (log2_lt (by omega)) (fun h₂ t4 k2 l2 => ?_)⟩
  refine k h₂ (fun b o hb e => k2 _ _ hb (k1 _ _ e)) ⟨_, l2, ?_⟩
  unfold newW
  exact set_strs hs _
theorem seg8 (hst : lawSub w.params 11 8 = some st) (hS : lawScope w.params = some sc) (T : Top0 w.params pr loose mg mb (h.hide L)) (hE : EnvIs sc L env) (hlg : lg.length ≤ 777) (hkk : kk ≤ 7) {tj : Tok}
    (ns : NsHas h L ((nJ, .int (((lg.length + kk) % 4 : Nat) : Int) tj) :: bsT q a t.ta tt kk tk kd la lh lg tl)) (wd : ∃ wi, h.IsList q.2.2 wi ∧ Strs wi.toList t.words) (hts : t.2 ≠ [] ∧ t.2.length ≤ 3) {Q : Flow → Heap → Prop}
    (k : ∀ h', (∀ b o, b ≠ q.2.2 → h.get? b = some o → h'.get? b = some o) → (∃ its, h'.IsList q.2.2 its ∧ Strs its.toList (newW lg.length kk t)) → Q .next h') :
    Mine.D (model prog w) A c (exec st env) h Q E := by
  have e0 := lawStmt_of (P := w.params) (i := 11) (by k_is) rfl
  have e := Option.some.inj (hst.symm.trans (lawSub_of e0 rfl))
  have e2 := Option.some.inj (hS.symm.trans (lawScope_of (by k_is)))
  subst e
  subst e2
  clear e0
  dsimp only at hE
  have F := ns.frl
  obtain ⟨wi, hwi, hws⟩ := wd
  have hwl := words_len t
  have hsz := strs_sz hws
  have h0 : 0 < t.2.length := List.length_pos_iff.mpr hts.1
  have hj4 : (lg.length + kk) % 4 < 4 := Nat.mod_lt _ (by decide)
  repeat walk_at "d1"
  refine d_lenStr (by omega) (fun t3 => ?_)
  repeat walk_at "d1"
  refine d_strInt (log2_lt (by omega)) (fun t4 => ?_)
  repeat walk_at "d1"
  refine d_setItem hwi (j := (lg.length + kk) % 4) rfl (by omega) (by omega) (fun h₁ l1 sb => ?_)
  refine k h₁ (fun b o hb e => (sb.2 b hb).trans e) ⟨_, l1, ?_⟩
  unfold newW
  exact set_strs hws _
end
end
section
abbrev nLine : Str := Str.ofString "line"
abbrev nAgain : Str := Str.ofString "again"
/-- what is said of words -/
def saidOf (t : Tn) (ws : List (List Nat)) : List Nat := t.ta ++ sg "XDR," ++ jn 44 ws
/-- what is rendered of them -/
def lineSaid (t : Tn) (ws : List (List Nat)) : List Nat := sg "$" ++ saidOf t ws ++ sg "*" ++ hex2 (xs (saidOf t ws))
theorem said_sy (t : Tn) (ws : List (List Nat)) : t.ta ++ sg "XDR" ++ sg "," ++ jn 44 ws = saidOf t ws := by
  unfold saidOf
  rw [List.append_assoc t.ta, show sg "XDR" ++ sg "," = sg "XDR," from rfl]
theorem line_sy (t : Tn) (ws : List (List Nat)) : sg "$" ++ (t.ta ++ sg "XDR" ++ sg "," ++ jn 44 ws ++ (sg "*" ++ hex2 (xs (t.ta ++ sg "XDR" ++ sg "," ++ jn 44 ws)))) = lineSaid t ws := by
  rw [said_sy]
  unfold lineSaid
  simp only [List.append_assoc]
theorem line_lineOf (t : Tn) (ws : List (List Nat)) : lineSaid t ws = lineOf true t.ta (jn 44 ws) (xs (saidOf t ws)) false := by
  unfold lineSaid lineOf saidOf
  rw [show sg "$" = [36] from rfl, show sg "*" = [42] from rfl]
  simp
theorem said_len (t : Tn) {ws : List (List Nat)} (x : WOk ws) : (saidOf t ws).length ≤ 6 + 6 * ws.length := by
  have := x.len
  unfold saidOf
  rw [List.length_append, head_len]; omega
section
variable {prog : Program} {w : World} {A : Around} {c : Cfg} {h : Heap} {E : Value → Heap → Prop} {env : Env} {L la kd lh D : Addr} {B : Heap} {pr : Program} {loose : List Str} {mg mb : Str → Option Value} {st : Stmt} {sc : Scope} {q a : Trip} {t : Tn} {bs : List (Str × Value)} {tt tk tl : Tok} {kk : Nat} {lg : List Nat} {ws : List (List Nat)} {tj ts tn : Tok} {jj : Nat}
theorem seg9 (hst : lawSub w.params 11 9 = some st) (hS : lawScope w.params = some sc) (T : Top0 w.params pr loose mg mb (h.hide L)) (hE : EnvIs sc L env) (hw : WOk ws) (hwl : ws.length ≤ 20)
    (ns : NsHas h L ((nJ, .int ((jj : Nat) : Int) tj) :: bsT q a t.ta tt kk tk kd la lh lg tl)) (wd : ∃ wi, (h.hide L).IsList q.2.2 wi ∧ Strs wi.toList ws) {Q : Flow → Heap → Prop}
    (k : ∀ h' ts, (h.hide L).StaysIn h' → NsHas h' L ((nSaid, .str (S (saidOf t ws)) ts) :: (nJ, .int ((jj : Nat) : Int) tj) :: bsT q a t.ta tt kk tk kd la lh lg tl) → Q .next h') :
    Mine.D (model prog w) A c (exec st env) h Q E := by
  have e0 := lawStmt_of (P := w.params) (i := 11) (by k_is) rfl
  have e := Option.some.inj (hst.symm.trans (lawSub_of e0 rfl))
  have e2 := Option.some.inj (hS.symm.trans (lawScope_of (by k_is)))
  subst e
  subst e2
  clear e0
  dsimp only at hE
  have F := ns.frl
  obtain ⟨wi, hwi, hws⟩ := wd
  have l2 : t.ta.length = 2 := talk_len _ (ta_mem t)
  have l4 : (sg "XDR,").length = 4 := rfl
  have h1 := hw.sum
  have h2 := hw.len
  repeat walk_at "d1"
  refine d_gm (fun M A E s Q q => GM.join q) ?_
  repeat walk_at "d1"
  refine d_join (k := 44) (isl_keeps hwi F.keep) hws (by omega) (fun t6 => ?_)
  refine d_addStr (x := t.ta ++ sg "XDR,") (y := jn 44 ws) (by rw [List.length_append]; omega) (fun t7 => ?_)
  refine d_store hE F (fun h₁ F1 => ?_)
  exact k _ _ F1.keep F1.ns
theorem seg10 (hst : lawSub w.params 11 10 = some st) (hS : lawScope w.params = some sc) (T : Top0 w.params pr loose mg mb (h.hide L)) (hroom : A.depth + 100 < recursionLimit) (hA : A.handled = none) (hE : EnvIs sc L env) (hw : WOk ws) (hwl : ws.length ≤ 20)
    (ns : NsHas h L ((nSaid, .str (S (saidOf t ws)) ts) :: (nJ, .int ((jj : Nat) : Int) tj) :: bsT q a t.ta tt kk tk kd la lh lg tl)) (sn : SenK w.params (h.hide L) a t ws) {Q : Flow → Heap → Prop}
    (k : ∀ h' tn, (h.hide L).StaysIn h' → NsHas h' L ((nLine, .str (S (lineSaid t ws)) tn) :: (nSaid, .str (S (saidOf t ws)) ts) :: (nJ, .int ((jj : Nat) : Int) tj) :: bsT q a t.ta tt kk tk kd la lh lg tl) → Q .next h') :
    Mine.D (model prog w) A c (exec st env) h Q E := by
  have e0 := lawStmt_of (P := w.params) (i := 11) (by k_is) rfl
  have e := Option.some.inj (hst.symm.trans (lawSub_of e0 rfl))
  have e2 := Option.some.inj (hS.symm.trans (lawScope_of (by k_is)))
  subst e
  subst e2
  clear e0
  dsimp only at hE
  have F := ns.frl
  obtain ⟨t1, t2, items, Sn, hs⟩ := sn
  have l2 : t.ta.length = 2 := talk_len _ (ta_mem t)
  have l3 : (sg "XDR").length = 3 := rfl
  have h1 := hw.sum
  have h2 := hw.lt t
  repeat walk_at "d1"
  refine d_meth (T.K.keeps F.keep) (Sn.keeps F.keep) (f := 152) (by k_is) (by k_is) (by k_is) (by k_is) (by decide +kernel) (fun _ _ _ => rfl) (fun h₁ qm k1 n1 hqm => ?_)
  have F1 := F.back k1
  clear F
  refine d_withM (K := hd.heap_39 w.params) (by k_is) (T.K.keeps F1.keep) hqm ?_
  repeat walk_at "d1"
  refine ⟨stays_refl _, render_spec (T.keeps F1.keep) (by omega) hA (Sn.keeps F1.keep) hs (by omega) (by omega) (by rw [said_sy]; show xs (saidOf t ws) < 256; unfold saidOf; omega) (fun h₂ t3 k2 => ?_)⟩
  rw [line_sy]
  have F2 := F1.back k2
  clear F1
  refine d_store hE F2 (fun h₃ F3 => ?_)
  exact k _ _ F3.keep F3.ns
theorem seg11 (hst : lawSub w.params 11 11 = some st) (hS : lawScope w.params = some sc) (T : Top0 w.params pr loose mg mb (h.hide L)) (hroom : A.depth + 100 < recursionLimit) (hA : A.handled = none) (hE : EnvIs sc L env) (hw : WOk ws) (hwl : ws.length ≤ 20)
    (ns : NsHas h L ((nLine, .str (S (lineSaid t ws)) tn) :: (nSaid, .str (S (saidOf t ws)) ts) :: (nJ, .int ((jj : Nat) : Int) tj) :: bsT q a t.ta tt kk tk kd la lh lg tl)) {Q : Flow → Heap → Prop}
    (k : ∀ h', h.StaysIn h' → Q .next h') :
    Mine.D (model prog w) A c (exec st env) h Q E := by
  have e0 := lawStmt_of (P := w.params) (i := 11) (by k_is) rfl
  have e := Option.some.inj (hst.symm.trans (lawSub_of e0 rfl))
  have e2 := Option.some.inj (hS.symm.trans (lawScope_of (by k_is)))
  subst e
  subst e2
  clear e0
  dsimp only at hE
  have F := ns.frl
  have h2 : xs (saidOf t ws) < 128 := hw.lt t
  have h3 := said_len t hw
  repeat walk_at "d1"
  refine d_withK (K := hd.heap_39 w.params) (by k_is) ?_
  repeat walk_at "d1"
  refine ⟨T.K.keeps F.keep, d_call (lawsum_spec (T.keeps F.keep) (by omega) hA (saidOf t ws) _ (fun h₁ t3 k1 => ?_))⟩
  have F1 := F.back k1
  clear F
  repeat walk_at "d1"
  refine d_newTuple F1 (by simp) (fun H' h₂ Tp kH F2 k2 nT ht => ?_)
  refine d_pctT (ht.keeps F2.keep) (hex_meets3 (saidOf t ws) (by omega) (xs (saidOf t ws)) (by omega) _ _ _ _) (fun t5 => ?_)
  repeat walk_at "d1"
  have : (lineSaid t ws != sg "$" ++ saidOf t ws ++ sg "*" ++ hex2 (xs (saidOf t ws))) = false := by unfold lineSaid; simp
  rw [this]
  repeat walk_at "d1"
  exact k _ (stays_trans k1 k2)
end
end
section
section
variable {prog : Program} {w : World} {A : Around} {c : Cfg} {h : Heap} {E : Value → Heap → Prop} {env : Env} {L la kd lh D : Addr} {B : Heap} {pr : Program} {loose : List Str} {mg mb : Str → Option Value} {st : Stmt} {sc : Scope} {q a : Trip} {t : Tn} {bs : List (Str × Value)} {tt tk tl : Tok} {kk : Nat} {lg : List Nat} {ws : List (List Nat)} {tj ts tn : Tok} {jj : Nat} {kvs : List (Str × Value)}
theorem seg12 (hst : lawSub w.params 11 12 = some st) (hS : lawScope w.params = some sc) (T : Top0 w.params pr loose mg mb (h.hide L)) (hroom : A.depth + 100 < recursionLimit) (hA : A.handled = none) (hE : EnvIs sc L env) (hfr : A.frames = some [env]) (hfL : env.frame = some L) (hw : WOk ws) (hwl : ws.length ≤ 20) (hwn : ws ≠ [])
    (hks : (kd == sysModules) = false) (hk : (h.hide L).DictOf (strKind prog w) kd kvs) (hkv : valueAt kvs (Str.ofString "XDR") = some (.ref 394))
    (ns : NsHas h L ((nLine, .str (S (lineSaid t ws)) tn) :: (nSaid, .str (S (saidOf t ws)) ts) :: (nJ, .int ((jj : Nat) : Int) tj) :: bsT q a t.ta tt kk tk kd la lh lg tl)) {Q : Flow → Heap → Prop}
    (k : ∀ h' b, (h.hide L).StaysIn h' → SenK w.params (h'.hide L) b t ws → NsHas h' L ((nAgain, .ref b.1) :: (nJ, .int ((jj : Nat) : Int) tj) :: bsT q a t.ta tt kk tk kd la lh lg tl) → Q .next h') :
    Mine.D (model prog w) A c (exec st env) h Q E := by
  have e0 := lawStmt_of (P := w.params) (i := 11) (by k_is) rfl
  have e := Option.some.inj (hst.symm.trans (lawSub_of e0 rfl))
  have e2 := Option.some.inj (hS.symm.trans (lawScope_of (by k_is)))
  subst e
  subst e2
  clear e0
  dsimp only at hE
  rw [line_lineOf] at ns
  have F := ns.frl
  have Th : Top0 w.params pr loose mg mb h := T.keeps F.keep
  have FF : h.FunFrames (hideAll h [L]) [env] := by
    obtain ⟨m, ⟨o1, es1, ep1, q1, d1, _⟩, _⟩ := ns
    exact ⟨(by rw [hE.scope]; decide), ⟨L, o1, hfL, hideAll_none _ (by simp), q1, fun vs z => by rw [d1] at z; cases z⟩, trivial⟩
  repeat walk_at "d1"
  refine d_methStatic (K := hd.heap_39 w.params) Th.K (by k_is) (by k_is) (p0 := 126) (f := .ref 124) (rest := [.bool false]) (by k_is) (by k_is) rfl ?_
  dsimp only
  refine d_withK (K := hd.heap_39 w.params) (by k_is) ?_
  repeat walk_at "d1"
  refine ⟨Th.K, d_call (parse_spec Th (by omega) hA (dol := true) (cr := false) (check := true) (kvs := kvs) (.inl rfl) (hw.line t (by omega)) hks (hk.keep F.keep) hkv (outer := [env]) (as := [L]) hfr FF (fun hn => absurd rfl hn) (fun hn h₁ x dx l t1 t2 its k1 nx ndx nl nxd Sn hSs => ?_))⟩
  have L0 := F.at
  have F1 := F.back k1
  have xL := ne_of_new nx L0
  have dL := ne_of_new ndx L0
  have lL := ne_of_new nl L0
  rw [hw.spl hwn] at hSs
  have sn : SenK w.params (h₁.hide L) (x, dx, l) t ws := by
    obtain ⟨⟨ta, tb, tc, I⟩, o, e, r⟩ := Sn
    exact ⟨t1, t2, its, ⟨⟨ta, tb, tc, hide_of I.x xL, hide_of I.d dL⟩, o, hide_of e lL, r⟩, hSs⟩
  refine d_store hE F1.all (fun h₂ F2 => ?_)
  have kk2 : (h₁.hide L).StaysIn (h₂.hide L) := F2.into
  exact k h₂ (x, dx, l) (stays_trans F1.into F2.keep) (sn.keep kk2) ((show NsHas h₂ L _ from F2.ns).sub (sub_cons rfl (sub_cons rfl (sub_cons rfl (sub_cons rfl (sub_cons rfl (sub_cons rfl (sub_cons rfl (sub_cons rfl (sub_cons rfl (sub_cons rfl (sub_cons rfl sub_nil))))))))))))
theorem four_at {its : Array Value} {j : Nat} (hj : j < 4) {v1 v2 v3 v4 : Value} (g1 : its[4 * 0]? = some v1) (g2 : its[4 * 0 + 1]? = some v2) (g3 : its[4 * 0 + 2]? = some v3) (g4 : its[4 * 0 + 3]? = some v4) : (#[v1, v2, v3, v4] : Array Value)[j]? = its[j]? := by
  rcases j with _ | _ | _ | _ | j
  · exact g1.symm
  · exact g2.symm
  · exact g3.symm
  · exact g4.symm
  · omega
theorem seg13 (hst : lawSub w.params 11 13 = some st) (hS : lawScope w.params = some sc) (T : Top0 w.params pr loose mg mb (h.hide L)) (hroom : A.depth + 100 < recursionLimit) (hA : A.handled = none) (hu : A.units + 10 < cLine) (hE : EnvIs sc L env) (hwl : ws.length ≤ 20) (hw4 : 4 ≤ ws.length) (hj : jj < 4)
    {b : Trip} (ns : NsHas h L ((nAgain, .ref b.1) :: (nJ, .int ((jj : Nat) : Int) tj) :: bsT q a t.ta tt kk tk kd la lh lg tl)) (cx : CAt w.params (h.hide L) q a t ws) (sb : SenK w.params (h.hide L) b t ws) {Q : Flow → Heap → Prop}
    (k : ∀ h', h.StaysIn h' → Q .next h') :
    Mine.D (model prog w) A c (exec st env) h Q E := by
  have e0 := lawStmt_of (P := w.params) (i := 11) (by k_is) rfl
  have e := Option.some.inj (hst.symm.trans (lawSub_of e0 rfl))
  have e2 := Option.some.inj (hS.symm.trans (lawScope_of (by k_is)))
  subst e
  subst e2
  clear e0
  dsimp only at hE
  have F := ns.frl
  obtain ⟨t1, t2, items, Sn, hs⟩ := cx.sen
  obtain ⟨u1, u2, itb, Sb, hsb⟩ := sb
  obtain ⟨wi, hwi, hws⟩ := cx.ask.wds
  obtain ⟨⟨ta, tb, tc, I⟩, Il⟩ := Sn.keeps F.keep
  obtain ⟨⟨da, db, dc, Ib⟩, Ilb⟩ := Sb.keeps F.keep
  have hszb := strs_sz hsb
  repeat walk_at "d1"
  refine d_getOwn (K := hd.heap_39 w.params) (T.K.keeps F.keep) I (by k_is) (by k_is) (attr := none) (by k_is) rfl (v := .ref a.2.2) rfl rfl ?_
  repeat walk_at "d1"
  refine d_neStrs Il (isl_keeps hwi F.keep) hs hws (by omega) ?_
  repeat walk_at "d1"
  refine d_getOwn (K := hd.heap_39 w.params) (T.K.keeps F.keep) Ib (by k_is) (by k_is) (attr := none) (by k_is) rfl (v := .ref b.2.2) rfl rfl ?_
  repeat walk_at "d1"
  refine d_neStrs Ilb (isl_keeps hwi F.keep) hsb hws (by omega) ?_
  repeat walk_at "d1"
  refine d_meth (T.K.keeps F.keep) (Sb.keeps F.keep) (f := 391) (by k_is) (by k_is) (by k_is) (by k_is) (by decide +kernel) (fun _ _ _ => rfl) (fun h₁ qm k1 n1 hqm => ?_)
  have F1 := F.back k1
  clear F
  refine d_withM (K := hd.heap_39 w.params) (by k_is) (T.K.keeps F1.keep) hqm ?_
  repeat walk_at "d1"
  refine ⟨stays_refl _, gettr_spec (T.keeps F1.keep) (by omega) (Sb.keeps F1.keep) (by omega) (i := 0) (by omega) (fun h₂ tr v1 v2 v3 v4 k2 n2 g1 g2 g3 g4 It => ?_)⟩
  have F2 := F1.back k2
  clear F1
  obtain ⟨l, hl⟩ : ∃ l, ws[jj]? = some l := ⟨_, List.getElem?_eq_getElem (by omega)⟩
  obtain ⟨x1, hx1⟩ := hsb.2 _ _ hl
  obtain ⟨x2, hx2⟩ := hws.2 _ _ hl
  rw [Array.getElem?_toList] at hx1 hx2
  repeat walk_at "d1"
  refine d_trItem (T.K.keeps F2.keep) It (j := jj) rfl (v := .str (S l) x1) ((four_at hj g1 g2 g3 g4).trans hx1) (by omega) ?_
  repeat walk_at "d1"
  refine d_tailList (isl_keeps hwi F2.keep) (j := jj) rfl (by omega) hx2 ?_
  repeat walk_at "d1"
  rw [show (l != l) = false by simp]
  repeat walk_at "d1"
  exact k _ (stays_trans k1 k2)
end
end
section
abbrev Pr2 := Trip × Trip
abbrev Pr2.on (p : Pr2) : List Addr := p.1.on ++ p.2.on
/-- the words of a turn while the check loop stands at k -/
def wdsAt (N k i : Nat) (t : Tn) : List (List Nat) := if i < k then newW N i t else t.words
structure CInv (P : Params) (B : Heap) (L la lh kd : Addr) (ex : List Addr) (lg : List Nat) (ts : List Tn) (ps : List Pr2) (k : Nat) (h : Heap) : Prop where
  keep : B.StaysIn h
  ns : ∃ tl, NsHas h L [(nKinds, .ref kd), (nLog, .str (S lg) tl), (nAsked, .ref la), (nHeard, .ref lh)]
  lA : ∃ m, h.get? la = some (LObj (ps.map fun p => Value.ref p.1.1).toArray m)
  lH : ∃ m, h.get? lh = some (LObj (ps.map fun p => Value.ref p.2.1).toArray m)
  len : ps.length = ts.length
  each : ∀ (i : Nat) (p : Pr2) (t : Tn), ps[i]? = some p → ts[i]? = some t → CAt P (cut (L :: la :: lh :: ex) h) p.1 p.2 t (wdsAt lg.length k i t)
  sep : ps.Pairwise (fun a b => ∀ y ∈ a.on, y ∉ b.on)
  own : ∀ p ∈ ps, p.1.2.1 ≠ p.1.2.2 ∧ ∀ y ∈ p.1.on, y ∉ p.2.on
  new : ∀ p ∈ ps, ∀ y ∈ p.on, B.get? y = none
theorem CAt.live {P : Params} {h : Heap} {q a : Trip} {t : Tn} {ws : List (List Nat)} (x : CAt P h q a t ws) : ∀ b ∈ q.on ++ a.on, ∃ o, h.get? b = some o := fun b hb => by
  rcases List.mem_append.mp hb with z | z
  · exact x.ask.live b z
  · exact x.sen.live b z
theorem pair_sep {ps : List Pr2} (s : ps.Pairwise (fun a b => ∀ y ∈ a.on, y ∉ b.on)) {i j : Nat} {p r : Pr2} (hi : ps[i]? = some p) (hj : ps[j]? = some r) (n : i ≠ j) : ∀ y ∈ p.on, y ∉ r.on := fun y hy hz => by
  obtain ⟨a1, a2⟩ := List.getElem?_eq_some_iff.mp hi
  obtain ⟨b1, b2⟩ := List.getElem?_eq_some_iff.mp hj
  rcases Nat.lt_or_gt_of_ne n with l | l
  · have := List.pairwise_iff_getElem.mp s i j a1 b1 l
    rw [a2, b2] at this
    exact this y hy hz
  · have := List.pairwise_iff_getElem.mp s j i b1 a1 l
    rw [a2, b2] at this
    exact this y hz hy
/-- a turn's writings done -/
theorem CInv.turn {P : Params} {B : Heap} {L la lh kd : Addr} {ex : List Addr} {lg : List Nat} {ts : List Tn} {ps : List Pr2} {k : Nat} {h h' : Heap} (x : CInv P B L la lh kd ex lg ts ps k h) {q a : Trip} {t : Tn} (hp : ps[k]? = some (q, a)) (ht : ts[k]? = some t)
    (bL : B.get? L = none) (n1 : la ∉ [L, q.2.2, a.2.2]) (n2 : lh ∉ [L, q.2.2, a.2.2]) (kp : Keeps1 [L, q.2.2, a.2.2] h h') (ns : ∃ tl, NsHas h' L [(nKinds, .ref kd), (nLog, .str (S lg) tl), (nAsked, .ref la), (nHeard, .ref lh)])
    (cx : CAt P (h'.hide L) q a t (newW lg.length k t)) : CInv P B L la lh kd ex lg ts ps (k + 1) h' := by
  have cx0 := x.each k (q, a) t hp ht
  have hm := List.mem_of_getElem? hp
  have bX : ∀ b o, B.get? b = some o → b ∉ [L, q.2.2, a.2.2] := fun b o e z => by
    simp only [List.mem_cons, List.not_mem_nil, or_false] at z
    rcases z with z | z | z
    · rw [z, bL] at e; cases e
    · rw [x.new _ hm b (by simp [z])] at e; cases e
    · rw [x.new _ hm b (by simp [z])] at e; cases e
  have lists := cx0.lists
  refine ⟨fun b o e => kp _ _ (bX b o e) (x.keep _ _ e), ns, let ⟨m, e⟩ := x.lA; ⟨m, kp _ _ n1 e⟩, let ⟨m, e⟩ := x.lH; ⟨m, kp _ _ n2 e⟩, x.len, fun i p t' hi ht' => ?_, x.sep, x.own, x.new⟩
  by_cases hik : i = k
  · subst hik
    rw [hp] at hi; cases hi
    rw [ht] at ht'; cases ht'
    unfold wdsAt
    rw [if_pos (Nat.lt_succ_self _)]
    have notin : ∀ y, (∃ o, (cut (L :: la :: lh :: ex) h).get? y = some o) → y ∉ L :: la :: lh :: ex := fun y ⟨o, e⟩ z => by rw [cut_no z] at e; cases e
    have up : ∀ b o, (∃ o, (cut (L :: la :: lh :: ex) h).get? b = some o) → (h'.hide L).get? b = some o → (cut (L :: la :: lh :: ex) h').get? b = some o := fun b o z e => cut_of (Heap.of_hide e) (notin b z)
    have kc : Keeps1 [q.2.2, a.2.2] (cut (L :: la :: lh :: ex) h) (cut (L :: la :: lh :: ex) h') := fun b o hb e => by
      have z := notin b ⟨o, e⟩
      refine cut_of (kp _ _ (fun z2 => ?_) (of_cut e)) z
      simp only [List.mem_cons, List.not_mem_nil, or_false] at z2 hb z
      rcases z2 with z2 | z2
      · exact z (.inl z2)
      · exact hb z2
    have ow := x.own _ hm
    refine ⟨cx0.ask.but kc lists ?_ ?_, cx0.sen.but kc lists ?_⟩
    · simp only [List.mem_cons, List.not_mem_nil, or_false, not_or]
      exact ⟨ow.1, fun z => ow.2 q.2.1 (by simp) (by simp [z])⟩
    · obtain ⟨wi, ⟨o, e, r⟩, s⟩ := cx.ask.wds
      exact ⟨wi, ⟨o, up _ _ (cx0.live _ (by simp)) e, r⟩, s⟩
    · obtain ⟨t1, t2, items, ⟨_, ⟨o, e, r⟩⟩, s⟩ := cx.sen
      exact ⟨items, ⟨o, up _ _ (cx0.live _ (by simp)) e, r⟩, s⟩
  · have e : wdsAt lg.length (k + 1) i t' = wdsAt lg.length k i t' := by
      unfold wdsAt
      by_cases h1 : i < k
      · rw [if_pos h1, if_pos (by omega)]
      · rw [if_neg h1, if_neg (by omega)]
    rw [e]
    have c := x.each i p t' hi ht'
    have sp := pair_sep x.sep hi hp hik
    have kc : Keeps1 [q.2.2, a.2.2] (cut (L :: la :: lh :: ex) h) (cut (L :: la :: lh :: ex) h') := fun b o hb e => by
      have z : b ∉ L :: la :: lh :: ex := fun z => by rw [cut_no z] at e; cases e
      refine cut_of (kp _ _ (fun z2 => ?_) (of_cut e)) z
      simp only [List.mem_cons, List.not_mem_nil, or_false] at z2 hb z
      rcases z2 with z2 | z2
      · exact z (.inl z2)
      · exact hb z2
    have no : ∀ y ∈ p.on, y ∉ [q.2.2, a.2.2] := fun y hy z => sp y hy (by
      simp only [List.mem_cons, List.not_mem_nil, or_false] at z
      rcases z with z | z <;> simp [z])
    refine ⟨c.ask.but kc lists (no _ (by simp)) ?_, c.sen.but kc lists ?_⟩
    · obtain ⟨wi, ⟨o, e, r⟩, s⟩ := c.ask.wds
      exact ⟨wi, ⟨o, kc _ _ (no _ (by simp)) e, r⟩, s⟩
    · obtain ⟨t1, t2, items, ⟨_, ⟨o, e, r⟩⟩, s⟩ := c.sen
      exact ⟨items, ⟨o, kc _ _ (no _ (by simp)) e, r⟩, s⟩
end
section
theorem map_fst_at {ps : List Pr2} {k : Nat} {p : Pr2} (h : ps[k]? = some p) : (ps.map fun p => Value.ref p.1.1).toArray[k]? = some (.ref p.1.1) := by simp [h]
theorem map_snd_at {ps : List Pr2} {k : Nat} {p : Pr2} (h : ps[k]? = some p) : (ps.map fun p => Value.ref p.2.1).toArray[k]? = some (.ref p.2.1) := by simp [h]
section
variable {prog : Program} {w : World} {A : Around} {c : Cfg} {h : Heap} {E : Value → Heap → Prop} {env : Env} {L la kd lh : Addr} {B : Heap} {pr : Program} {loose : List Str} {mg mb : Str → Option Value} {st : Stmt} {sc : Scope} {lg : List Nat} {ts : List Tn} {ps : List Pr2} {kvs : List (Str × Value)}
theorem check_spec (hst : lawStmt w.params 11 = some st) (hS : lawScope w.params = some sc) (T : Top0 w.params pr loose mg mb B) (hroom : A.depth + 100 < recursionLimit) (hA : A.handled = none) (hu : A.units + 10 < cLine) (hE : EnvIs sc L env) (hfr : A.frames = some [env]) (hfL : env.frame = some L)
    (bL : B.get? L = none) (hla : la ≠ L) (hlh : lh ≠ L) (hks : (kd == sysModules) = false) (hk : B.DictOf (strKind prog w) kd kvs) (hkv : valueAt kvs (Str.ofString "XDR") = some (.ref 394)) (hlg : lg.length ≤ 777) (htl : ts.length ≤ 7)
    (hts : ∀ t ∈ ts, t.2 ≠ [] ∧ t.2.length ≤ 3) (iv : CInv w.params B L la lh kd [] lg ts ps 0 h) {Q : Flow → Heap → Prop}
    (k : ∀ h', CInv w.params B L la lh kd [] lg ts ps ts.length h' → Q .next h') : Mine.D (model prog w) A c (exec st env) h Q E := by
  have hS' := hS
  have e0 := lawStmt_of (P := w.params) (i := 11) (by k_is) rfl
  have e := Option.some.inj (hst.symm.trans e0)
  have e2 := Option.some.inj (hS.symm.trans (lawScope_of (by k_is)))
  subst e
  subst e2
  clear hst hS
  dsimp only at hE
  obtain ⟨tl, ns⟩ := iv.ns
  have F := ns.frl
  have Th : Top0 w.params pr loose mg mb (h.hide L) := T.keeps fun b o e => hide_of (iv.keep b o e) fun z => by rw [z, bL] at e; cases e
  obtain ⟨m1, hla0⟩ := iv.lA
  have hpl := iv.len
  refine d_for ?_
  repeat walk_at "d1"
  refine d_lenList (LObj.isList hla0) (by rw [List.size_toArray, List.length_map]; omega) (fun t3 => ?_)
  rw [show ((ps.map fun p => Value.ref p.1.1).toArray.size) = ts.length by rw [List.size_toArray, List.length_map, hpl]]
  repeat walk_at "d1"
  refine d_range1 (fun h₂ r t4 t5 k2 n2 hr => ?_)
  refine d_iterRange hr (by omega) (fun h₃ I k3 nI W st0 => ?_)
  have k03 := stays_trans k2 k3
  have nI0 : h.get? I = none := none_of_stays k2 nI
  have bI : B.get? I = none := none_of_stays iv.keep nI0
  have LI : L ≠ I := Ne.symm (ne_of_new nI0 F.at)
  have laI : la ≠ I := fun z => by rw [z, nI0] at hla0; cases hla0
  have lhI : lh ≠ I := fun z => by obtain ⟨m, e⟩ := iv.lH; rw [z, nI0] at e; cases e
  have iv3 : CInv w.params B L la lh kd [I] lg ts ps 0 h₃ := ⟨stays_trans iv.keep k03, ⟨tl, ns.keep fun o e => k03 _ _ e⟩, ⟨m1, k03 _ _ hla0⟩, let ⟨m, e⟩ := iv.lH; ⟨m, k03 _ _ e⟩, hpl, fun i p t e1 e2 => (iv.each i p t e1 e2).keep fun b o e => cut_of (k03 _ _ (of_cut e)) (fun z => by
    simp only [List.mem_cons, List.not_mem_nil, or_false] at z
    rcases z with z | z | z | z
    · rw [cut_no (by simp [z])] at e; cases e
    · rw [cut_no (by simp [z])] at e; cases e
    · rw [cut_no (by simp [z])] at e; cases e
    · rw [z] at e; rw [of_cut e] at nI0; cases nI0), iv.sep, iv.own, iv.new⟩
  refine dc_for W hA (fun k h' => CInv w.params B L la lh kd [I] lg ts ps k h') st0 iv3 (fun kk v h₄ h₅ hi hP iv4 k5 st5 => ?_) (fun h₄ h₅ iv4 k5 => ?_)
  · obtain ⟨tk, rfl⟩ := hP
    have k5 : Keeps1 [I] h₄ h₅ := k5
    have c45 : (cut [L, la, lh, I] h₄).StaysIn (cut [L, la, lh, I] h₅) := cut_mono (keeps1_more k5 (by simp))
    have iv5 : CInv w.params B L la lh kd [I] lg ts ps kk h₅ := ⟨fun b o e => k5 _ _ (fun z => by simp at z; rw [z, bI] at e; cases e) (iv4.keep _ _ e), let ⟨tl, n⟩ := iv4.ns; ⟨tl, n.keep fun o e => k5 _ _ (by simpa using LI) e⟩, let ⟨m, e⟩ := iv4.lA; ⟨m, k5 _ _ (by simpa using laI) e⟩, let ⟨m, e⟩ := iv4.lH; ⟨m, k5 _ _ (by simpa using lhI) e⟩, hpl, fun i p t e1 e2 => (iv4.each i p t e1 e2).keep c45, iv.sep, iv.own, iv.new⟩
    clear iv3 iv4
    obtain ⟨t, ht⟩ : ∃ t, ts[kk]? = some t := ⟨_, List.getElem?_eq_getElem hi⟩
    obtain ⟨⟨q, a⟩, hp⟩ : ∃ p, ps[kk]? = some p := ⟨_, List.getElem?_eq_getElem (by omega)⟩
    have ht2 := hts t (List.mem_of_getElem? ht)
    have hm := List.mem_of_getElem? hp
    have cx5 := iv5.each kk (q, a) t hp ht
    have ew : wdsAt lg.length kk kk t = t.words := by unfold wdsAt; rw [if_neg (Nat.lt_irrefl _)]
    rw [ew] at cx5
    obtain ⟨tl, ns5⟩ := iv5.ns
    obtain ⟨ma, hla5⟩ := iv5.lA
    obtain ⟨mh, hlh5⟩ := iv5.lH
    have kB5 := iv5.keep
    have F5 := ns5.frl
    have T5 : Top0 w.params pr loose mg mb (h₅.hide L) := T.keeps fun b o e => hide_of (kB5 b o e) fun z => by rw [z, bL] at e; cases e
    have hk5 : (h₅.hide L).DictOf (strKind prog w) kd kvs := hk.keep fun b o e => hide_of (kB5 b o e) fun z => by rw [z, bL] at e; cases e
    have c5h : (cut [L, la, lh, I] h₅).StaysIn (h₅.hide L) := fun b o e => hide_of (of_cut e) fun z => by rw [cut_no (by simp [z])] at e; cases e
    have lv5 : ∀ b ∈ q.on ++ a.on, ∃ o, (h₅.hide L).get? b = some o := fun b hb => let ⟨o, e⟩ := cx5.live b hb; ⟨o, c5h _ _ e⟩
    refine d_store hE F5 (fun h₆ F6 => ?_)
    refine d_cons ?_
    refine d_asgTup ?_
    repeat walk_at "d1"
    refine d_tailList (LObj.isList (F6.keep _ _ (hide_of hla5 hla))) (j := kk) rfl (by omega) (map_fst_at hp) ?_
    obtain ⟨tt, htup⟩ := (cx5.keep c5h).ask.tup
    refine d_asgTupN hA (htup.keeps F6.keep) rfl rfl (fun h₇ k7 => ?_)
    have F7 := F6.back k7
    clear F6
    refine d_ino (d_asgName (d_store hE F7 (fun h₈ F8 => ?_)))
    refine d_ino (d_asgName (d_store hE F8 (fun h₉ F9 => ?_)))
    refine d_ino (d_asgName (d_store hE F9 (fun h₁₀ F10 => ?_)))
    clear F7 F8 F9
    refine d_ino0 ?_
    refine d_cons ?_
    repeat walk_at "d1"
    refine d_tailList (LObj.isList (F10.keep _ _ (hide_of hlh5 hlh))) (j := kk) rfl (by omega) (map_snd_at hp) ?_
    refine d_store hE F10 (fun h₁₁ F11 => ?_)
    clear F10
    refine d_cons ?_
    repeat walk_at "d1"
    refine d_newListL (by simp) (fun h₁₂ D k12 nD hD => ?_)
    have DL : D ≠ L := ne_of_new nD F11.at
    have lD : ∀ b o, (h₅.hide L).get? b = some o → b ≠ D := fun b o e z => by have := F11.keep _ _ e; rw [z, nD] at this; cases this
    have F12 := F11.back k12
    clear F11
    have i12 := F12.into
    refine d_store hE F12.all (fun h₁₃ F13 => ?_)
    have k13 := stays_trans i12 F13.keep
    have ns13 : NsHas h₁₃ L ((nGot, .ref D) :: bsT q a t.ta tt kk tk kd la lh lg tl) := F13.ns
    have hD13 := F13.keep _ _ (hide_of hD DL)
    have kB13 : B.StaysIn h₁₃ := fun b o e => k13 _ _ (hide_of (kB5 b o e) fun z => by rw [z, bL] at e; cases e)
    have bD : B.get? D = none := by
      cases e : B.get? D with
      | none => rfl
      | some o => exact absurd rfl (lD _ _ (hide_of (kB5 _ _ e) DL))
    have cx13 : CAt w.params (cut [L, D] h₁₃) q a t t.words := cx5.keep fun b o e => by
      have e1 := c5h _ _ e
      exact cut_of (k13 _ _ e1) (by simp only [List.mem_cons, List.not_mem_nil, or_false, not_or]; exact ⟨fun z => (by rw [z, Heap.hide_self] at e1; cases e1), lD _ _ e1⟩)
    clear F12 F13
    refine d_cons (seg3 (lawSub_of e0 rfl) hS' T hroom hA hE bL bD DL kB13 hD13 ns13 cx13 ht2 (fun h₁₄ rows m14 k14 hD14 hrl hrows ns14 => ?_))
    have lDL : ∀ b, (∃ o, (h₅.hide L).get? b = some o) → b ≠ L ∧ b ≠ D := fun b ⟨o, e⟩ => ⟨fun z => (by rw [z, Heap.hide_self] at e; cases e), lD _ _ e⟩
    have k5_14 : (h₅.hide L).StaysIn h₁₄ := fun b o e => k14 _ _ (by simpa using lDL b ⟨o, e⟩) (k13 _ _ e)
    have k5_14h : (h₅.hide L).StaysIn (h₁₄.hide L) := fun b o e => hide_of (k5_14 _ _ e) (lDL b ⟨o, e⟩).1
    have T14 := T5.keeps k5_14h
    have cx14 := (cx5.keep c5h).keep k5_14h
    dsimp only
    refine d_cons (seg4 (lawSub_of e0 rfl) hS' T14 hu hE hD14 hrl (hrows.keep cut_in) ns14 (cx14.keep fun b o e => Heap.of_hide e) ?_)
    dsimp only
    refine d_cons (seg5 (lawSub_of e0 rfl) hS' T14 hroom hA hu hE ns14 cx14 ht2 (fun h₁₅ k15 => ?_))
    dsimp only
    have k15h : (h₁₄.hide L).StaysIn (h₁₅.hide L) := fun b o e => hide_of (k15 _ _ (Heap.of_hide e)) fun z => by rw [z, Heap.hide_self] at e; cases e
    have ns15 : NsHas h₁₅ L (bsT q a t.ta tt kk tk kd la lh lg tl) := (ns14.keep fun o e => k15 _ _ e).sub fun x v e => by
      have : x ≠ nGot := fun z => by subst z; cases e
      rw [List.lookup_cons, beq_false_of_ne this]; exact e
    refine d_cons (seg6 (lawSub_of e0 rfl) hS' (T14.keeps k15h) hE hlg ns15 (fun h₁₆ tj k16 ns16 => ?_))
    dsimp only
    have k16h : (h₁₅.hide L).StaysIn (h₁₆.hide L) := fun b o e => hide_of (k16 _ _ e) fun z => by rw [z, Heap.hide_self] at e; cases e
    have k5_16 := stays_trans k5_14h (stays_trans k15h k16h)
    have cx16 := (cx5.keep c5h).keep k5_16
    have kB16 : B.StaysIn h₁₆ := fun b o e => Heap.of_hide (k5_16 _ _ (hide_of (kB5 b o e) fun z => by rw [z, bL] at e; cases e))
    have bW : B.get? q.2.2 = none := iv5.new _ hm _ (by simp)
    have bl : B.get? a.2.2 = none := iv5.new _ hm _ (by simp)
    have ow := iv5.own _ hm
    have Wl : q.2.2 ≠ a.2.2 := fun z => ow.2 q.2.2 (by simp) (by simp [z])
    have WL := (lDL _ (lv5 q.2.2 (by simp))).1
    have lL := (lDL _ (lv5 a.2.2 (by simp))).1
    refine d_cons (seg7 (lawSub_of e0 rfl) hS' T hroom hA hE bL bl kB16 hlg (by omega) ns16 cx16.sen ht2 (fun h₁₇ k17 l17 => ?_))
    dsimp only
    have ns17 := ns16.keep fun o e => k17 _ _ (Ne.symm lL) e
    have kB17 : B.StaysIn h₁₇ := fun b o e => k17 _ _ (fun z => by rw [z, bl] at e; cases e) (kB16 _ _ e)
    have T17 : Top0 w.params pr loose mg mb (h₁₇.hide L) := T.keeps fun b o e => hide_of (kB17 b o e) fun z => by rw [z, bL] at e; cases e
    refine d_cons (seg8 (lawSub_of e0 rfl) hS' T17 hE hlg (by omega) ns17 (let ⟨wi, ⟨o, e, r⟩, s⟩ := cx16.ask.wds; ⟨wi, ⟨o, k17 _ _ Wl (Heap.of_hide e), r⟩, s⟩) ht2 (fun h₁₈ k18 l18 => ?_))
    dsimp only
    have ns18 := ns17.keep fun o e => k18 _ _ (Ne.symm WL) e
    have kB18 : B.StaysIn h₁₈ := fun b o e => k18 _ _ (fun z => by rw [z, bW] at e; cases e) (kB17 _ _ e)
    have T18 : Top0 w.params pr loose mg mb (h₁₈.hide L) := T.keeps fun b o e => hide_of (kB18 b o e) fun z => by rw [z, bL] at e; cases e
    have hk18 : (h₁₈.hide L).DictOf (strKind prog w) kd kvs := hk.keep fun b o e => hide_of (kB18 b o e) fun z => by rw [z, bL] at e; cases e
    have kx : Keeps1 [q.2.2, a.2.2] (h₁₆.hide L) (h₁₈.hide L) := fun b o hb e => by
      simp only [List.mem_cons, List.not_mem_nil, or_false, not_or] at hb
      exact hide_of (k18 _ _ hb.1 (k17 _ _ hb.2 (Heap.of_hide e))) fun z => by rw [z, Heap.hide_self] at e; cases e
    have lists := cx16.lists
    have cx18 : CAt w.params (h₁₈.hide L) q a t (newW lg.length kk t) := ⟨cx16.ask.but kx lists (by
      simp only [List.mem_cons, List.not_mem_nil, or_false, not_or]
      exact ⟨ow.1, fun z => ow.2 q.2.1 (by simp) (by simp [z])⟩) (let ⟨its, ⟨o, e, r⟩, s⟩ := l18; ⟨its, ⟨o, hide_of e WL, r⟩, s⟩), cx16.sen.but kx lists (let ⟨its, ⟨o, e, r⟩, s⟩ := l17; ⟨its, ⟨o, hide_of (k18 _ _ (Ne.symm Wl) e) lL, r⟩, s⟩)⟩
    have hw := newW_ok (t := t) hlg (show kk ≤ 7 by omega)
    have hwl := words_len t
    have hnl := newW_len (N := lg.length) (k := kk) (t := t)
    have h0 : 0 < t.2.length := List.length_pos_iff.mpr ht2.1
    refine d_cons (seg9 (lawSub_of e0 rfl) hS' T18 hE hw (by omega) ns18 cx18.ask.wds (fun h₁₉ tsd k19 ns19 => ?_))
    dsimp only
    have k19h : (h₁₈.hide L).StaysIn (h₁₉.hide L) := fun b o e => hide_of (k19 _ _ e) fun z => by rw [z, Heap.hide_self] at e; cases e
    refine d_cons (seg10 (lawSub_of e0 rfl) hS' (T18.keeps k19h) hroom hA hE hw (by omega) ns19 (cx18.sen.keep k19h) (fun h₂₀ tln k20 ns20 => ?_))
    dsimp only
    have k20h : (h₁₈.hide L).StaysIn (h₂₀.hide L) := stays_trans k19h fun b o e => hide_of (k20 _ _ e) fun z => by rw [z, Heap.hide_self] at e; cases e
    refine d_cons (seg11 (lawSub_of e0 rfl) hS' (T18.keeps k20h) hroom hA hE hw (by omega) ns20 (fun h₂₁ k21 => ?_))
    dsimp only
    have k21h : (h₁₈.hide L).StaysIn (h₂₁.hide L) := stays_trans k20h fun b o e => hide_of (k21 _ _ (Heap.of_hide e)) fun z => by rw [z, Heap.hide_self] at e; cases e
    have ns21 := ns20.keep fun o e => k21 _ _ e
    refine d_cons (seg12 (lawSub_of e0 rfl) hS' (T18.keeps k21h) hroom hA hE hfr hfL hw (by omega) (fun z => by rw [z] at hnl; simp at hnl; omega) hks (hk18.keep k21h) hkv ns21 (fun h₂₂ b k22 sb ns22 => ?_))
    dsimp only
    have k22h : (h₁₈.hide L).StaysIn (h₂₂.hide L) := stays_trans k21h fun b o e => hide_of (k22 _ _ e) fun z => by rw [z, Heap.hide_self] at e; cases e
    refine d_cons (seg13 (lawSub_of e0 rfl) hS' (T18.keeps k22h) hroom hA hu hE (by omega) (by omega) (Nat.mod_lt _ (by decide)) ns22 (cx18.keep k22h) sb (fun h₂₃ k23 => ?_))
    dsimp only
    have k23h : (h₁₈.hide L).StaysIn (h₂₃.hide L) := stays_trans k22h fun b o e => hide_of (k23 _ _ (Heap.of_hide e)) fun z => by rw [z, Heap.hide_self] at e; cases e
    refine d_nil ?_
    dsimp only
    have kall : Keeps1 [L, q.2.2, a.2.2] h₅ h₂₃ := fun b o hb e => by
      simp only [List.mem_cons, List.not_mem_nil, or_false, not_or] at hb
      exact Heap.of_hide (k23h _ _ (kx _ _ (by simp [hb.2.1, hb.2.2]) (k5_16 _ _ (hide_of e hb.1))))
    have lneq : ∀ {z m its} (y : Addr), h₅.get? z = some (LObj its m) → y ∉ (L :: la :: lh :: [I]) → z ∈ (L :: la :: lh :: [I]) → z ≠ y := fun y _ hy hz z => hy (z ▸ hz)
    have cin : ∀ y ∈ q.on ++ a.on, y ∉ (L :: la :: lh :: [I]) := fun y hy z => by obtain ⟨o, e⟩ := cx5.live y hy; rw [cut_no z] at e; cases e
    have WI : q.2.2 ∉ (L :: la :: lh :: [I]) := cin _ (by simp)
    have lI : a.2.2 ∉ (L :: la :: lh :: [I]) := cin _ (by simp)
    simp only [List.mem_cons, List.not_mem_nil, or_false, not_or] at WI lI
    refine ⟨kall _ _ ?_ st5, iv5.turn hp ht bL ?_ ?_ kall ⟨tl, (ns22.keep fun o e => k23 _ _ e).sub ?_⟩ (cx18.keep k23h)⟩
    · simp only [List.mem_cons, List.not_mem_nil, or_false, not_or]
      exact ⟨Ne.symm LI, fun z => WI.2.2.2 z.symm, fun z => lI.2.2.2 z.symm⟩
    · simp only [List.mem_cons, List.not_mem_nil, or_false, not_or]
      exact ⟨hla, fun z => WI.2.1 z.symm, fun z => lI.2.1 z.symm⟩
    · simp only [List.mem_cons, List.not_mem_nil, or_false, not_or]
      exact ⟨hlh, fun z => WI.2.2.1 z.symm, fun z => lI.2.2.1 z.symm⟩
    · exact sub_cons rfl (sub_cons rfl (sub_cons rfl (sub_cons rfl sub_nil)))
  · have k5 : Keeps1 [I] h₄ h₅ := k5
    refine k h₅ ⟨fun b o e => k5 _ _ (fun z => by simp at z; rw [z, bI] at e; cases e) (iv4.keep _ _ e), let ⟨tl, n⟩ := iv4.ns; ⟨tl, n.keep fun o e => k5 _ _ (by simpa using LI) e⟩, let ⟨m, e⟩ := iv4.lA; ⟨m, k5 _ _ (by simpa using laI) e⟩, let ⟨m, e⟩ := iv4.lH; ⟨m, k5 _ _ (by simpa using lhI) e⟩, hpl, fun i p t e1 e2 => (iv4.each i p t e1 e2).keep fun b o e => ?_, iv.sep, iv.own, iv.new⟩
    have z : b ∉ [L, la, lh, I] := fun z => by rw [cut_no z] at e; cases e
    simp only [List.mem_cons, List.not_mem_nil, or_false, not_or] at z
    exact cut_of (k5 _ _ (by simp [z.2.2.2]) (of_cut e)) (by simp [z.1, z.2.1, z.2.2.1])
end
end
section
/-! dicts of tuples: filled, compared -/
def fold (es : List (Str × Value)) : List (Str × Value) := es.foldl (fun a e => PySem.stored a e.1 e.2) []
theorem fold_more (es : List (Str × Value)) (k : Str) (v : Value) : fold (es ++ [(k, v)]) = PySem.stored (fold es) k v := by unfold fold; rw [List.foldl_append]; rfl
theorem fold_len (es : List (Str × Value)) : (fold es).length ≤ es.length := by
  suffices h : ∀ (l : List (Str × Value)) (a : List (Str × Value)), (l.foldl (fun a e => PySem.stored a e.1 e.2) a).length ≤ a.length + l.length by
    have := h es []
    simpa [fold] using this
  intro l
  induction l with
  | nil => intro a; simp
  | cons e r ih =>
    intro a
    rw [List.foldl_cons]
    have h1 := ih (PySem.stored a e.1 e.2)
    have h2 := PySem.stored_length_le a e.1 e.2
    rw [List.length_cons]
    omega
inductive All2 {α β : Type} (R : α → β → Prop) : List α → List β → Prop
  | nil : All2 R [] []
  | cons {a : α} {b : β} {l : List α} {m : List β} : R a b → All2 R l m → All2 R (a :: l) (b :: m)
theorem All2.len {α β : Type} {R : α → β → Prop} {l : List α} {m : List β} (x : All2 R l m) : l.length = m.length := by
  induction x with
  | nil => rfl
  | cons _ _ ih => simp [ih]
theorem All2.mono {α β : Type} {R S : α → β → Prop} {l : List α} {m : List β} (x : All2 R l m) (k : ∀ a b, R a b → S a b) : All2 S l m := by
  induction x with
  | nil => exact .nil
  | cons r _ ih => exact .cons (k _ _ r) ih
theorem All2.app {α β : Type} {R : α → β → Prop} {l l' : List α} {m m' : List β} (x : All2 R l m) (y : All2 R l' m') : All2 R (l ++ l') (m ++ m') := by
  induction x with
  | nil => exact y
  | cons r _ ih => exact .cons r ih
theorem All2.join {α β γ : Type} {R : α → γ → Prop} {S : β → γ → Prop} {l : List α} {m : List β} {n : List γ} (x : All2 R l n) : All2 S m n → All2 (fun a b => ∃ c, R a c ∧ S b c) l m := by
  induction x generalizing m with
  | nil => intro y; cases y; exact .nil
  | cons r _ ih => intro y; cases y with | cons s y => exact .cons ⟨_, r, s⟩ (ih y)
theorem All2.at {α β : Type} {R : α → β → Prop} {l : List α} {m : List β} (x : All2 R l m) : ∀ (i : Nat) (a : α), l[i]? = some a → ∃ b, m[i]? = some b ∧ R a b := by
  induction x with
  | nil => intro i a e; simp at e
  | cons r _ ih =>
    intro i a e
    cases i with
    | zero => simp at e; subst e; exact ⟨_, rfl, r⟩
    | succ i => exact ih i a (by simpa using e)
/-- pairs of one key -/
def SameK (R : Value → Value → Prop) (a b : Str × Value) : Prop := a.1 = b.1 ∧ R a.2 b.2
theorem stored_same {R : Value → Value → Prop} {a b : List (Str × Value)} (x : All2 (SameK R) a b) {k : Str} {v u : Value} (r : R v u) : All2 (SameK R) (PySem.stored a k v) (PySem.stored b k u) := by
  have e : a.any (fun kv => kv.1 = k) = b.any (fun kv => kv.1 = k) := by
    induction x with
    | nil => rfl
    | cons s _ ih => simp only [List.any_cons, s.1, ih]
  unfold PySem.stored
  rw [e]
  split
  · rename_i hx
    clear e hx
    induction x with
    | nil => exact .nil
    | @cons p q l m s _ ih =>
      simp only [List.map_cons]
      refine .cons ?_ ih
      by_cases hk : p.1 = k
      · rw [if_pos hk, if_pos (s.1 ▸ hk)]
        exact ⟨s.1, r⟩
      · rw [if_neg hk, if_neg (s.1 ▸ hk)]
        exact s
  · exact x.app (.cons ⟨rfl, r⟩ .nil)
theorem fold_same {R : Value → Value → Prop} {a b : List (Str × Value)} (x : All2 (SameK R) a b) : All2 (SameK R) (fold a) (fold b) := by
  suffices h : ∀ (l m : List (Str × Value)), All2 (SameK R) l m → ∀ p q, All2 (SameK R) p q → All2 (SameK R) (l.foldl (fun a e => PySem.stored a e.1 e.2) p) (m.foldl (fun a e => PySem.stored a e.1 e.2) q) from h a b x [] [] .nil
  intro l m y
  induction y with
  | nil => intro p q z; exact z
  | @cons e f l m s _ ih =>
    intro p q z
    rw [List.foldl_cons, List.foldl_cons]
    have := stored_same z (k := e.1) s.2
    rw [← s.1]
    exact ih _ _ this
theorem nodup_at {kb : List (Str × Value)} (hn : (kb.map (·.1)).Nodup) : ∀ {i : Nat} {p : Str × Value}, kb[i]? = some p → PySem.valueAt kb p.1 = some p.2 := by
  induction kb with
  | nil => intro i p e; simp at e
  | cons q r ih =>
    intro i p e
    rw [List.map_cons, List.nodup_cons] at hn
    unfold PySem.valueAt
    cases i with
    | zero =>
      simp at e
      subst e
      rw [List.find?_cons_of_pos (by simp)]; rfl
    | succ i =>
      have e : r[i]? = some p := by simpa using e
      have : q.1 ≠ p.1 := fun z => hn.1 (List.mem_map.mpr ⟨p, List.mem_of_getElem? e, z.symm⟩)
      rw [List.find?_cons_of_neg (by simpa using this)]
      exact ih hn.2 e
theorem hits_of {A : Around} {s : Shared} {ka kb : List (Str × Value)} (hn : (kb.map (·.1)).Nodup) (x : All2 (SameK fun v u => SeqAt.EqAt A s v u true) ka kb) : PySem.W.KeqHits A s kb ka true := by
  have key : ∀ (n i : Nat), i + n = ka.length → PySem.W.KeqHits A s kb (ka.drop i) true := by
    intro n
    induction n with
    | zero => intro i hi; rw [List.drop_of_length_le (by omega)]; exact .nil
    | succ n ih =>
      intro i hi
      rw [List.drop_eq_getElem_cons (by omega)]
      obtain ⟨b, hb, hr⟩ := x.at i _ (List.getElem?_eq_getElem (by omega))
      have hv := nodup_at hn hb
      rw [← hr.1] at hv
      have := PySem.W.KeqHits.hit (r := ka.drop (i + 1)) hv hr.2 (ih (i + 1) (by omega))
      exact this
  have := key ka.length 0 (by omega)
  simpa using this
section
variable {prog : Program} {w : World} {A : Around} {c : Cfg} {h : Heap} {E : Value → Heap → Prop} {env : Env} {pos : Pos}
theorem d_setDict {d : Addr} {kvs : List (Str × Value)} {x : List Nat} {t : Tok} {v : Value} {Q : Unit → Heap → Prop} (hd : h.DictOf (strKind prog w) d kvs) (hz : kvs.length ≤ 1000000)
    (q : ∀ h', h'.DictOf (strKind prog w) d (PySem.stored kvs (S x) v) → Heap.SameBut d h h' → Q () h') : D (model prog w) A c (setItem (.ref d) (.str (S x) t) v) h Q E := ⟨fun tk p =>
  PySem.wpAny_setItem_pairs (s := c.st h tk) (knd := strKind prog w) (k := S x) (strKind_is prog w (S x) t) hd (fun h' a b => .mk (h := h') (Nat.succ_pos _) (q h' a b)) (by rw [sizeLine_eq]; omega)⟩
theorem d_dict0 {Q : Value → Heap → Prop} (q : ∀ h' D, h.StaysIn h' → h.get? D = none → h'.DictOf (strKind prog w) D [] → Q (.ref D) h') : D (model prog w) A c (eval (.Dict [] [] pos) env) h Q E := d_of_eq (PySem.eval_Dict_empty pos) (d_bind (d_standAt (d_newDict q)))
theorem d_eqDict {a b : Addr} {ka kb : List (Str × Value)} {Q : Value → Heap → Prop} (ha : (a == sysModules) = false) (hb : (b == sysModules) = false) (da : h.DictOf (strKind prog w) a ka) (db : h.DictOf (strKind prog w) b kb) (hu : A.units < cLine)
    (x : All2 (SameK fun v u => EqT A.in1 h v u) ka kb) (q : Q (.bool true) h) : D (model prog w) A c (compareOp .Eq (.ref a) (.ref b)) h Q E := ⟨fun tk p => by
  have hn : (kb.map (·.1)).Nodup := let ⟨_, _, _, _, _, _, _, _, n⟩ := db; n
  refine PySem.W.keq_eq (s := c.st h tk) (r := true) ha hb da db hu (fun _ => hits_of hn (x.mono fun v u z => ⟨z.1, z.2 _ rfl⟩)) (.mk p ?_)
  rw [x.len]
  simpa using q⟩
end
end
section
abbrev nLatest : Str := Str.ofString "latest"
abbrev nDue : Str := Str.ofString "due"
def rowEv (ws : List (List Nat)) (i : Nat) : List Nat × List (List Nat) := (ws.getD (4 * i + 3) [], [ws.getD (4 * i) [], ws.getD (4 * i + 1) [], ws.getD (4 * i + 2) []])
def turnEv (ws : List (List Nat)) (n : Nat) : List (List Nat × List (List Nat)) := (List.range n).map (rowEv ws)
theorem turnEv_succ (ws : List (List Nat)) (n : Nat) : turnEv ws (n + 1) = turnEv ws n ++ [rowEv ws n] := by unfold turnEv; rw [List.range_succ, List.map_append]; rfl
def EvR (h : Heap) (e : Str × Value) (r : List Nat × List (List Nat)) : Prop := e.1 = S r.1 ∧ ∃ p its, e.2 = .ref p ∧ IsTup h p its ∧ Strs its.toList r.2
theorem EvR.keep {h h' : Heap} (k : h.StaysIn h') (e : Str × Value) (r : List Nat × List (List Nat)) (x : EvR h e r) : EvR h' e r := let ⟨a, p, its, b, ⟨o, d, f⟩, g⟩ := x; ⟨a, p, its, b, ⟨o, k _ _ d, f⟩, g⟩
abbrev bs14 (k : Nat) (tk : Tok) (la lh dl du : Addr) : List (Str × Value) := [(nK, .int ((k : Nat) : Int) tk), (nAsked, .ref la), (nHeard, .ref lh), (nLatest, .ref dl), (nDue, .ref du)]
theorem getD_at {ws : List (List Nat)} {i : Nat} {l : List Nat} (e : ws[i]? = some l) : ws.getD i [] = l := by rw [List.getD_eq_getElem?_getD, e]; rfl
theorem dict_ne_range {prog : Program} {w : World} {h : Heap} {d I : Addr} {kvs : List (Str × Value)} {x y : Int} (hd : h.DictOf (strKind prog w) d kvs) (hi : IsRangeIter h I x y 1) : d ≠ I := fun z => by
  obtain ⟨o, es, ep, e, _, d', _⟩ := hd
  rw [z, hi] at e; cases e
  cases d'
section
variable {prog : Program} {w : World} {A : Around} {c : Cfg} {h : Heap} {E : Value → Heap → Prop} {env : Env} {L la lh dl du : Addr} {B : Heap} {pr : Program} {loose : List Str} {mg mb : Str → Option Value} {st : Stmt} {sc : Scope} {q a : Trip} {t : Tn} {kk : Nat} {tk : Tok} {ws : List (List Nat)}
theorem seg140 (hst : lawSub w.params 14 0 = some st) (hS : lawScope w.params = some sc) (T : Top0 w.params pr loose mg mb B) (hroom : A.depth + 100 < recursionLimit) (hA : A.handled = none) (hE : EnvIs sc L env)
    (bL : B.get? L = none) (bD : B.get? dl = none) (hDL : dl ≠ L) (kB : B.StaysIn h) (ns : NsHas h L (bs14 kk tk la lh dl du)) {hi : Array Value} {m : Nat} (hlh : h.get? lh = some (LObj hi m)) (hhi : hi[kk]? = some (.ref a.1)) (nlh : lh ≠ L) (hkk : kk ≤ 1000)
    (sn : SenK w.params (cut [L, dl] h) a t ws) (hwl : ws.length ≤ 20) {el : List (Str × Value)} {rs : List (List Nat × List (List Nat))} (hdd : h.DictOf (strKind prog w) dl (fold el)) (hel : el.length ≤ 1000) (hev : All2 (EvR (cut [L, dl] h)) el rs) {Q : Flow → Heap → Prop}
    (k : ∀ h' el', Keeps1 [L, dl] h h' → NsHas h' L (bs14 kk tk la lh dl du) → h'.DictOf (strKind prog w) dl (fold el') → All2 (EvR (cut [L, dl] h')) el' (rs ++ turnEv ws (ws.length / 4)) → Q .next h') :
    Mine.D (model prog w) A c (exec st env) h Q E := by
  have e0 := lawStmt_of (P := w.params) (i := 14) (by k_is) rfl
  have e := Option.some.inj (hst.symm.trans (lawSub_of e0 rfl))
  have e2 := Option.some.inj (hS.symm.trans (lawScope_of (by k_is)))
  subst e
  subst e2
  clear e0
  dsimp only at hE
  have F := ns.frl
  have Th : Top0 w.params pr loose mg mb (h.hide L) := T.keeps fun b o e => hide_of (kB b o e) fun z => by rw [z, bL] at e; cases e
  obtain ⟨t1, t2, items, Sn, hs⟩ := sn
  have hsz := strs_sz hs
  have Snh : Sen w.params h a.1 a.2.1 a.2.2 (.str (S t.ta) t1) (.str (S (sg "XDR")) t2) items := Sn.keeps cut_in
  refine d_for ?_
  repeat walk_at "d1"
  refine d_tailList (LObj.isList hlh) (j := kk) rfl (by omega) hhi ?_
  refine d_numtr (T.keeps kB) (by omega) Snh (by omega) (fun h₁ t3 k1 => ?_)
  rw [hsz]
  repeat walk_at "d1"
  refine d_range1 (fun h₂ r t4 t5 k2 n2 hr => ?_)
  refine d_iterRange hr (by omega) (fun h₃ I k3 nI W st0 => ?_)
  have k03 := stays_trans k1 (stays_trans k2 k3)
  have nI0 : h.get? I = none := none_of_stays (stays_trans k1 k2) nI
  have bI : B.get? I = none := none_of_stays kB nI0
  have LI : L ≠ I := Ne.symm (ne_of_new nI0 F.at)
  have DI : dl ≠ I := fun z => by obtain ⟨o, _, _, e, _⟩ := hdd; rw [z, nI0] at e; cases e
  have lhI : lh ≠ I := fun z => by rw [z, nI0] at hlh; cases hlh
  have nlhD : lh ≠ dl := fun z => by
    obtain ⟨o, es, ep, e, _, d, _⟩ := hdd
    rw [← z, hlh] at e; cases e
    cases d
  have kcut : (cut [L, dl] h).StaysIn (cut [L, dl, I] h₃) := fun b o e => cut_of (k03 _ _ (of_cut e)) (fun z => by
    simp only [List.mem_cons, List.not_mem_nil, or_false] at z
    rcases z with z | z | z
    · rw [cut_no (by simp [z])] at e; cases e
    · rw [cut_no (by simp [z])] at e; cases e
    · rw [z] at e; rw [of_cut e] at nI0; cases nI0)
  have kB3 : B.StaysIn (cut [L, dl, I] h₃) := fun b o e => cut_of (k03 _ _ (kB _ _ e)) (fun z => by
    simp only [List.mem_cons, List.not_mem_nil, or_false] at z
    rcases z with z | z | z <;> subst z <;> first | (rw [bL] at e; cases e) | (rw [bD] at e; cases e) | (rw [bI] at e; cases e))
  have Sn3 := Sn.keeps kcut
  have hlh3 : (cut [L, dl, I] h₃).get? lh = some (LObj hi m) := cut_of (k03 _ _ hlh) (by simp [nlh, nlhD, lhI])
  refine dc_for W hA (fun i h' => (cut [L, dl, I] h₃).StaysIn h' ∧ NsHas h' L (bs14 kk tk la lh dl du) ∧ ∃ el', h'.DictOf (strKind prog w) dl (fold el') ∧ el'.length = el.length + i ∧ All2 (EvR (cut [L, dl, I] h')) el' (rs ++ turnEv ws i)) st0
    ⟨fun b o e => of_cut e, ns.keep fun o e => k03 _ _ e, el, hdd.keep k03, rfl, by
      rw [show turnEv ws 0 = [] from rfl, List.append_nil]
      exact hev.mono (EvR.keep kcut)⟩ (fun i v h₄ h₅ hi' hP iv k5 st5 => ?_) (fun h₄ h₅ iv k5 => ?_)
  · obtain ⟨kc, ns4, el', hd4, hel4, hev4⟩ := iv
    obtain ⟨ti, rfl⟩ := hP
    have k5 : Keeps1 [I] h₄ h₅ := k5
    have ns5 := ns4.keep (h' := h₅) fun o e => k5 _ _ (by simpa using LI) e
    have hd5 : h₅.DictOf (strKind prog w) dl (fold el') := let ⟨o, es, ep, e, r⟩ := hd4; ⟨o, es, ep, k5 _ _ (by simpa using DI) e, r⟩
    have kc5 : (cut [L, dl, I] h₃).StaysIn (h₅.hide L) := fun b o e => hide_of (k5 _ _ (fun z => by
      rw [cut_no (by simp at z; simp [z])] at e; cases e) (kc _ _ e)) fun z => by rw [cut_no (by simp [z])] at e; cases e
    have T5 : Top0 w.params pr loose mg mb (h₅.hide L) := (T.keeps kB3).keeps kc5
    have Sn5 := Sn3.keeps kc5
    have F5 := ns5.frl
    refine d_store hE F5 (fun h₆ F6 => ?_)
    repeat walk_at "d1"
    refine d_tailList (LObj.isList (F6.keep _ _ (kc5 _ _ hlh3))) (j := kk) rfl (by omega) hhi ?_
    refine d_meth (T5.K.keeps F6.keep) (Sn5.keeps F6.keep) (f := 391) (by k_is) (by k_is) (by k_is) (by k_is) (by decide +kernel) (fun _ _ _ => rfl) (fun h₇ qm k7 n7 hqm => ?_)
    have F7 := F6.back k7
    clear F6
    refine d_withM (K := hd.heap_39 w.params) (by k_is) (T5.K.keeps F7.keep) hqm ?_
    repeat walk_at "d1"
    refine ⟨stays_refl _, gettr_spec (T5.keeps F7.keep) (by omega) (Sn5.keeps F7.keep) (by omega) (i := i) (by rw [hsz]; omega) (fun h₈ tr v1 v2 v3 v4 k8 n8 g1 g2 g3 g4 It => ?_)⟩
    have F8 := F7.back k8
    clear F7
    have ns8 : NsHas h₈ L _ := F8.ns
    have It8 := It.hide ns8 (x := nK) (v := .int ((kk : Nat) : Int) tk) rfl
    have k58 : (h₅.hide L).StaysIn (h₈.hide L) := F8.into
    have T8 := T5.keeps k58
    have hd8 : (h₈.hide L).DictOf (strKind prog w) dl (fold el') := let ⟨o, es, ep, e, r⟩ := hd5; ⟨o, es, ep, k58 _ _ (hide_of e hDL), r⟩
    rw [← Array.getElem?_toList] at g1 g2 g3 g4
    obtain ⟨l1, u1, f1, rfl⟩ := hs.at g1
    obtain ⟨l2, u2, f2, rfl⟩ := hs.at g2
    obtain ⟨l3, u3, f3, rfl⟩ := hs.at g3
    obtain ⟨l4, u4, f4, rfl⟩ := hs.at g4
    refine d_store hE F8.all (fun h₉ F9 => ?_)
    repeat walk_at "d1"
    have It9 := It8.keeps F9.keep
    refine d_trAttr (T8.keeps F9.keep) (by omega) It9 (tra_type _) rfl (by omega) rfl (fun h₁₀ k10 => ?_)
    have F10 := F9.back k10
    clear F9
    repeat walk_at "d1"
    refine d_trAttr (T8.keeps F10.keep) (by omega) (It8.keeps F10.keep) (tra_value _) rfl (by omega) rfl (fun h₁₁ k11 => ?_)
    have F11 := F10.back k11
    clear F10
    repeat walk_at "d1"
    refine d_trAttr (T8.keeps F11.keep) (by omega) (It8.keeps F11.keep) (tra_units _) rfl (by omega) rfl (fun h₁₂ k12 => ?_)
    have F12 := F11.back k12
    clear F11
    repeat walk_at "d1"
    refine d_newTuple F12 (by simp) (fun H' h₁₃ Tp kH F13 k13 nT ht => ?_)
    have L12 := F12.at
    have hTL : Tp ≠ L := ne_of_new nT L12
    have hd12 := hd8.keep F12.keep
    have hTD : Tp ≠ dl := fun z => by obtain ⟨o, _, _, e, _⟩ := hd12; rw [← z, nT] at e; cases e
    have hTI : Tp ≠ I := fun z => by
      have := F12.keep _ _ (k58 _ _ (hide_of st5 (Ne.symm LI)))
      rw [← z, nT] at this; cases this
    have h8_13 := stays_trans kH F13.keep
    repeat walk_at "d1"
    refine d_trAttr (T8.keeps h8_13) (by omega) (It8.keeps h8_13) (tra_id _) rfl (by omega) rfl (fun h₁₄ k14 => ?_)
    have F14 := F13.back k14
    refine d_setDict (hd8.keep (stays_trans h8_13 k14)) (by have := fold_len el'; omega) (fun h₁₅ hd15 sb15 => ?_)
    repeat walk_at "d1"
    have k515 : ∀ b o, b ≠ L → b ≠ dl → h₅.get? b = some o → h₁₅.get? b = some o := fun b o h1 h2 e => (sb15.2 b h2).trans (k14 _ _ (h8_13 _ _ (k58 _ _ (hide_of e h1))))
    have cutS : (cut [L, dl, I] h₄).StaysIn (cut [L, dl, I] h₁₅) := fun b o e => by
      have e1 := of_cut e
      have z : b ∉ [L, dl, I] := fun z => by rw [cut_no z] at e; cases e
      have z2 : b ≠ L ∧ b ≠ dl ∧ b ≠ I := by simpa using z
      exact cut_of (k515 _ _ z2.1 z2.2.1 (k5 _ _ (by simpa using z2.2.2) e1)) z
    refine ⟨k515 _ _ (Ne.symm LI) (Ne.symm DI) st5, fun b o e => ?_, ((show NsHas h₁₄ L _ from F14.ns).keep fun o e => (sb15.2 _ (Ne.symm hDL)).trans e).sub ?_, el' ++ [(S l4, .ref Tp)], by rw [fold_more]; exact hd15, by rw [List.length_append, hel4]; rfl, ?_⟩
    · have z : b ∉ [L, dl, I] := fun z => by rw [cut_no z] at e; cases e
      have z2 : b ≠ L ∧ b ≠ dl ∧ b ≠ I := by simpa using z
      exact k515 _ _ z2.1 z2.2.1 (k5 _ _ (by simpa using z2.2.2) (kc _ _ e))
    · exact sub_cons rfl (sub_cons rfl (sub_cons rfl (sub_cons rfl (sub_cons rfl sub_nil))))
    · rw [turnEv_succ, ← List.append_assoc]
      refine (hev4.mono (EvR.keep cutS)).app (.cons ?_ .nil)
      unfold rowEv
      rw [getD_at f1, getD_at f2, getD_at f3, getD_at f4]
      obtain ⟨o, e, r'⟩ := ht.keeps F13.keep
      exact ⟨rfl, Tp, _, rfl, ⟨o, cut_of ((sb15.2 _ hTD).trans (k14 _ _ e)) (by simp [hTL, hTD, hTI]), r'⟩, .cons (.cons (.cons .nil))⟩
  · obtain ⟨kc, ns4, el', hd4, hel4, hev4⟩ := iv
    have k5 : Keeps1 [I] h₄ h₅ := k5
    refine k h₅ el' (fun b o hb e => ?_) (ns4.keep fun o e => k5 _ _ (by simpa using LI) e) (let ⟨o, es, ep, e, r⟩ := hd4; ⟨o, es, ep, k5 _ _ (by simpa using DI) e, r⟩) (hev4.mono (EvR.keep fun b o e => ?_))
    · have hb2 : b ≠ L ∧ b ≠ dl := by simpa using hb
      have hbI : b ≠ I := fun z => by rw [z, nI0] at e; cases e
      exact k5 _ _ (by simpa using hbI) (kc _ _ (cut_of (k03 _ _ e) (by simp [hb2.1, hb2.2, hbI])))
    · have z : b ∉ [L, dl, I] := fun z => by rw [cut_no z] at e; cases e
      have z2 : b ≠ L ∧ b ≠ dl ∧ b ≠ I := by simpa using z
      exact cut_of (k5 _ _ (by simpa using z2.2.2) (of_cut e)) (by simp [z2.1, z2.2.1])
end
end
section
section
variable {prog : Program} {w : World} {A : Around} {c : Cfg} {h : Heap} {E : Value → Heap → Prop} {env : Env} {L la lh dl du : Addr} {B : Heap} {pr : Program} {loose : List Str} {mg mb : Str → Option Value} {st : Stmt} {sc : Scope} {q a : Trip} {t : Tn} {kk : Nat} {tk : Tok} {ws : List (List Nat)} {W : Addr}
theorem seg142 (hst : lawSub w.params 14 2 = some st) (hS : lawScope w.params = some sc) (T : Top0 w.params pr loose mg mb B) (hroom : A.depth + 100 < recursionLimit) (hA : A.handled = none) (hE : EnvIs sc L env)
    (bL : B.get? L = none) (bD : B.get? du = none) (hDL : du ≠ L) (kB : B.StaysIn h) (ns : NsHas h L ((nWords, .ref W) :: bs14 kk tk la lh dl du)) {wi : Array Value} (hW : (cut [L, du] h).IsList W wi) (hs : Strs wi.toList ws)
    (hwl : ws.length ≤ 20) {el : List (Str × Value)} {rs : List (List Nat × List (List Nat))} (hdd : h.DictOf (strKind prog w) du (fold el)) (hel : el.length ≤ 1000) (hev : All2 (EvR (cut [L, du] h)) el rs) {Q : Flow → Heap → Prop}
    (k : ∀ h' el', Keeps1 [L, du] h h' → NsHas h' L ((nWords, .ref W) :: bs14 kk tk la lh dl du) → h'.DictOf (strKind prog w) du (fold el') → All2 (EvR (cut [L, du] h')) el' (rs ++ turnEv ws (ws.length / 4)) → Q .next h') :
    Mine.D (model prog w) A c (exec st env) h Q E := by
  have e0 := lawStmt_of (P := w.params) (i := 14) (by k_is) rfl
  have e := Option.some.inj (hst.symm.trans (lawSub_of e0 rfl))
  have e2 := Option.some.inj (hS.symm.trans (lawScope_of (by k_is)))
  subst e
  subst e2
  clear e0
  dsimp only at hE
  have F := ns.frl
  have Th : Top0 w.params pr loose mg mb (h.hide L) := T.keeps fun b o e => hide_of (kB b o e) fun z => by rw [z, bL] at e; cases e
  have hsz := strs_sz hs
  refine d_for ?_
  repeat walk_at "d1"
  refine d_lenList (isl_keeps hW cut_in) (by omega) (fun t3 => ?_)
  repeat walk_at "d1"
  have eq4 : ((wi.size : Nat) : Int).fdiv 4 = ((ws.length / 4 : Nat) : Int) := by rw [hsz, Int.fdiv_eq_ediv_of_nonneg _ (by decide)]; omega
  rw [eq4]
  refine d_range1 (fun h₂ r t4 t5 k2 n2 hr => ?_)
  refine d_iterRange hr (by omega) (fun h₃ I k3 nI Wk st0 => ?_)
  have k03 := stays_trans k2 k3
  have nI0 : h.get? I = none := none_of_stays k2 nI
  have bI : B.get? I = none := none_of_stays kB nI0
  have LI : L ≠ I := Ne.symm (ne_of_new nI0 F.at)
  have DI : du ≠ I := fun z => by obtain ⟨o, _, _, e, _⟩ := hdd; rw [z, nI0] at e; cases e
  have kcut : (cut [L, du] h).StaysIn (cut [L, du, I] h₃) := fun b o e => cut_of (k03 _ _ (of_cut e)) (fun z => by
    simp only [List.mem_cons, List.not_mem_nil, or_false] at z
    rcases z with z | z | z
    · rw [cut_no (by simp [z])] at e; cases e
    · rw [cut_no (by simp [z])] at e; cases e
    · rw [z] at e; rw [of_cut e] at nI0; cases nI0)
  have kB3 : B.StaysIn (cut [L, du, I] h₃) := fun b o e => cut_of (k03 _ _ (kB _ _ e)) (fun z => by
    simp only [List.mem_cons, List.not_mem_nil, or_false] at z
    rcases z with z | z | z <;> subst z <;> first | (rw [bL] at e; cases e) | (rw [bD] at e; cases e) | (rw [bI] at e; cases e))
  have hW3 := isl_keeps hW kcut
  refine dc_for Wk hA (fun i h' => (cut [L, du, I] h₃).StaysIn h' ∧ NsHas h' L ((nWords, .ref W) :: bs14 kk tk la lh dl du) ∧ ∃ el', h'.DictOf (strKind prog w) du (fold el') ∧ el'.length = el.length + i ∧ All2 (EvR (cut [L, du, I] h')) el' (rs ++ turnEv ws i)) st0
    ⟨fun b o e => of_cut e, ns.keep fun o e => k03 _ _ e, el, hdd.keep k03, rfl, by
      rw [show turnEv ws 0 = [] from rfl, List.append_nil]
      exact hev.mono (EvR.keep kcut)⟩ (fun i v h₄ h₅ hi' hP iv k5 st5 => ?_) (fun h₄ h₅ iv k5 => ?_)
  · obtain ⟨kc, ns4, el', hd4, hel4, hev4⟩ := iv
    obtain ⟨ti, rfl⟩ := hP
    have k5 : Keeps1 [I] h₄ h₅ := k5
    have ns5 := ns4.keep (h' := h₅) fun o e => k5 _ _ (by simpa using LI) e
    have hd5 : h₅.DictOf (strKind prog w) du (fold el') := let ⟨o, es, ep, e, r⟩ := hd4; ⟨o, es, ep, k5 _ _ (by simpa using DI) e, r⟩
    have kc5 : (cut [L, du, I] h₃).StaysIn (h₅.hide L) := fun b o e => hide_of (k5 _ _ (fun z => by
      rw [cut_no (by simp at z; simp [z])] at e; cases e) (kc _ _ e)) fun z => by rw [cut_no (by simp [z])] at e; cases e
    have T5 : Top0 w.params pr loose mg mb (h₅.hide L) := (T.keeps kB3).keeps kc5
    have F5 := ns5.frl
    have at_ : ∀ j, j < 4 → ∃ l u, ws[4 * i + j]? = some l ∧ wi[4 * i + j]? = some (.str (S l) u) := fun j hj => by
      have hl : 4 * i + j < ws.length := by omega
      obtain ⟨u, hu⟩ := hs.2 _ _ (List.getElem?_eq_getElem hl)
      exact ⟨_, u, List.getElem?_eq_getElem hl, by rw [← Array.getElem?_toList]; exact hu⟩
    obtain ⟨l1, u1, f1, g1⟩ := at_ 0 (by omega)
    obtain ⟨l2, u2, f2, g2⟩ := at_ 1 (by omega)
    obtain ⟨l3, u3, f3, g3⟩ := at_ 2 (by omega)
    obtain ⟨l4, u4, f4, g4⟩ := at_ 3 (by omega)
    refine d_store hE F5 (fun h₆ F6 => ?_)
    have hW6 := isl_keeps (isl_keeps hW3 kc5) F6.keep
    repeat walk_at "d1"
    refine d_tailList hW6 (j := 4 * i + 0) (by omega) (by omega) g1 ?_
    repeat walk_at "d1"
    refine d_tailList hW6 (j := 4 * i + 1) (by omega) (by omega) g2 ?_
    repeat walk_at "d1"
    refine d_tailList hW6 (j := 4 * i + 2) (by omega) (by omega) g3 ?_
    repeat walk_at "d1"
    refine d_newTuple F6 (by simp) (fun H' h₇ Tp kH F7 k7 nT ht => ?_)
    have L6 := F6.at
    have hTL : Tp ≠ L := ne_of_new nT L6
    have hd6 : h₆.DictOf (strKind prog w) du (fold el') := let ⟨o, es, ep, e, r⟩ := hd5; ⟨o, es, ep, F6.keep _ _ (hide_of e hDL), r⟩
    have hTD : Tp ≠ du := fun z => by obtain ⟨o, _, _, e, _⟩ := hd6; rw [← z, nT] at e; cases e
    have hTI : Tp ≠ I := fun z => by
      have := F6.keep _ _ (hide_of st5 (Ne.symm LI))
      rw [← z, nT] at this; cases this
    repeat walk_at "d1"
    refine d_tailList (isl_keeps hW6 k7) (j := 4 * i + 3) (by omega) (by omega) g4 ?_
    refine d_setDict (hd6.keep k7) (by have := fold_len el'; omega) (fun h₁₅ hd15 sb15 => ?_)
    repeat walk_at "d1"
    have k515 : ∀ b o, b ≠ L → b ≠ du → h₅.get? b = some o → h₁₅.get? b = some o := fun b o h1 h2 e => (sb15.2 b h2).trans (k7 _ _ (F6.keep _ _ (hide_of e h1)))
    have cutS : (cut [L, du, I] h₄).StaysIn (cut [L, du, I] h₁₅) := fun b o e => by
      have e1 := of_cut e
      have z : b ∉ [L, du, I] := fun z => by rw [cut_no z] at e; cases e
      have z2 : b ≠ L ∧ b ≠ du ∧ b ≠ I := by simpa using z
      exact cut_of (k515 _ _ z2.1 z2.2.1 (k5 _ _ (by simpa using z2.2.2) e1)) z
    refine ⟨k515 _ _ (Ne.symm LI) (Ne.symm DI) st5, fun b o e => ?_, ((show NsHas h₇ L _ from F7.ns).keep fun o e => (sb15.2 _ (Ne.symm hDL)).trans e).sub ?_, el' ++ [(S l4, .ref Tp)], by rw [fold_more]; exact hd15, by rw [List.length_append, hel4]; rfl, ?_⟩
    · have z : b ∉ [L, du, I] := fun z => by rw [cut_no z] at e; cases e
      have z2 : b ≠ L ∧ b ≠ du ∧ b ≠ I := by simpa using z
      exact k515 _ _ z2.1 z2.2.1 (k5 _ _ (by simpa using z2.2.2) (kc _ _ e))
    · exact sub_cons rfl (sub_cons rfl (sub_cons rfl (sub_cons rfl (sub_cons rfl (sub_cons rfl sub_nil)))))
    · rw [turnEv_succ, ← List.append_assoc]
      refine (hev4.mono (EvR.keep cutS)).app (.cons ?_ .nil)
      unfold rowEv
      rw [Nat.add_zero] at f1
      rw [getD_at f1, getD_at f2, getD_at f3, getD_at f4]
      obtain ⟨o, e, r'⟩ := ht.keeps F7.keep
      exact ⟨rfl, Tp, _, rfl, ⟨o, cut_of ((sb15.2 _ hTD).trans e) (by simp [hTL, hTD, hTI]), r'⟩, .cons (.cons (.cons .nil))⟩
  · obtain ⟨kc, ns4, el', hd4, hel4, hev4⟩ := iv
    have k5 : Keeps1 [I] h₄ h₅ := k5
    refine k h₅ el' (fun b o hb e => ?_) (ns4.keep fun o e => k5 _ _ (by simpa using LI) e) (let ⟨o, es, ep, e, r⟩ := hd4; ⟨o, es, ep, k5 _ _ (by simpa using DI) e, r⟩) (hev4.mono (EvR.keep fun b o e => ?_))
    · have hb2 : b ≠ L ∧ b ≠ du := by simpa using hb
      have hbI : b ≠ I := fun z => by rw [z, nI0] at e; cases e
      exact k5 _ _ (by simpa using hbI) (kc _ _ (cut_of (k03 _ _ e) (by simp [hb2.1, hb2.2, hbI])))
    · have z : b ∉ [L, du, I] := fun z => by rw [cut_no z] at e; cases e
      have z2 : b ≠ L ∧ b ≠ du ∧ b ≠ I := by simpa using z
      exact cut_of (k5 _ _ (by simpa using z2.2.2) (of_cut e)) (by simp [z2.1, z2.2.1])
end
end
section
def evTo (N : Nat) (ts : List Tn) : Nat → List (List Nat × List (List Nat))
  | 0 => []
  | k + 1 => evTo N ts k ++ (match ts[k]? with | some t => turnEv (newW N k t) ((newW N k t).length / 4) | none => [])
theorem evTo_len {N : Nat} {ts : List Tn} (h : ∀ t ∈ ts, t.2.length ≤ 3) : ∀ k, (evTo N ts k).length ≤ 4 * k
  | 0 => Nat.le_refl _
  | k + 1 => by
    have ih := evTo_len (N := N) h k
    unfold evTo
    rw [List.length_append]
    cases e : ts[k]? with
    | none => simp; omega
    | some t =>
      have h1 := h t (List.mem_of_getElem? e)
      have h2 := words_len t
      have h3 := newW_len (N := N) (k := k) (t := t)
      dsimp only
      unfold turnEv
      rw [List.length_map, List.length_range]
      omega
theorem evTo_succ {N : Nat} {ts : List Tn} {k : Nat} {t : Tn} (h : ts[k]? = some t) : evTo N ts (k + 1) = evTo N ts k ++ turnEv (newW N k t) ((newW N k t).length / 4) := by
  show _ ++ _ = _
  rw [h]
/-- addresses that hold no row -/
def NoSeq (X : List Addr) (h : Heap) : Prop := ∀ y ∈ X, ∀ o, h.get? y = some o → ∀ items n, o.data ≠ .seq items n
theorem EvR.cut {h : Heap} {X : List Addr} (hX : NoSeq X h) (e : Str × Value) (r : List Nat × List (List Nat)) (x : EvR h e r) : EvR (cut X h) e r := by
  obtain ⟨a, p, its, b, ⟨o, d, f1, n, f2⟩, g⟩ := x
  exact ⟨a, p, its, b, ⟨o, cut_of d (fun z => hX p z o d its n f2), f1, n, f2⟩, g⟩
theorem EvR.full {h : Heap} {X : List Addr} (e : Str × Value) (r : List Nat × List (List Nat)) (x : EvR (Mine.cut X h) e r) : EvR h e r := EvR.keep cut_in e r x
theorem EvR.but {h h' : Heap} {X : List Addr} (hX : NoSeq X h) (k : Keeps1 X h h') (e : Str × Value) (r : List Nat × List (List Nat)) (x : EvR h e r) : EvR h' e r :=
  EvR.full (X := X) e r (EvR.keep (cut_mono k) e r (EvR.cut hX e r x))
theorem noseq_ns {h : Heap} {L : Addr} {bs : List (Str × Value)} (n : NsHas h L bs) : ∀ o, h.get? L = some o → ∀ items n, o.data ≠ .seq items n := fun o e its c z => by
  obtain ⟨m, ⟨o', es, ep, e', d, _⟩, _⟩ := n
  rw [e] at e'; cases e'
  rw [d] at z; cases z
theorem noseq_dict {prog : Program} {w : World} {h : Heap} {d : Addr} {kvs : List (Str × Value)} (x : h.DictOf (strKind prog w) d kvs) : ∀ o, h.get? d = some o → ∀ items n, o.data ≠ .seq items n := fun o e its n z => by
  obtain ⟨o', es, ep, e', _, d, _⟩ := x
  rw [e] at e'; cases e'
  rw [d] at z; cases z
structure DInv (prog : Program) (w : World) (B : Heap) (L la lh dl du : Addr) (ex : List Addr) (N : Nat) (ts : List Tn) (ps : List Pr2) (k : Nat) (h : Heap) : Prop where
  keep : B.StaysIn h
  ns : NsHas h L [(nAsked, .ref la), (nHeard, .ref lh), (nLatest, .ref dl), (nDue, .ref du)]
  lA : ∃ m, (cut (L :: dl :: du :: ex) h).get? la = some (LObj (ps.map fun p => Value.ref p.1.1).toArray m)
  lH : ∃ m, (cut (L :: dl :: du :: ex) h).get? lh = some (LObj (ps.map fun p => Value.ref p.2.1).toArray m)
  len : ps.length = ts.length
  each : ∀ (i : Nat) (p : Pr2) (t : Tn), ps[i]? = some p → ts[i]? = some t → CAt w.params (cut (L :: dl :: du :: ex) h) p.1 p.2 t (newW N i t)
  dL : ∃ el, h.DictOf (strKind prog w) dl (fold el) ∧ All2 (EvR h) el (evTo N ts k)
  dU : ∃ el, h.DictOf (strKind prog w) du (fold el) ∧ All2 (EvR h) el (evTo N ts k)
theorem DInv.but {prog : Program} {w : World} {B : Heap} {L la lh dl du : Addr} {ex ex' X : List Addr} {N : Nat} {ts : List Tn} {ps : List Pr2} {k : Nat} {h h' : Heap} (x : DInv prog w B L la lh dl du ex N ts ps k h) (hB : ∀ y ∈ X, B.get? y = none) (kX : Keeps1 X h h') (hX : NoSeq X h) (hd : dl ∉ X ∧ du ∉ X ∧ L ∉ X)
    (hc : (cut (L :: dl :: du :: ex) h).StaysIn (cut (L :: dl :: du :: ex') h')) : DInv prog w B L la lh dl du ex' N ts ps k h' where
  keep := fun b o e => kX _ _ (fun z => by rw [hB b z] at e; cases e) (x.keep _ _ e)
  ns := x.ns.keep fun o e => kX _ _ hd.2.2 e
  lA := let ⟨m, e⟩ := x.lA; ⟨m, hc _ _ e⟩
  lH := let ⟨m, e⟩ := x.lH; ⟨m, hc _ _ e⟩
  len := x.len
  each := fun i p t e1 e2 => (x.each i p t e1 e2).keep hc
  dL := let ⟨el, ⟨o, es, ep, e, r⟩, a⟩ := x.dL; ⟨el, ⟨o, es, ep, kX _ _ hd.1 e, r⟩, a.mono (EvR.but hX kX)⟩
  dU := let ⟨el, ⟨o, es, ep, e, r⟩, a⟩ := x.dU; ⟨el, ⟨o, es, ep, kX _ _ hd.2.1 e, r⟩, a.mono (EvR.but hX kX)⟩
section
variable {prog : Program} {w : World} {A : Around} {c : Cfg} {h : Heap} {E : Value → Heap → Prop} {env : Env} {L la lh dl du : Addr} {B : Heap} {pr : Program} {loose : List Str} {mg mb : Str → Option Value} {st : Stmt} {sc : Scope} {ts : List Tn} {ps : List Pr2} {N : Nat}
theorem tab_spec (hst : lawStmt w.params 14 = some st) (hS : lawScope w.params = some sc) (T : Top0 w.params pr loose mg mb B) (hroom : A.depth + 100 < recursionLimit) (hA : A.handled = none) (hE : EnvIs sc L env)
    (bL : B.get? L = none) (bdl : B.get? dl = none) (bdu : B.get? du = none) (hdL : dl ≠ L) (huL : du ≠ L) (hdu : dl ≠ du) (htl : ts.length ≤ 7)
    (hts : ∀ t ∈ ts, t.2 ≠ [] ∧ t.2.length ≤ 3) (iv : DInv prog w B L la lh dl du [] N ts ps 0 h) {Q : Flow → Heap → Prop}
    (k : ∀ h', DInv prog w B L la lh dl du [] N ts ps ts.length h' → Q .next h') : Mine.D (model prog w) A c (exec st env) h Q E := by
  have hS' := hS
  have e0 := lawStmt_of (P := w.params) (i := 14) (by k_is) rfl
  have e := Option.some.inj (hst.symm.trans e0)
  have e2 := Option.some.inj (hS.symm.trans (lawScope_of (by k_is)))
  subst e
  subst e2
  clear hst hS
  dsimp only at hE
  have ns := iv.ns
  have F := ns.frl
  have Th : Top0 w.params pr loose mg mb (h.hide L) := T.keeps fun b o e => hide_of (iv.keep b o e) fun z => by rw [z, bL] at e; cases e
  obtain ⟨m1, hla0⟩ := iv.lA
  obtain ⟨m2, hlh0⟩ := iv.lH
  have hpl := iv.len
  refine d_for ?_
  repeat walk_at "d1"
  refine d_lenList (LObj.isList (of_cut hla0)) (by rw [List.size_toArray, List.length_map]; omega) (fun t3 => ?_)
  rw [show ((ps.map fun p => Value.ref p.1.1).toArray.size) = ts.length by rw [List.size_toArray, List.length_map, hpl]]
  repeat walk_at "d1"
  refine d_range1 (fun h₂ r t4 t5 k2 n2 hr => ?_)
  refine d_iterRange hr (by omega) (fun h₃ I k3 nI W st0 => ?_)
  have k03 := stays_trans k2 k3
  have nI0 : h.get? I = none := none_of_stays k2 nI
  have bI : B.get? I = none := none_of_stays iv.keep nI0
  have LI : L ≠ I := Ne.symm (ne_of_new nI0 F.at)
  have dlI : dl ≠ I := fun z => by obtain ⟨el, ⟨o, _, _, e, _⟩, _⟩ := iv.dL; rw [z, nI0] at e; cases e
  have duI : du ≠ I := fun z => by obtain ⟨el, ⟨o, _, _, e, _⟩, _⟩ := iv.dU; rw [z, nI0] at e; cases e
  have iv3 : DInv prog w B L la lh dl du [I] N ts ps 0 h₃ := iv.but (X := []) (fun y hy => by cases hy) (fun b o _ e => k03 _ _ e) (fun y hy => by cases hy) ⟨by simp, by simp, by simp⟩ (fun b o e => cut_of (k03 _ _ (of_cut e)) (fun z => by
    simp only [List.mem_cons, List.not_mem_nil, or_false] at z
    rcases z with z | z | z | z
    · rw [cut_no (by simp [z])] at e; cases e
    · rw [cut_no (by simp [z])] at e; cases e
    · rw [cut_no (by simp [z])] at e; cases e
    · rw [z] at e; rw [of_cut e] at nI0; cases nI0))
  refine dc_for W hA (fun k h' => DInv prog w B L la lh dl du [I] N ts ps k h' ∧ NoSeq [I] h') st0 ⟨iv3, fun y hy o e its n z => ?_⟩ (fun kk v h₄ h₅ hi hP iv4 k5 st5 => ?_) (fun h₄ h₅ iv4 k5 => ?_)
  · simp at hy
    rw [hy, st0] at e; cases e
    cases z
  · obtain ⟨iv4, nq⟩ := iv4
    obtain ⟨tk, rfl⟩ := hP
    have k5 : Keeps1 [I] h₄ h₅ := k5
    have c45 : (cut [L, dl, du, I] h₄).StaysIn (cut [L, dl, du, I] h₅) := cut_mono (keeps1_more k5 (by simp))
    have iv5 : DInv prog w B L la lh dl du [I] N ts ps kk h₅ := iv4.but (X := [I]) (by simpa using bI) k5 nq ⟨by simpa using dlI, by simpa using duI, by simpa using LI⟩ c45
    clear iv3 iv4
    obtain ⟨t, ht⟩ : ∃ t, ts[kk]? = some t := ⟨_, List.getElem?_eq_getElem hi⟩
    obtain ⟨⟨q, a⟩, hp⟩ : ∃ p, ps[kk]? = some p := ⟨_, List.getElem?_eq_getElem (by omega)⟩
    have ht2 := hts t (List.mem_of_getElem? ht)
    have cx5 := iv5.each kk (q, a) t hp ht
    obtain ⟨ma, hla5⟩ := iv5.lA
    obtain ⟨mh, hlh5⟩ := iv5.lH
    have kB5 := iv5.keep
    have F5 := iv5.ns.frl
    have T5 : Top0 w.params pr loose mg mb (h₅.hide L) := T.keeps fun b o e => hide_of (kB5 b o e) fun z => by rw [z, bL] at e; cases e
    have hwl := words_len t
    have hnl := newW_len (N := N) (k := kk) (t := t)
    have hev := evTo_len (N := N) (fun t ht => (hts t ht).2) kk
    refine d_store hE F5 (fun h₆ F6 => ?_)
    have ns6 : NsHas h₆ L _ := F6.ns
    have k56 : ∀ b o, b ≠ L → h₅.get? b = some o → h₆.get? b = some o := fun b o hb e => F6.keep _ _ (hide_of e hb)
    have c56 : (cut [L, dl, du, I] h₅).StaysIn (cut [L, dl, du, I] h₆) := cut_mono fun b o hb e => k56 _ _ (by simp at hb; exact hb.1) e
    have k56' : Keeps1 [L] h₅ h₆ := fun b o hb e => k56 _ _ (by simpa using hb) e
    obtain ⟨eL, hdl5, haL⟩ := iv5.dL
    obtain ⟨eU, hdu5, haU⟩ := iv5.dU
    have nsL5 : NoSeq [L] h₅ := fun y hy => by simp at hy; subst hy; exact noseq_ns iv5.ns
    have hdl6 : h₆.DictOf (strKind prog w) dl (fold eL) := let ⟨o, es, ep, e, r⟩ := hdl5; ⟨o, es, ep, k56 _ _ hdL e, r⟩
    have hdu6 : h₆.DictOf (strKind prog w) du (fold eU) := let ⟨o, es, ep, e, r⟩ := hdu5; ⟨o, es, ep, k56 _ _ huL e, r⟩
    have haL6 := haL.mono (EvR.but nsL5 k56')
    have haU6 := haU.mono (EvR.but nsL5 k56')
    have cx6 := cx5.keep c56
    have hla6 := c56 _ _ hla5
    have hlh6 := c56 _ _ hlh5
    have cA : ∀ {h' : Heap}, (cut [L, dl, du, I] h').StaysIn (cut [L, dl] h') := fun {h'} b o e => cut_of (of_cut e) (fun z => by
      rw [cut_no (by simp only [List.mem_cons, List.not_mem_nil, or_false] at z ⊢; rcases z with z | z <;> simp [z])] at e; cases e)
    have cB : ∀ {h' : Heap}, (cut [L, dl, du, I] h').StaysIn (cut [L, du] h') := fun {h'} b o e => cut_of (of_cut e) (fun z => by
      rw [cut_no (by simp only [List.mem_cons, List.not_mem_nil, or_false] at z ⊢; rcases z with z | z <;> simp [z])] at e; cases e)
    have inX : ∀ {h' : Heap} {b : Addr} {o : Obj}, (cut [L, dl, du, I] h').get? b = some o → b ≠ L ∧ b ≠ dl ∧ b ≠ du ∧ b ≠ I := fun {h' b o} e => by
      have : b ∉ [L, dl, du, I] := fun z => by rw [cut_no z] at e; cases e
      simpa using this
    have kB6 : B.StaysIn h₆ := fun b o e => k56 _ _ (fun z => by rw [z, bL] at e; cases e) (kB5 _ _ e)
    have ns6' : NsHas h₆ L (bs14 kk tk la lh dl du) := ns6
    have nsq6 : NoSeq [L, dl] h₆ := fun y hy => by
      simp only [List.mem_cons, List.not_mem_nil, or_false] at hy
      rcases hy with rfl | rfl
      · exact noseq_ns ns6
      · exact noseq_dict hdl6
    refine d_cons (seg140 (lawSub_of e0 rfl) hS' T hroom hA hE bL bdl hdL kB6 ns6' (of_cut hlh6) (map_snd_at hp) (inX hlh6).1 (by omega) (cx6.sen.keep cA) (by omega) hdl6 (by rw [haL6.len]; omega) (haL6.mono (EvR.cut nsq6)) (fun h₇ eL' k7 ns7 hdl7 haL7 => ?_))
    dsimp only
    have c67 : (cut [L, dl, du, I] h₆).StaysIn (cut [L, dl, du, I] h₇) := cut_mono (keeps1_more k7 (by
      intro p hp
      simp only [List.mem_cons, List.not_mem_nil, or_false] at hp ⊢
      rcases hp with z | z <;> simp [z]))
    have kB7 : B.StaysIn h₇ := fun b o e => k7 _ _ (fun z => by
      simp only [List.mem_cons, List.not_mem_nil, or_false] at z
      rcases z with z | z <;> subst z <;> first | (rw [bL] at e; cases e) | (rw [bdl] at e; cases e)) (kB6 _ _ e)
    have hdu7 : h₇.DictOf (strKind prog w) du (fold eU) := let ⟨o, es, ep, e, r⟩ := hdu6; ⟨o, es, ep, k7 _ _ (by simp [huL, Ne.symm hdu]) e, r⟩
    have haU7 := haU6.mono (EvR.but nsq6 k7)
    have F7 := ns7.frl
    have T7 : Top0 w.params pr loose mg mb (h₇.hide L) := T.keeps fun b o e => hide_of (kB7 b o e) fun z => by rw [z, bL] at e; cases e
    have cx7 := cx6.keep c67
    have hla7 := c67 _ _ hla6
    refine d_cons ?_
    repeat walk_at "d1"
    refine d_tailList (LObj.isList (of_cut hla7)) (j := kk) rfl (by omega) (map_fst_at hp) ?_
    repeat walk_at "d1"
    obtain ⟨tt, htup⟩ := (cx7.keep cut_in).ask.tup
    refine d_tailTup htup (i := (2 : Int)) (j := 2) rfl (by omega) (v := .ref q.2.2) rfl ?_
    refine d_store hE F7 (fun h₈ F8 => ?_)
    have k78 : ∀ b o, b ≠ L → h₇.get? b = some o → h₈.get? b = some o := fun b o hb e => F8.keep _ _ (hide_of e hb)
    have c78 : (cut [L, dl, du, I] h₇).StaysIn (cut [L, dl, du, I] h₈) := cut_mono fun b o hb e => k78 _ _ (by simp at hb; exact hb.1) e
    have k78' : Keeps1 [L] h₇ h₈ := fun b o hb e => k78 _ _ (by simpa using hb) e
    have nsL7 : NoSeq [L] h₇ := fun y hy => by simp at hy; subst hy; exact noseq_ns ns7
    have ns8 : NsHas h₈ L ((nWords, .ref q.2.2) :: bs14 kk tk la lh dl du) := F8.ns
    have kB8 : B.StaysIn h₈ := fun b o e => k78 _ _ (fun z => by rw [z, bL] at e; cases e) (kB7 _ _ e)
    have hdl8 : h₈.DictOf (strKind prog w) dl (fold eL') := let ⟨o, es, ep, e, r⟩ := hdl7; ⟨o, es, ep, k78 _ _ hdL e, r⟩
    have hdu8 : h₈.DictOf (strKind prog w) du (fold eU) := let ⟨o, es, ep, e, r⟩ := hdu7; ⟨o, es, ep, k78 _ _ huL e, r⟩
    have haL8 := (haL7.mono EvR.full).mono (EvR.but nsL7 k78')
    have haU8 := haU7.mono (EvR.but nsL7 k78')
    have cx8 := cx7.keep c78
    have nsq8 : NoSeq [L, du] h₈ := fun y hy => by
      simp only [List.mem_cons, List.not_mem_nil, or_false] at hy
      rcases hy with rfl | rfl
      · exact noseq_ns ns8
      · exact noseq_dict hdu8
    obtain ⟨wi, hwi, hws⟩ := (cx8.keep cB).ask.wds
    refine d_cons (seg142 (lawSub_of e0 rfl) hS' T hroom hA hE bL bdu huL kB8 ns8 hwi hws (by omega) hdu8 (by rw [haU8.len]; omega) (haU8.mono (EvR.cut nsq8)) (fun h₉ eU' k9 ns9 hdu9 haU9 => ?_))
    dsimp only
    refine d_nil ?_
    dsimp only
    have c89 : (cut [L, dl, du, I] h₈).StaysIn (cut [L, dl, du, I] h₉) := cut_mono (keeps1_more k9 (by
      intro p hp
      simp only [List.mem_cons, List.not_mem_nil, or_false] at hp ⊢
      rcases hp with z | z <;> simp [z]))
    have c59 := stays_trans c56 (stays_trans c67 (stays_trans c78 c89))
    have hdl9 : h₉.DictOf (strKind prog w) dl (fold eL') := let ⟨o, es, ep, e, r⟩ := hdl8; ⟨o, es, ep, k9 _ _ (by simp [hdL, hdu]) e, r⟩
    have stI : IsRangeIter h₉ I _ _ 1 := k9 _ _ (by simp [Ne.symm LI, Ne.symm duI]) (k78 _ _ (Ne.symm LI) (k7 _ _ (by simp [Ne.symm LI, Ne.symm dlI]) (k56 _ _ (Ne.symm LI) st5)))
    refine ⟨stI, ⟨fun b o e => k9 _ _ (fun z => by
      simp only [List.mem_cons, List.not_mem_nil, or_false] at z
      rcases z with z | z <;> subst z <;> first | (rw [bL] at e; cases e) | (rw [bdu] at e; cases e)) (kB8 _ _ e), ns9.sub ?_, ⟨ma, c59 _ _ hla5⟩, ⟨mh, c59 _ _ hlh5⟩, hpl, fun i p t e1 e2 => (iv5.each i p t e1 e2).keep c59, ⟨eL', hdl9, ?_⟩, ⟨eU', hdu9, ?_⟩⟩, fun y hy o e its n z => ?_⟩
    · exact sub_cons rfl (sub_cons rfl (sub_cons rfl (sub_cons rfl sub_nil)))
    · rw [evTo_succ ht]
      exact haL8.mono (EvR.but nsq8 k9)
    · rw [evTo_succ ht]
      exact haU9.mono EvR.full
    · simp at hy
      rw [hy, stI] at e; cases e
      cases z
  · obtain ⟨iv4, nq⟩ := iv4
    have k5 : Keeps1 [I] h₄ h₅ := k5
    refine k h₅ (iv4.but (X := [I]) (by simpa using bI) k5 nq ⟨by simpa using dlI, by simpa using duI, by simpa using LI⟩ fun b o e => ?_)
    have z : b ∉ [L, dl, du, I] := fun z => by rw [cut_no z] at e; cases e
    simp only [List.mem_cons, List.not_mem_nil, or_false, not_or] at z
    exact cut_of (k5 _ _ (by simp [z.2.2.2]) (of_cut e)) (by simp [z.1, z.2.1, z.2.2.1])
theorem last_spec (hst : lawStmt w.params 15 = some st) (hS : lawScope w.params = some sc) (T : Top0 w.params pr loose mg mb B) (hu : A.units + 10 < cLine) (hE : EnvIs sc L env)
    (hs1 : (dl == sysModules) = false) (hs2 : (du == sysModules) = false) {k : Nat} (iv : DInv prog w B L la lh dl du [] N ts ps k h) {Q : Flow → Heap → Prop}
    (q : Q (.ret (.bool true)) h) : Mine.D (model prog w) A c (exec st env) h Q E := by
  have e0 := lawStmt_of (P := w.params) (i := 15) (by k_is) rfl
  have e := Option.some.inj (hst.symm.trans e0)
  have e2 := Option.some.inj (hS.symm.trans (lawScope_of (by k_is)))
  subst e
  subst e2
  dsimp only at hE
  have F := iv.ns.frl
  obtain ⟨eL, hdl, haL⟩ := iv.dL
  obtain ⟨eU, hdu, haU⟩ := iv.dU
  repeat walk_at "d1"
  refine d_eqDict hs1 hs2 hdl hdu (by omega) (fold_same ((haL.join haU).mono fun x y z => ?_)) ?_
  · obtain ⟨r, ⟨a1, p1, i1, b1, c1, d1⟩, ⟨a2, p2, i2, b2, c2, d2⟩⟩ := z
    refine ⟨a1.trans a2.symm, ?_⟩
    rw [b1, b2]
    exact EqT.rows c1 c2 d1 d2 (by show A.units + 1 < _; omega)
  exact q
end
end
section
/-! rules for the law's body as a whole -/
section
variable {prog : Program} {w : World} {A : Around} {c : Cfg} {h : Heap} {E : Value → Heap → Prop} {env : Env} {pos : Pos} {K : Frag} {f : Addr}
theorem d_bor1 {op : BoolOp} {e : Expr} {Q : Value → Heap → Prop} (k : D (model prog w) A c (eval e env) h Q E) : D (model prog w) A c (eval (.BoolOp op [e] pos) env) h Q E := ⟨fun tk p => BoolOp_one (k.run tk p)⟩
theorem d_dict0s {Q : Value → Heap → Prop} (q : ∀ h', h.StaysIn h' → h'.DictOf (strKind prog w) h.objs.size [] → Q (.ref h.objs.size) h') : D (model prog w) A c (eval (.Dict [] [] pos) env) h Q E :=
  d_of_eq (PySem.eval_Dict_empty pos) (d_bind (d_standAt ⟨fun tk p => wpAny_newObj_type (.mk (h := h.push _) p (q _ (stays_push _) (Heap.DictOf.new h)))⟩))
theorem d_dict1s {key : Str} {kk : Nat} {kp vp dp : Pos} {v : Str} {a : Value} {Q : Value → Heap → Prop} (hv : ∀ h', h.StaysIn h' → D (model prog w) A c (eval (.Name v vp) env) h' (fun x h₁ => x = a ∧ h₁ = h') (fun _ _ => False))
    (q : ∀ h', h.StaysIn h' → h'.DictOf (strKind prog w) h.objs.size [(key, a)] → Q (.ref h.objs.size) h') : D (model prog w) A c (eval (.Dict [some (.Constant (.str key) kk kp)] [.Name v vp] dp) env) h Q E := ⟨fun tk p => by
  refine wpAny_Dict_walk (knd := strKind prog w) rfl rfl (by simp) (by simp) ?_
  show wpAny _ A (evalPairs [(eval (.Constant (.str key) kk kp) env, do let x ← eval (.Name v vp) env; standAt dp; pure x)]) _ _ _
  refine evalPairs_cons (wpAny_Constant_str ?_)
  refine wpAny_bind (wpAny_mono ((hv (h.push { cls := .type "dict", data := .dict #[] }) (stays_push _)).run (tk + 1) (Nat.succ_pos _)) (fun x s z => ?_) fun _ _ z => by obtain ⟨_, _, _, _, z⟩ := z; exact z.elim)
  obtain ⟨h₁, tk₁, p₁, rfl, rfl, rfl⟩ := z
  refine wpAny_bind (wpAny_standAt (wpAny_pure ?_))
  refine evalPairs_nil ?_
  refine ⟨[(key, x)], ⟨strKind_is prog w key tk, rfl, trivial⟩, Heap.DictOf.new h, fun h' hd sb => ?_⟩
  exact .mk (h := h') (by show 0 < tk₁ + 1; omega) (q h' (fun b o e => (sb.2 b (Nat.ne_of_lt (Heap.lt_size e))).trans (stays_push _ _ _ e)) hd)⟩
/-- a call of a plain def whose run may leave the settings changed -/
theorem ca_enter {R : Result → Shared → Prop} {name qual : Str} {params : Arguments} {body : List Stmt} {scope : Scope} {dV kV doc pm cdv ct oc : Value} {an od : Option Addr} {osl : Array (Option Value)} {args : Args} {binds : List (Str × Value)} {tk : Nat}
    (X : K.In h) (hlim : h.NoLimit)
    (ho : K.lookup f = some ⟨oc, od, .func (fnOf name qual params body scope dV kV doc pm an cdv ct), osl⟩) (hcd : codeIn K cdv qual = true) (hroom : A.depth < recursionLimit)
    (hbind : ∀ tk, BindsTo (c.st h tk) (fnOf name qual params body scope dV kV doc pm an cdv ct) args binds) (hloc : ∀ y ∈ binds, scope.names.lookup y.1 = some .local) (hp : 0 < binds.length)
    (k : ∀ L h₁ env, EnvIs scope L env → env.frame = some L → FrL h L h₁ binds.reverse → h.objs.size = L →
      Run (model prog w) (A.deeper env) c (execs body env) h₁ (fun fl s => R (.ok (.ret (match fl with | .ret v => v | _ => .none))) s) (fun _ _ => False))
    (hco : scope.isCoroutine = false := by rfl) (hgen : scope.isGenerator = false := by rfl) (hk : scope.kind = .function := by rfl)
    (hcell : ∀ x ∈ scope.names, x.2 ≠ .cell := by decide) : codeAny (model prog w) A (.call (.ref f) args) R (c.st h tk) := by
  refine codeAny_call_def (s := c.st h tk) (fd := fnOf name qual params body scope dV kV doc pm an cdv ct) (body := body) (binds := binds) hroom (X _ _ ho) rfl hlim (codeRec_of X hcd) rfl (hbind tk) hcell hloc
    (fun h₁ hns hk₁ => ?_) hco hgen hk
  exact wpAny_mono (k h.objs.size h₁ _ ⟨rfl, rfl, rfl, rfl⟩ rfl ⟨⟨_, hns, fun _ _ e => e⟩, hk₁, not_get_size h⟩ rfl (tk + binds.length) (by omega)) (fun _ _ q => q) fun _ _ q => q.elim
end
theorem zip_sep : ∀ {as bs : List Trip}, as.Pairwise (fun a b => ∀ y ∈ a.on, y ∉ b.on) → bs.Pairwise (fun a b => ∀ y ∈ a.on, y ∉ b.on) → (∀ q ∈ as, ∀ a ∈ bs, ∀ y ∈ q.on, y ∉ a.on) → (as.zip bs).Pairwise (fun a b => ∀ y ∈ Pr2.on a, y ∉ Pr2.on b)
  | [], bs, _, _, _ => by simp
  | a :: as, [], _, _, _ => by simp
  | a :: as, b :: bs, h1, h2, h3 => by
    rw [List.pairwise_cons] at h1 h2
    rw [List.zip_cons_cons, List.pairwise_cons]
    refine ⟨fun p hp y hy hz => ?_, zip_sep h1.2 h2.2 fun q hq c hc => h3 q (List.mem_cons_of_mem _ hq) c (List.mem_cons_of_mem _ hc)⟩
    obtain ⟨p1, p2⟩ := p
    have m := List.of_mem_zip hp
    rcases List.mem_append.mp hy with hy | hy <;> rcases List.mem_append.mp hz with hz | hz
    · exact h1.1 p1 m.1 y hy hz
    · exact h3 a (by simp) p2 (List.mem_cons_of_mem _ m.2) y hy hz
    · exact h3 p1 (List.mem_cons_of_mem _ m.1) b (by simp) y hz hy
    · exact h2.1 p2 m.2 y hy hz
theorem dict_at {prog : Program} {w : World} {h h' : Heap} {d : Addr} {kvs : List (Str × Value)} (x : h.DictOf (strKind prog w) d kvs) (k : ∀ o, h.get? d = some o → h'.get? d = some o) : h'.DictOf (strKind prog w) d kvs := let ⟨o, es, ep, e, r⟩ := x; ⟨o, es, ep, k _ e, r⟩
theorem isl_at {h h' : Heap} {d : Addr} {vs : Array Value} (x : h.IsList d vs) (k : ∀ o, h.get? d = some o → h'.get? d = some o) : h'.IsList d vs := let ⟨o, e, r⟩ := x; ⟨o, k _ e, r⟩
end
section
/-! the law, whole -/
section
variable {prog : Program} {w : World} {A : Around} {c : Cfg} {h : Heap} {pr : Program} {loose : List Str} {mg mb : Str → Option Value}
theorem law_spec (T : Top0 w.params pr loose mg mb h) (hroom : A.depth + 200 < recursionLimit) (hA : A.handled = none) (hu : A.units + 20 < cLine) (hfr : A.frames = some []) (hlow : sysModules < h.objs.size) {l : Addr} {lv0 : Array Value} {ns0 : List Int}
    (hl : h.IsList l lv0) (hlv0 : IntsOf lv0 ns0) (hn0 : ns0.length ≤ 63) {R : Result → Shared → Prop} {tk0 : Nat}
    (kR : ∀ (c' : Cfg) (h' : Heap) (tk' : Nat), (c'.drawn = c.drawn ∧ (AllBare c.gens → AllBare c'.gens)) → c'.os = c.os → h.StaysIn h' → R (.ok (.ret (.bool true))) (c'.st h' tk')) :
    codeAny (model prog w) A (.call (.ref 450) ⟨[.ref l], []⟩) R (c.st h tk0) := by
  have hS := lawScope_of (P := w.params) (by k_is)
  refine ca_enter (K := hd.heap_39 w.params) (binds := [(Str.ofString "script", .ref l)]) T.K T.T.nolimit (by k_is) (by k_is) (by omega) (fun _ => .of_eq rfl) (locs rfl) (by simp) (fun L h₁ env hE hfL F1 hL => ?_)
  have hroomD : (A.deeper env).depth + 100 < recursionLimit := by show A.depth + 1 + 100 < _; omega
  have hAD : (A.deeper env).handled = none := hA
  have huD : (A.deeper env).units + 10 < cLine := by show A.units + 3 + 10 < _; omega
  have hfrD : (A.deeper env).frames = some [env] := by show A.frames.map (env :: ·) = _; rw [hfr]; rfl
  generalize A.deeper env = AD at hroomD hAD huD hfrD ⊢
  have hlowL : sysModules < L := hL ▸ hlow
  -- kinds
  have nL : h.get? L = none := F1.out
  refine run_cons ?_
  refine d_assign ?_
  refine d_dict1s (a := .ref 394) (fun h' k' => ?_) (fun h₂ k2 hkd => ?_)
  · have F' := F1.back k'
    refine d_glob hE F' T.K T.T (by k_is) ⟨rfl, rfl⟩
  obtain ⟨kd, hkde⟩ : ∃ kd, kd = h₁.objs.size := ⟨_, rfl⟩
  rw [← hkde] at hkd ⊢
  have hks : (kd == sysModules) = false := beq_eq_false_iff_ne.mpr (Nat.ne_of_gt (Nat.lt_trans hlowL (hkde ▸ F1.lt)))
  have hkL : kd ≠ L := Nat.ne_of_gt (hkde ▸ F1.lt)
  have F2 := F1.back k2
  have T2 := T.keeps F2.into
  refine d_store hE F2.all (fun h₃ F3 => ⟨rfl, ?_⟩)
  have hkd3 : h₃.DictOf (strKind prog w) kd [(Str.ofString "XDR", .ref 394)] := dict_at hkd fun o e => F3.keep _ _ (hide_of e hkL)
  have hl3 : h₃.IsList l lv0 := isl_keeps hl (stays_trans F2.into F3.keep)
  -- numbers
  refine run_cons ?_
  refine d_assign (d_mono (Q := fun v h' => ∃ ln lv ns, v = .ref ln ∧ h₃.StaysIn h' ∧ h₃.get? ln = none ∧ h'.IsList ln lv ∧ IntsOf lv ns ∧ ns.length ≤ 7) (E := fun _ _ => False) ?_ (fun v h₄ z => ?_) fun _ _ z => z.elim)
  · refine d_bor ?_
    repeat walk_at "d1"
    rename_i t7 _
    refine d_mkSlice F3 (fun h₄ a F4 hsl k4 => ?_)
    refine d_tailSlList (lo := none) (hi := some (7, t7)) (isl_keeps hl3 k4) hsl (by rw [hlv0.1]; omega) (fun h₅ G k5 nG hG => ?_)
    dsimp only [Option.map_some, Option.map_none, Option.getD_some, Option.getD_none] at hG
    have hints := hlv0.cut 0 7
    rw [List.drop_zero] at hints hG
    rw [List.drop_zero] at hints
    have F5 := F4.back k5
    repeat walk_at "d1"
    have hsz : (lv0.toList.take 7).toArray.size ≤ 7 := by rw [List.size_toArray, List.length_take]; omega
    refine d_listCopy hG (by omega) (fun h₆ D k6 nD hD => ?_)
    refine d_truthyList hD (by omega) ?_
    have F6 := F5.back k6
    have k36 := stays_trans k4 (stays_trans k5 k6)
    by_cases hz : (lv0.toList.take 7).toArray.size = 0
    · refine ite_no (by rw [hz]; rfl) ?_
      refine d_bor1 ?_
      repeat walk_at "d1"
      rename_i t5 _
      refine d_newListL (by simp) (fun h₇ D2 k7 nD2 hD2 => ?_)
      refine ⟨D2, _, [5], rfl, stays_trans k36 k7, none_of_stays k36 nD2, LObj.isList hD2, ⟨rfl, fun i n e => ?_⟩, by simp⟩
      cases i with
      | zero => simp at e; subst e; exact ⟨t5, rfl⟩
      | succ i => simp at e
    · refine ite_yes (by simpa using hz) ?_
      refine ⟨D, _, ns0.take 7, rfl, k36, none_of_stays (stays_trans k4 k5) nD, hD, hints, by rw [List.length_take]; omega⟩
  obtain ⟨ln, lv, ns, rfl, k4, nln, hln, hlv, hns⟩ := z
  have hlnL : ln ≠ L := ne_of_new nln F3.at
  have F4 := F3.back k4
  have hkd4 := hkd3.keep k4
  have T4 := T2.keeps F4.into
  refine d_store hE F4.all (fun h₅ F5 => ⟨rfl, ?_⟩)
  have hkd5 : h₅.DictOf (strKind prog w) kd [(Str.ofString "XDR", .ref 394)] := dict_at hkd4 fun o e => F5.keep _ _ (hide_of e hkL)
  have hln5 : h₅.IsList ln lv := let ⟨o, e, r⟩ := hln; ⟨o, F5.keep _ _ (hide_of e hlnL), r⟩
  -- the base of the first loop
  have F6 := F5.all
  have T5 := T4.keeps F5.into
  have hB0 : h.StaysIn (h₅.hide L) := stays_trans F2.into (stays_trans F4.into F5.into)
  obtain ⟨B, hB⟩ : ∃ B, B = h₅.hide L := ⟨_, rfl⟩
  have bL : B.get? L = none := by rw [hB]; exact Heap.hide_self _ _
  have hkB : B.DictOf (strKind prog w) kd [(Str.ofString "XDR", .ref 394)] := by rw [hB]; exact dict_at hkd5 fun o e => hide_of e hkL
  have hlnB : B.IsList ln lv := by rw [hB]; exact let ⟨o, e, r⟩ := hln5; ⟨o, hide_of e hlnL, r⟩
  rw [← hB] at F6 T5 hB0
  clear hkd hkd3 hkd4 hkd5 hln hln5 hl3 F2 F3 F4 F5
  -- log, asked, at
  refine run_cons ?_
  repeat walk_at "d1"
  rename_i t0 _ h₆ F7
  refine ⟨rfl, ?_⟩
  refine run_cons ?_
  repeat walk_at "d1"
  refine d_newListL (by simp) (fun h₇ la k7 nla hla => ?_)
  have F8 := F7.back k7
  have hlaL : la ≠ L := ne_of_new nla F7.at
  have bla : B.get? la = none := none_of_stays F7.keep nla
  refine d_store hE F8.all (fun h₈ F9 => ⟨rfl, ?_⟩)
  have hla8 := F9.keep _ _ (hide_of hla hlaL)
  refine run_cons ?_
  have T9 := T5.keeps F8.into
  repeat walk_at "d1"
  rename_i t4 _ h₉ F10
  refine ⟨rfl, ?_⟩
  have hla9 := F10.keep _ _ (hide_of hla hlaL)
  have kB9 := stays_trans F8.into F10.keep
  -- the building loop
  refine run_cons (build_spec (B := B) (la := la) (ln := ln) (kd := kd) (ns := ns) (lv := lv) (lawStmt_of (by k_is) rfl) hS T5 hroomD hAD hE bL bla (Ne.symm hlaL) hlnB hlv hns
    ⟨kB9, ⟨t0, t4, (show NsHas h₉ L _ from F10.ns).sub ?_⟩, ⟨[], ⟨⟨_, hla9⟩, rfl, fun k q t e => by simp at e, List.Pairwise.nil, fun q hq => by simp at hq, fun q hq => by simp at hq⟩⟩⟩ (fun hb ivb => ⟨rfl, ?_⟩))
  · exact sub_cons rfl (sub_cons rfl (sub_cons rfl (sub_cons rfl (sub_cons rfl sub_nil))))
  clear hla8 hla9 F6 F7 F8 F9 F10 T9 kB9 hla k7 nla
  obtain ⟨ts, hts0⟩ : ∃ ts, ts = turnsF ns.length ns := ⟨_, rfl⟩
  rw [← hts0] at ivb
  have hts : ∀ t ∈ ts, t.2 ≠ [] ∧ t.2.length ≤ 3 := fun t ht => ⟨(turns_ok _ _ t (hts0 ▸ ht)).1, (turns_ok _ _ t (hts0 ▸ ht)).2.1⟩
  have tsl : ts.length ≤ 7 := by have := turns_len ns.length ns; rw [← hts0] at this; omega
  have hlogl : (logOf ts).length ≤ 777 := by have := logOf_len hts; omega
  clear hts0
  obtain ⟨kBb, ⟨tb1, tb2, nsb⟩, asq, hAsk⟩ := ivb
  have Fb := nsb.frl
  have Tb : Top0 w.params pr loose mg mb (hb.hide L) := T5.keeps fun b o e => hide_of (kBb _ _ e) fun z => by rw [z, bL] at e; cases e
  obtain ⟨B2, hB2⟩ : ∃ B2, B2 = hb.hide L := ⟨_, rfl⟩
  have up2 : ∀ b o, b ≠ L → hb.get? b = some o → B2.get? b = some o := fun b o hb e => by rw [hB2]; exact hide_of e hb
  have dn2 : ∀ b, hb.get? b = none → B2.get? b = none := fun b e => by
    cases e2 : B2.get? b with
    | none => rfl
    | some o => rw [hB2] at e2; rw [Heap.of_hide e2] at e; cases e
  have b2L : B2.get? L = none := by rw [hB2]; exact Heap.hide_self _ _
  have kB12 : B.StaysIn B2 := fun b o e => up2 _ _ (fun z => by rw [z, bL] at e; cases e) (kBb _ _ e)
  rw [← hB2] at Fb Tb
  -- the reader
  refine run_cons ?_
  repeat walk_at "d1"
  refine d_withK (K := hd.heap_39 w.params) (by k_is) ?_
  repeat walk_at "d1"
  refine ⟨Tb.K.keeps Fb.keep, ?_⟩
  refine d_make (K := hd.heap_39 w.params) (fI := 412) (Tb.K.keeps Fb.keep) (by k_is) (by k_is) (by k_is) (fun h₁₁ xr dxr k11 nx ndx nxd I => ?_)
  refine rinit_spec (Tb.keeps Fb.keep) k11 (by rw [under_tc]; omega) I ndx nx (fun h₁₂ ta tb tc t' kk I' => ⟨rfl, ?_⟩)
  have hLd : L ≠ dxr := Ne.symm (ne_of_new ndx Fb.at)
  have hxL : xr ≠ L := ne_of_new nx Fb.at
  have b2d : B2.get? dxr = none := dn2 _ ndx
  have F12 := (Fb.back k11).but (wr := [dxr]) (fun b o hb e => kk _ _ (by simpa using hb) e) (by simpa using hLd) (by simpa using b2d)
  refine d_store hE F12.all (fun h₁₃ F13 => ⟨rfl, ?_⟩)
  have I13 : Inst h₁₃ xr 423 dxr _ 3 := ⟨F13.keep _ _ (hide_of I'.x hxL), F13.keep _ _ (hide_of I'.d (Ne.symm hLd))⟩
  have kB13 := stays_trans F12.into F13.keep
  -- heard, fed
  refine run_cons ?_
  repeat walk_at "d1"
  refine d_newListL (by simp) (fun h₁₄ lh k14 nlh hlh => ?_)
  have hlhL : lh ≠ L := ne_of_new nlh F13.at
  have hlhd : lh ≠ dxr := fun z => by have := I13.d; rw [← z, nlh] at this; cases this
  have b2lh : B2.get? lh = none := none_of_stays kB13 nlh
  have F14 := F13.back k14
  have T14 : Top0 w.params pr loose mg mb (h₁₄.hide L) := Tb.keeps fun b o e => hide_of (k14 _ _ (kB13 _ _ e)) fun z => by rw [z, b2L] at e; cases e
  refine d_store hE F14.all (fun h₁₅ F15 => ⟨rfl, ?_⟩)
  refine run_cons ?_
  repeat walk_at "d1"
  rename_i h₁₆ F16
  refine ⟨rfl, ?_⟩
  have up16 : ∀ b o, b ≠ L → h₁₄.get? b = some o → h₁₆.get? b = some o := fun b o hb e => F16.keep _ _ (hide_of e hb)
  have ns16 : NsHas h₁₆ L _ := F16.ns
  have iv0 : FInv w.params B2 L xr dxr lh la kd [] ts 0 0 [] h₁₆ := ⟨fun b o e => up16 _ _ (fun z => by rw [z, b2L] at e; cases e) (k14 _ _ (kB13 _ _ e)),
    ⟨_, _, ns16.sub (sub_cons rfl (sub_cons rfl (sub_cons rfl (sub_cons rfl (sub_cons rfl (sub_cons rfl sub_nil))))))⟩,
    ⟨ta, tb, tc, _, _, up16 _ _ hxL (k14 _ _ I13.x), up16 _ _ (Ne.symm hLd) (k14 _ _ I13.d)⟩,
    ⟨[], ⟨⟨0, up16 _ _ hlhL hlh⟩, rfl, fun k a t e => by simp at e, List.Pairwise.nil, fun q hq => by simp at hq⟩⟩, rfl, by simp, Nat.zero_le _⟩
  have hk2 := hkB.keep kB12
  have hln2 := isl_keeps hlnB kB12
  have hla2 : ∃ o, B2.get? la = some o := let ⟨m, e⟩ := hAsk.lst; ⟨_, up2 _ _ hlaL e⟩
  -- feeding
  refine run_consR (feed_spec (B := B2) (lawStmt_of (by k_is) rfl) hS Tb hAD hroomD hE hfrD hfL b2L b2d b2lh hLd ⟨hlhL, hlhd⟩ hxL hks hk2 rfl hln2 hlv hns hts tsl iv0 ⟨_, ns16.sub (sub_cons rfl (sub_cons rfl sub_nil))⟩ (fun c' hf tk' fed p' d1 d2 ivf => ⟨rfl, ?_⟩))
  clear iv0 ns16 up16 F16 F15 F14 F13 F12 T14 I13 I' I kk nlh hlh k14 kB13 k11 nx ndx nxd Fb
  refine wpAny_mono (D.run (c := c') (h := hf) (Q := fun f h' => f = .ret (.bool true) ∧ h.StaysIn h') (E := fun _ _ => False) ?_ tk' p') (fun f s z => ?_) fun _ _ z => by obtain ⟨_, _, _, _, z⟩ := z; exact z.elim
  rotate_left
  · obtain ⟨h', tk'', p'', rfl, rfl, z⟩ := z
    exact kR c' h' tk'' d1 d2 z
  obtain ⟨kB2f, ⟨tf1, tf2, nsf⟩, _, ⟨ash, hHeard⟩, _, _, _⟩ := ivf
  rw [List.take_length] at hHeard
  have kBf := stays_trans kB12 kB2f
  have hAskf : AskAll B hf L la (askedOf ts) asq := hAsk.keep hlaL fun b o hb e => kB2f _ _ (up2 _ _ hb e)
  have htl : (askedOf ts).length ≤ 7 := Nat.le_trans (List.length_filter_le _ _) tsl
  have hts' : ∀ t ∈ askedOf ts, t.2 ≠ [] ∧ t.2.length ≤ 3 := fun t ht => hts t (asked_sub ht).1
  have Ff := nsf.frl
  have Tf : Top0 w.params pr loose mg mb (hf.hide L) := T5.keeps fun b o e => hide_of (kBf _ _ e) fun z => by rw [z, bL] at e; cases e
  obtain ⟨mh, hlhf⟩ := hHeard.lst
  obtain ⟨ma, hlaf⟩ := hAskf.lst
  have lenA := hAskf.len
  have lenH := hHeard.len
  -- the count
  refine d_cons ?_
  repeat walk_at "d1"
  refine d_lenList (LObj.isList hlhf) (by rw [List.size_toArray, List.length_map]; omega) (fun t1 => ?_)
  repeat walk_at "d1"
  refine d_lenList (LObj.isList hlaf) (by rw [List.size_toArray, List.length_map]; omega) (fun t2 => ?_)
  repeat walk_at "d1"
  refine ite_no (by simp [lenA, lenH]) ?_
  refine d_nil ?_
  dsimp only
  have cross : ∀ q ∈ asq, ∀ a ∈ ash, ∀ y ∈ q.on, y ∉ a.on := fun q hq a ha y hy hz => by
    obtain ⟨i, hi⟩ := List.mem_iff_getElem?.mp hq
    have hil : i < (askedOf ts).length := by rw [← hAsk.len]; exact (List.getElem?_eq_some_iff.mp hi).1
    obtain ⟨o, e⟩ := (hAsk.each i q _ hi (List.getElem?_eq_getElem hil)).live y hy
    have := up2 _ _ (fun z => by rw [cut_no (by simp [z])] at e; cases e) (of_cut e)
    rw [hHeard.new a ha y hz] at this; cases this
  have hpz : ∀ {i : Nat} {p : Pr2}, (asq.zip ash)[i]? = some p → asq[i]? = some p.1 ∧ ash[i]? = some p.2 := fun {i p} e => List.getElem?_zip_eq_some.mp e
  have ivc : CInv w.params B L la lh kd [] (logOf ts) (askedOf ts) (asq.zip ash) 0 hf := by
    refine ⟨kBf, ⟨_, nsf.sub (sub_cons rfl (sub_cons rfl (sub_cons rfl (sub_cons rfl sub_nil))))⟩, ⟨ma, ?_⟩, ⟨mh, ?_⟩, by rw [List.length_zip, lenA, lenH, Nat.min_self], fun i p t e1 e2 => ?_, zip_sep hAskf.sep hHeard.sep cross, fun p hp => ?_, fun p hp y hy => ?_⟩
    · rw [hlaf]
      congr 3
      rw [show (fun p : Pr2 => Value.ref p.1.1) = (fun q : Trip => Value.ref q.1) ∘ Prod.fst from rfl, ← List.map_map, List.map_fst_zip (by omega)]
    · rw [hlhf]
      congr 3
      rw [show (fun p : Pr2 => Value.ref p.2.1) = (fun q : Trip => Value.ref q.1) ∘ Prod.snd from rfl, ← List.map_map, List.map_snd_zip (by omega)]
    · obtain ⟨g1, g2⟩ := hpz e1
      have ew : wdsAt (logOf ts).length 0 i t = t.words := by unfold wdsAt; rw [if_neg (Nat.not_lt_zero _)]
      rw [ew]
      have sk := (hHeard.each i p.2 t g2 e2).1
      refine ⟨(hAsk.each i p.1 t g1 e2).keep fun b o e => ?_, (sk.keep cut_in).cut fun y hy z => ?_⟩
      · have z : b ∉ [L, la] := fun z => by rw [cut_no z] at e; cases e
        have z2 : b ≠ L ∧ b ≠ la := by simpa using z
        have e2 := up2 _ _ z2.1 (of_cut e)
        refine cut_of (kB2f _ _ e2) ?_
        simp only [List.mem_cons, List.not_mem_nil, or_false, not_or]
        exact ⟨z2.1, z2.2, fun z => by rw [z, b2lh] at e2; cases e2⟩
      · obtain ⟨o, e⟩ := sk.live y hy
        have z3 : y ∉ [L, dxr, lh] := fun z => by rw [cut_no z] at e; cases e
        simp only [List.mem_cons, List.not_mem_nil, or_false, not_or] at z z3
        rcases z with z | z | z
        · exact z3.1 z
        · obtain ⟨o2, e2⟩ := hla2
          rw [← z, hHeard.new p.2 (List.mem_of_getElem? g2) y hy] at e2; cases e2
        · exact z3.2.2 z
    · have m := List.of_mem_zip (a := p.1) (b := p.2) hp
      exact ⟨hAskf.gw _ m.1, cross _ m.1 _ m.2⟩
    · have m := List.of_mem_zip (a := p.1) (b := p.2) hp
      rcases List.mem_append.mp hy with hy | hy
      · exact hAskf.new _ m.1 _ hy
      · exact none_of_stays kB12 (hHeard.new _ m.2 _ hy)
  clear hHeard hAskf hAsk cross
  -- the checks
  refine d_cons (check_spec (B := B) (lawStmt_of (by k_is) rfl) hS T5 hroomD hAD huD hE hfrD hfL bL hlaL hlhL hks hkB rfl hlogl htl hts' ivc (fun hc ivc' => ?_))
  clear ivc hlhf hlaf
  dsimp only
  obtain ⟨tc1, nsc⟩ := ivc'.ns
  have kBc := ivc'.keep
  have Fc := nsc.frl
  -- the two tables
  refine d_cons ?_
  refine d_assign ?_
  refine d_dict0s (fun h₁₇ k17 hdl => ?_)
  obtain ⟨dl, edl⟩ : ∃ dl, dl = hc.objs.size := ⟨_, rfl⟩
  rw [← edl] at hdl ⊢
  have hdlL : L < dl := edl ▸ Fc.lt
  have F17 := Fc.back k17
  refine d_store hE F17.all (fun h₁₈ F18 => ?_)
  dsimp only
  have hdl18 := dict_at hdl fun o e => F18.keep _ _ (hide_of e (Nat.ne_of_gt hdlL))
  have F18' : FrL (h₁₈.hide L) L h₁₈ _ := F18.all
  refine d_cons ?_
  refine d_assign ?_
  refine d_dict0s (fun h₁₉ k19 hdu => ?_)
  obtain ⟨du, edu⟩ : ∃ du, du = h₁₈.objs.size := ⟨_, rfl⟩
  rw [← edu] at hdu ⊢
  have hdldu : dl < du := by obtain ⟨o, es, ep, e, r⟩ := hdl18; exact edu ▸ Heap.lt_size e
  have F19 := F18'.back k19
  refine d_store hE F19.all (fun h₂₀ F20 => ?_)
  dsimp only
  have up20 : ∀ b o, b ≠ L → h₁₈.get? b = some o → h₂₀.get? b = some o := fun b o hb e => F20.keep _ _ (hide_of (k19 _ _ e) hb)
  have upc : ∀ b o, b ≠ L → hc.get? b = some o → h₂₀.get? b = some o := fun b o hb e => up20 _ _ hb (F18.keep _ _ (hide_of (k17 _ _ e) hb))
  have ns20 : NsHas h₂₀ L _ := F20.ns
  have liv : ∀ b o, hc.get? b = some o → b ≠ dl ∧ b ≠ du := fun b o e => by have := Heap.lt_size e; rw [← edl] at this; exact ⟨Nat.ne_of_lt this, Nat.ne_of_lt (Nat.lt_trans this hdldu)⟩
  have bnew : ∀ b, hc.objs.size ≤ b → B.get? b = none := fun b hb => by
    cases e : B.get? b with
    | none => rfl
    | some o => exact absurd (Heap.lt_size (kBc _ _ e)) (Nat.not_lt.mpr hb)
  have ivd : DInv prog w B L la lh dl du [] (logOf ts).length (askedOf ts) (asq.zip ash) 0 h₂₀ := by
    refine ⟨fun b o e => upc _ _ (fun z => by rw [z, bL] at e; cases e) (kBc _ _ e), ns20.sub (sub_cons rfl (sub_cons rfl (sub_cons rfl (sub_cons rfl sub_nil)))), let ⟨m, e⟩ := ivc'.lA; ⟨m, cut_of (upc _ _ hlaL e) ?_⟩, let ⟨m, e⟩ := ivc'.lH; ⟨m, cut_of (upc _ _ hlhL e) ?_⟩, ivc'.len, fun i p t e1 e2 => ?_, ⟨[], dict_at hdl18 fun o e => up20 _ _ (Nat.ne_of_gt hdlL) e, .nil⟩, ⟨[], dict_at hdu fun o e => F20.keep _ _ (hide_of e (Nat.ne_of_gt (Nat.lt_trans hdlL hdldu))), .nil⟩⟩
    · have := liv _ _ e; simp [hlaL, this.1, this.2]
    · have := liv _ _ e; simp [hlhL, this.1, this.2]
    · have c := ivc'.each i p t e1 e2
      have ew : wdsAt (logOf ts).length (askedOf ts).length i t = newW (logOf ts).length i t := by unfold wdsAt; rw [if_pos (List.getElem?_eq_some_iff.mp e2).1]
      rw [ew] at c
      refine c.keep fun b o e => ?_
      have z : b ∉ [L, la, lh] := fun z => by rw [cut_no z] at e; cases e
      have z2 : b ≠ L := by simp at z; exact z.1
      have := liv _ _ (of_cut e)
      exact cut_of (upc _ _ z2 (of_cut e)) (by simp [z2, this.1, this.2])
  refine d_cons (tab_spec (lawStmt_of (by k_is) rfl) hS T5 hroomD hAD hE bL (bnew _ (Nat.le_of_eq edl.symm)) (bnew _ (Nat.le_of_lt (edl ▸ hdldu))) (Nat.ne_of_gt hdlL) (Nat.ne_of_gt (Nat.lt_trans hdlL hdldu)) (Nat.ne_of_lt hdldu) htl hts' ivd (fun h₂₁ ivd' => ?_))
  dsimp only
  refine d_cons (last_spec (lawStmt_of (by k_is) rfl) hS T5 huD hE (beq_eq_false_iff_ne.mpr (Nat.ne_of_gt (Nat.lt_trans hlowL hdlL))) (beq_eq_false_iff_ne.mpr (Nat.ne_of_gt (Nat.lt_trans hlowL (Nat.lt_trans hdlL hdldu)))) ivd' ?_)
  exact ⟨rfl, stays_trans hB0 ivd'.keep⟩
end
end
section
theorem ints_of {vs : List Value} {ns : List Int} (x : IntsAre vs ns) : IntsOf vs.toArray ns := by
  induction x with
  | nil => exact ⟨rfl, fun i n e => by simp at e⟩
  | @cons n t vs ns _ ih =>
    refine ⟨by have := ih.1; simp at this ⊢; exact this, fun i m e => ?_⟩
    cases i with
    | zero => simp at e; subst e; exact ⟨t, rfl⟩
    | succ i =>
      obtain ⟨u, hu⟩ := ih.2 i m (by simpa using e)
      exact ⟨u, by simpa using hu⟩
theorem good_end {c : ClaimW} {cl : Str → Option Addr} {mean : ExcName → Option Value} {args : List WData} {s₁ : Shared} {cf : Cfg} {h : Heap} {tk : Nat} {b : Bool}
    (hk : s₁.heap.StaysIn h) (hos : cf.os = s₁.os) (hb : AllBare cf.gens) (hr : ∀ cls, c.raises args cls = false) (hp : c.post args (.bool b) args = true) : GoodWG c cl mean args s₁ (.ok (.ret (.bool b))) (cf.st h tk) :=
  ⟨.inl ⟨_, _, [], rfl, hr, ReadsW.bool b, hp, fun _ => ⟨List.nodup_nil, fun _ hm => (nomatch hm)⟩⟩, OldK.of_keep hk, hos, hb⟩
theorem holds : PySem.Challenge.rw_fe0251_01.Holds := by
  refine Mine.hd ?_
  k_fill
  intro w s0 s1 mg mb G Y fa o pm cd doc dV kV ho hd hcd hD hmg hg args vals as hpre hlay hrd hwl hlo
  have KX := kIn_of Y
  have low := G.low
  refine Ground.open G ?_
  intro T B D TE TW
  clear B TE TW D G
  have e450 := (mg_of (K := Mine.hd.heap_39 w.params) (n := Str.ofString "law") (v := .ref 450) KX T.g (by k_is)).symm.trans hmg
  obtain rfl : fa = 450 := by cases e450; rfl
  clear hmg hD hd hcd e450
  have TT : Top0 w.params _ _ _ _ s1.heap := ⟨KX, topRead_of T⟩
  wrow_args hpre hlay hrd hwl hlo
  refine enter_call ?_
  rename_i ns _ _ _ _ _ _ _ l vs _ hl _ _ _ hI _ hlen _
  have hs : s1 = (Cfg.mk s1.gens s1.drawn s1.os).st s1.heap s1.toks := rfl
  have key := law_spec (prog := Challenge.rw_fe0251_01.row.prog) (A := callerA) (c := ⟨s1.gens, s1.drawn, s1.os⟩) (tk0 := s1.toks) (R := GoodWG Challenge.rw_fe0251_01.row.claim (classAt s0.heap) (ExcName.means s0.heap) [ofPy (PyData.list (List.map PyData.int ns))] s1)
    TT (by decide +kernel) rfl (by decide +kernel) rfl low hl (ints_of hI) (by omega) (fun c' h' tk' d1 d2 k => good_end k d2 (d1.2 (by show AllBare s1.gens; rw [hg]; exact AllBare.empty)) (fun _ => rfl) ?_)
  · exact key
  · first | rfl | wrow_post
end
end Mine
theorem PySem.Challenge.cw_fe0251_01_holds : PySem.Challenge.rw_fe0251_01.Holds := by
  exact Mine.holds
