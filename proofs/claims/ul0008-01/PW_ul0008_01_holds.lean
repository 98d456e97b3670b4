import PyProof.Rows.All
import Wide.All
import OpenK.AllK
import Wide.FinOn
import PySem.Challenge.RW_ul0008_01
set_option Elab.async false

noncomputable section
open PySem PySem.W PySem.Calls PyProof.Rows
set_option Elab.async false
set_option maxRecDepth 100000
namespace Mine

/-- what stands still in a call: the world, the draws, the outside -/
structure Cx where
  w : World
  d : Drawn
  o : OsState
  /-- a token below all that come -/
  b : Nat
abbrev Cx.M (c : Cx) : Model := model PySem.Challenge.pw_ul0008_01 c.w
abbrev Gens := Array GenState
abbrev PostV (α : Type) := α → Heap → Gens → Prop

/-- the goal as a variable -/
theorem absP {P : Prop} (k : ∀ G : Prop, (P → G) → G) : P := k P id
/-- the piece of the logic without tokens -/
def WP {α : Type} (c : Cx) (A : Around) (t : Sem α) (Q : PostV α) (E : PostV Value) (h : Heap) (g : Gens) : Prop :=
  ∀ tk : Nat, wpAny c.M A t (fun a s' => s'.drawn = c.d ∧ s'.os = c.o ∧ Q a s'.heap s'.gens) (fun e s' => s'.drawn = c.d ∧ s'.os = c.o ∧ E e s'.heap s'.gens) ⟨h, g, c.d, tk + (c.b + 1), c.o⟩
def CP (c : Cx) (A : Around) (cd : Code) (R : PostV Result) (h : Heap) (g : Gens) : Prop :=
  ∀ tk : Nat, codeAny c.M A cd (fun r s' => s'.drawn = c.d ∧ s'.os = c.o ∧ R r s'.heap s'.gens) ⟨h, g, c.d, tk + (c.b + 1), c.o⟩

section
variable {α β : Type} {c : Cx} {A : Around} {E : PostV Value} {h : Heap} {g : Gens}
theorem WP.at {t : Sem α} {Q : PostV α} {s : Shared} (x : WP c A t Q E s.heap s.gens) (e1 : s.drawn = c.d ∧ c.b + 1 ≤ s.toks) (e2 : s.os = c.o) :
    wpAny c.M A t (fun a s' => s'.drawn = c.d ∧ s'.os = c.o ∧ Q a s'.heap s'.gens) (fun e s' => s'.drawn = c.d ∧ s'.os = c.o ∧ E e s'.heap s'.gens) s := by
  obtain ⟨h, g, d, tk, o⟩ := s
  obtain ⟨e1, e3⟩ := e1
  dsimp only at e1 e2 e3
  subst e1 e2
  obtain ⟨k, rfl⟩ : ∃ k, tk = k + (c.b + 1) := ⟨tk - (c.b + 1), by omega⟩
  exact x k
theorem CP.at {cd : Code} {R : PostV Result} {s : Shared} (x : CP c A cd R s.heap s.gens) (e1 : s.drawn = c.d ∧ c.b + 1 ≤ s.toks) (e2 : s.os = c.o) :
    codeAny c.M A cd (fun r s' => s'.drawn = c.d ∧ s'.os = c.o ∧ R r s'.heap s'.gens) s := by
  obtain ⟨h, g, d, tk, o⟩ := s
  obtain ⟨e1, e3⟩ := e1
  dsimp only at e1 e2 e3
  subst e1 e2
  obtain ⟨k, rfl⟩ : ∃ k, tk = k + (c.b + 1) := ⟨tk - (c.b + 1), by omega⟩
  exact x k
/-- the step: a tree whose post is a piece again -/
theorem WP.step {t : Sem α} {Q : PostV α} {tk : Nat} {X : α → Shared → Prop} (x : WP c A t Q E h g)
    (k : ∀ a s', s'.drawn = c.d ∧ c.b + 1 ≤ s'.toks → s'.os = c.o → Q a s'.heap s'.gens → X a s') :
    wpAny c.M A t X (fun e s' => s'.drawn = c.d ∧ s'.os = c.o ∧ E e s'.heap s'.gens) ⟨h, g, c.d, tk + (c.b + 1), c.o⟩ :=
  wpAny_with_toks (n := c.b + 1) (Nat.le_add_left _ _) (wpAny_mono (x tk) (fun a s' ⟨e1, e2, q⟩ h => k a s' ⟨e1, h⟩ e2 q) fun _ _ e _ => e)
theorem WP.stepAt {t : Sem α} {Q : PostV α} {s : Shared} {X : α → Shared → Prop} (x : WP c A t Q E s.heap s.gens) (e1 : s.drawn = c.d ∧ c.b + 1 ≤ s.toks) (e2 : s.os = c.o)
    (k : ∀ a s', s'.drawn = c.d ∧ c.b + 1 ≤ s'.toks → s'.os = c.o → Q a s'.heap s'.gens → X a s') :
    wpAny c.M A t X (fun e s' => s'.drawn = c.d ∧ s'.os = c.o ∧ E e s'.heap s'.gens) s :=
  wpAny_with_toks (n := c.b + 1) e1.2 (wpAny_mono (x.at e1 e2) (fun a s' ⟨e1, e2, q⟩ h => k a s' ⟨e1, h⟩ e2 q) fun _ _ e _ => e)
theorem WP.mono {t : Sem α} {Q Q' : PostV α} {E' : PostV Value} (x : WP c A t Q E h g) (k : ∀ a h' g', Q a h' g' → Q' a h' g') (k' : ∀ e h' g', E e h' g' → E' e h' g') : WP c A t Q' E' h g :=
  fun tk => wpAny_mono (x tk) (fun _ _ ⟨e1, e2, q⟩ => ⟨e1, e2, k _ _ _ q⟩) fun _ _ ⟨e1, e2, q⟩ => ⟨e1, e2, k' _ _ _ q⟩
theorem WP.monoQ {t : Sem α} {Q Q' : PostV α} (x : WP c A t Q E h g) (k : ∀ a h' g', Q a h' g' → Q' a h' g') : WP c A t Q' E h g := x.mono k fun _ _ _ e => e
/-- the post as a variable -/
theorem WP.abs {t : Sem α} {Q : PostV α} (k : ∀ Q' : PostV α, (∀ v h g, Q v h g → Q' v h g) → WP c A t Q' E h g) : WP c A t Q E h g := k Q fun _ _ _ q => q
theorem WP_pure {a : α} {Q : PostV α} (x : Q a h g) : WP c A (pure a) Q E h g := fun _ => wpAny_pure ⟨rfl, rfl, x⟩
theorem WP_holding {vs : List Value} {m : Sem α} {Q : PostV α} (x : WP c A m Q E h g) : WP c A (holding vs m) Q E h g := fun tk => wpAny_holding (x tk)
theorem WP_standAt {p : Pos} {Q : PostV Unit} (x : Q () h g) : WP c A (standAt p) Q E h g := fun _ => wpAny_standAt ⟨rfl, rfl, x⟩
end

/-- room for calls -/
structure AOk (A : Around) (n : Nat) : Prop where
  h : A.handled = none
  d : A.depth ≤ 301 + n
  u : A.units ≤ 4 + 10 * n
theorem le0 {n a b : Nat} (h : n ≤ a) (k : a ≤ b := by decide) : n ≤ b := Nat.le_trans h k
theorem le1 {n a b : Nat} (h : n ≤ a) (k : a + 1 ≤ b := by decide) : n + 1 ≤ b := Nat.le_trans (Nat.succ_le_succ h) k
namespace AOk
variable {A : Around} {n : Nat}
theorem room (x : AOk A n) (hn : n ≤ 60 := by omega) : A.depth < recursionLimit := by have := x.d; show _ < 1000; omega
theorem unit (x : AOk A n) (hn : n ≤ 60 := by omega) : A.units < cLine := by have := x.u; show _ < 9900; omega
theorem mono {m : Nat} (x : AOk A n) (hm : n ≤ m := by omega) : AOk A m := ⟨x.h, by have := x.d; omega, by have := x.u; omega⟩
theorem deeper (x : AOk A n) (env : Env) : AOk (A.deeper env) (n + 1) := ⟨x.h, by have := x.d; show A.depth + 1 ≤ _; omega, by have := x.u; show A.units + 3 ≤ _; omega⟩
theorem in1 (x : AOk A n) : AOk A.in1 (n + 1) := ⟨x.h, by have := x.d; show A.depth ≤ _; omega, by have := x.u; show A.units + 1 ≤ _; omega⟩
end AOk

section
variable {c : Cx} {A : Around} {E : PostV Value} {h : Heap} {g : Gens} {env : Env}
/- expressions -/
theorem e_int {i k pos} {Q : PostV Value} (x : ∀ t, Q (.int i t) h g) : WP c A (eval (.Constant (.int i) k pos) env) Q E h g := fun _ => wpAny_Constant_int ⟨rfl, rfl, x _⟩
theorem e_str {i k pos} {Q : PostV Value} (x : ∀ t, Q (.str i t) h g) : WP c A (eval (.Constant (.str i) k pos) env) Q E h g := fun _ => Calls.Constant_str ⟨rfl, rfl, x _⟩
theorem e_bool {i k pos} {Q : PostV Value} (x : Q (.bool i) h g) : WP c A (eval (.Constant (.bool i) k pos) env) Q E h g := fun _ => Constant_bool ⟨rfl, rfl, x⟩
theorem e_none {k pos} {Q : PostV Value} (x : Q .none h g) : WP c A (eval (.Constant .none k pos) env) Q E h g := fun _ => Constant_none ⟨rfl, rfl, x⟩
theorem e_bin {l op r pos} {Q : PostV Value} (x : WP c A (eval l env) (fun a h₁ g₁ => WP c A (eval r env) (fun b h₂ g₂ => WP c A (binaryOp op a b) Q E h₂ g₂) E h₁ g₁) E h g) :
    WP c A (eval (.BinOp l op r pos) env) Q E h g := fun _ => wpAny_BinOp (x.step fun _ _ e1 e2 q => q.stepAt e1 e2 fun _ _ e1 e2 q => q.at e1 e2)
theorem e_un {op r pos} {Q : PostV Value} (x : WP c A (eval r env) (fun a h₁ g₁ => WP c A (unaryOp op a) Q E h₁ g₁) E h g) :
    WP c A (eval (.UnaryOp op r pos) env) Q E h g := fun _ => UnaryOp_ (x.step fun _ _ e1 e2 q => q.at e1 e2)
theorem e_cmp {l op r pos} {Q : PostV Value} (x : WP c A (eval l env) (fun a h₁ g₁ => WP c A (eval r env) (fun b h₂ g₂ => WP c A (compareOp op a b) Q E h₂ g₂) E h₁ g₁) E h g)
    (hm : behindInMarks op r = false := by with_unfolding_all rfl) :
    WP c A (eval (.Compare l [op] [r] pos) env) Q E h g := fun _ => wpAny_Compare1 (x.step fun _ _ e1 e2 q => q.stepAt e1 e2 fun _ _ e1 e2 q => q.at e1 e2) hm
theorem e_ifexp {test body orelse pos} {Q : PostV Value}
    (x : WP c A (isTrue test env (eval test env)) (fun b h₁ g₁ => if b then WP c A (eval body env) Q E h₁ g₁ else WP c A (eval orelse env) Q E h₁ g₁) E h g) :
    WP c A (eval (.IfExp test body orelse pos) env) Q E h g := fun _ => IfExp_ (x.step fun b s' e1 e2 q => by cases b <;> exact q.at e1 e2)
theorem t_cmp {l op r pos whole} {Q : PostV Bool}
    (x : WP c A (eval l env) (fun a h₁ g₁ => WP c A (eval r env) (fun b h₂ g₂ => WP c A (compareOp op a b) (fun v h₃ g₃ => WP c A (truthy v) Q E h₃ g₃) E h₂ g₂) E h₁ g₁) E h g)
    (hm : behindInMarks op r = false := by with_unfolding_all rfl) : WP c A (isTrue (.Compare l [op] [r] pos) env whole) Q E h g :=
  fun _ => wpAny_isTrue_Compare1 (x.step fun _ _ e1 e2 q => q.stepAt e1 e2 fun _ _ e1 e2 q => q.stepAt e1 e2 fun _ _ e1 e2 q => q.at e1 e2) hm
theorem t_plain {e : Expr} {whole : Sem Value} {Q : PostV Bool} (x : WP c A whole (fun v h₁ g₁ => WP c A (truthy v) Q E h₁ g₁) E h g)
    (he : isTrue e env whole = (do let v ← whole; standAt e.pos; holding [v] (truthy v)) := by rfl) : WP c A (isTrue e env whole) Q E h g :=
  fun _ => isTrue_plain (x.step fun _ _ e1 e2 q => q.at e1 e2) he
theorem t_bool {b : Bool} {Q : PostV Bool} (x : Q b h g) : WP c A (truthy (.bool b)) Q E h g := fun _ => wpAny_truthy_bool ⟨rfl, rfl, x⟩
theorem t_int {i : Int} {t : Tok} {Q : PostV Bool} (x : Q (i != 0) h g) : WP c A (truthy (.int i t)) Q E h g := fun _ => truthy_int ⟨rfl, rfl, x⟩
/- names -/
theorem n_local {x : Str} {pos : Pos} {m : Str → Option Value} {v : Value} {Q : PostV Value} (hn : h.Ns env.locals m) (hv : m x = some v) (q : Q v h g)
    (hk : env.scope.kind = .function := by rfl) (hl : env.kindOf x = some .local := by rfl) (hd : (x == ("__debug__" : Str)) = false := by rfl) : WP c A (eval (.Name x pos) env) Q E h g :=
  fun _ => wpAny_Name (wpAny_loadName_local hk hl hn hv ⟨rfl, rfl, q⟩) hd
theorem n_cell {x : Str} {pos : Pos} {a : Addr} {v : Value} {Q : PostV Value} (hn : h.IsCell a (some v)) (hc : env.cells.lookup x = some a) (q : Q v h g)
    (hk : env.scope.kind = .function := by rfl) (hl : env.kindOf x = some .cell := by rfl) (hd : (x == ("__debug__" : Str)) = false := by rfl) : WP c A (eval (.Name x pos) env) Q E h g :=
  fun _ => wpAny_Name (wpAny_loadName_cell hk hl hc hn ⟨rfl, rfl, q⟩) hd
theorem n_free {x : Str} {pos : Pos} {a : Addr} {v : Value} {Q : PostV Value} (hn : h.IsCell a (some v)) (hc : env.cells.lookup x = some a) (q : Q v h g)
    (hk : env.scope.kind = .function := by rfl) (hl : env.kindOf x = some .free := by rfl) (hd : (x == ("__debug__" : Str)) = false := by rfl) (hd' : (x == ("__classdict__" : Str)) = false := by rfl) :
    WP c A (eval (.Name x pos) env) Q E h g :=
  fun _ => wpAny_Name (wpAny_loadName_free hk hl hc hn ⟨rfl, rfl, q⟩ hd') hd
theorem n_global {x : Str} {pos : Pos} {mg : Str → Option Value} {v : Value} {Q : PostV Value} (hn : h.Ns env.globals mg) (hv : mg x = some v) (q : Q v h g)
    (hk : env.scope.kind = .function := by rfl) (hl : env.kindOf x = some .globalImplicit := by rfl) (hd : (x == ("__debug__" : Str)) = false := by rfl) : WP c A (eval (.Name x pos) env) Q E h g :=
  fun _ => Calls.Name_function_global hk hl (Calls.loadGlobal_global hn hv ⟨rfl, rfl, q⟩) hd
theorem n_builtin {x : Str} {pos : Pos} {mg mb : Str → Option Value} {v : Value} {Q : PostV Value} (hn : h.Ns env.globals mg) (hmiss : mg x = none) (hb : h.Ns env.builtins mb) (hv : mb x = some v) (q : Q v h g)
    (hk : env.scope.kind = .function := by rfl) (hl : env.kindOf x = some .globalImplicit := by rfl) (hd : (x == ("__debug__" : Str)) = false := by rfl) : WP c A (eval (.Name x pos) env) Q E h g :=
  fun _ => Calls.Name_function_global hk hl (Calls.loadGlobal_builtin hn hmiss hb hv ⟨rfl, rfl, q⟩) hd
/- statements, with what is behind them -/
theorem x_nil {Q : PostV Flow} (q : Q .next h g) : WP c A (execs [] env) Q E h g := fun _ => wpAny_execs_nil ⟨rfl, rfl, q⟩
theorem x_cons {st rest} {Q : PostV Flow} (x : WP c A (exec st env) (fun f h' g' => match f with | .next => WP c A (execs rest env) Q E h' g' | f => Q f h' g') E h g) :
    WP c A (execs (st :: rest) env) Q E h g := fun _ => wpAny_execs_cons (x.step fun f s' e1 e2 q => by
      cases f <;> first | exact q.at e1 e2 | exact ⟨e1.1, e2, q⟩)
theorem x_assign {n pos' value pos rest} {Q : PostV Flow} (x : WP c A (eval value env) (fun v h₁ g₁ => WP c A (storeName env n v) (fun _ h₂ g₂ => WP c A (execs rest env) Q E h₂ g₂) E h₁ g₁) E h g)
    (hs : swapsWith value (some (.Name n pos')) pos.line env = pure false := by rfl) :
    WP c A (execs (.Assign [.Name n pos'] value pos :: rest) env) Q E h g :=
  x_cons fun _ => wpAny_Assign_Name (x.step fun _ _ e1 e2 q => q.stepAt e1 e2 fun _ _ e1 e2 q => ⟨e1.1, e2, q⟩) hs
theorem x_aug {n pos' op value pos rest} {Q : PostV Flow} (x : WP c A (loadName env n) (fun v h₁ g₁ => WP c A (eval value env) (fun v' h₁ g₁ => WP c A (inplaceOp op v v') (fun r h₁ g₁ => WP c A (storeName env n r) (fun _ h₂ g₂ => WP c A (execs rest env) Q E h₂ g₂) E h₁ g₁) E h₁ g₁) E h₁ g₁) E h g) :
    WP c A (execs (.AugAssign (.Name n pos') op value pos :: rest) env) Q E h g :=
  x_cons fun _ => wpAny_AugAssign_Name (x.step fun _ _ e1 e2 q => q.stepAt e1 e2 fun _ _ e1 e2 q => q.stepAt e1 e2 fun _ _ e1 e2 q => q.stepAt e1 e2 fun _ _ e1 e2 q => ⟨e1.1, e2, q⟩)
theorem x_if {test body orelse pos rest} {Q : PostV Flow} (x : WP c A (isTrue test env (eval test env)) (fun b h₁ g₁ => if b = true then WP c A (execs body env) (fun f h' g' => match f with | .next => WP c A (execs rest env) Q E h' g' | f => Q f h' g') E h₁ g₁
      else WP c A (execs orelse env) (fun f h' g' => match f with | .next => WP c A (execs rest env) Q E h' g' | f => Q f h' g') E h₁ g₁) E h g) :
    WP c A (execs (.If test body orelse pos :: rest) env) Q E h g :=
  x_cons fun _ => wpAny_If (x.step fun b s' e1 e2 q => by
    cases b
    · rw [if_neg Bool.false_ne_true] at q
      exact q.at e1 e2
    · rw [if_pos rfl] at q
      exact q.at e1 e2)
theorem x_ret {e pos rest} {Q : PostV Flow} (x : WP c A (eval e env) (fun v h' g' => Q (.ret v) h' g') E h g) : WP c A (execs (.Return (some e) pos :: rest) env) Q E h g :=
  x_cons fun _ => wpAny_Return_some (x.step fun _ _ e1 e2 q => ⟨e1.1, e2, q⟩)
theorem x_expr {e pos rest} {Q : PostV Flow} (x : WP c A (eval e env) (fun v h' g' => (∀ a, v ≠ .ref a) ∧ WP c A (execs rest env) Q E h' g') E h g)
    (hi : interactive env = false := by rfl) (hs : swapsWith e none pos.line env = pure false := by rfl) : WP c A (execs (.Expr e pos :: rest) env) Q E h g :=
  x_cons fun _ => wpAny_Expr (x.step fun v _ e1 e2 q => by cases v <;> first | exact ⟨e1.1, e2, q.2⟩ | exact absurd rfl (q.1 _)) hi hs
/- stores -/
theorem s_local {n : Str} {v : Value} {m : Str → Option Value} {Q : PostV Unit} (hn : h.Ns env.locals m)
    (q : ∀ h', h'.Ns env.locals (fun y => if y = n then some v else m y) → Heap.SameBut env.locals h h' → Q () h' g)
    (hl : env.kindOf n = some .local := by rfl) (hp : (env.scope.kind == .class || (env.scope.kind == .module && env.locals != env.globals)) = false := by rfl) :
    WP c A (storeName env n v) Q E h g := fun _ => wpAny_storeName_local hl hn (fun h' h1 h2 => ⟨rfl, rfl, q h' h1 h2⟩) hp
theorem s_cell {n : Str} {v : Value} {a : Addr} {v₀ : Option Value} {Q : PostV Unit} (hv : h.IsCell a v₀) (hc : env.cells.lookup n = some a)
    (q : ∀ h', h'.IsCell a (some v) → Heap.SameBut a h h' → Q () h' g)
    (hk : env.scope.kind = .function := by rfl) (hl : env.kindOf n = some .cell := by rfl) :
    WP c A (storeName env n v) Q E h g := fun _ => wpAny_storeName_cell hk hl hc hv (fun h' h1 h2 => ⟨rfl, rfl, q h' h1 h2⟩)
/- calls of names -/
theorem e_call {n np pos args} {Q : PostV Value} (x : WP c A (eval (.Name n np) env) (fun f h₁ g₁ => WP c A (callWith pos f [] (backTo pos (starEach args env)) []) Q E h₁ g₁) E h g) :
    WP c A (eval (.Call (.Name n np) args [] pos) env) Q E h g := fun _ => wpAny_Call_ofName (x.step fun _ _ e1 e2 q => q.at e1 e2)
end
end Mine
end

noncomputable section
open PySem PySem.W PySem.Calls PyProof.Rows
set_option Elab.async false
set_option maxRecDepth 100000
namespace Mine

/-- the text's defs, by their place -/
def recAt (i : Nat) : DefRec := match PySem.Challenge.pw_ul0008_01.main.body[i]? with
  | some (.FunctionDef n a b _ _ _ sc _ _ pos) => ⟨n, a, b, sc, pos⟩
  | _ => ⟨Str.empty, ⟨[], [], none, [], [], none, []⟩, [], { kind := .function, names := [], isGenerator := false, isCoroutine := false }, ⟨0, 0, 0, 0⟩⟩

/-- a def's object stands -/
structure FnAt (H : Heap) (mg : Str → Option Value) (i : Nat) (fa : Addr) (cd : Value) : Prop where
  nm : mg (recAt i).name = some (.ref fa)
  ob : ∃ o pm doc, H.get? fa = some o ∧ o.data = .func (docDef (recAt i).name (recAt i).params (recAt i).body (recAt i).scope pm cd doc) ∧ H.CodeRec cd (recAt i).name

/-- an object that is no code's table and no code -/
def Tame (o : Obj) : Prop := ∀ vs, o.data = .fields vs → o.cls ≠ .none ∧ ∀ q t, vs[1]? ≠ some (.str q t)

/-- a code's table: empty of the nested def at pos, or with its code -/
def TabOk (h : Heap) (P : Addr) (pos : Pos) (q : Str) : Prop :=
  ∃ ps, h.get? P = some (tabObj ps) ∧ TriplesOk ps.toList ∧ ∀ cv, codeAmong pos ps.toList = some cv →
    ∃ c o vs t, cv = .ref c ∧ h.get? c = some o ∧ o.data = .fields vs ∧ vs[1]? = some (.str q t)
theorem TabOk.mono {h h' : Heap} {P : Addr} {pos : Pos} {q : Str} (x : TabOk h P pos q) (k : ∀ b o, ¬ Tame o → h.get? b = some o → h'.get? b = some o) : TabOk h' P pos q := by
  obtain ⟨ps, h1, h2, h3⟩ := x
  refine ⟨ps, k _ _ (fun t => (t ps rfl).1 rfl) h1, h2, fun cv e => ?_⟩
  obtain ⟨c, o, vs, t, e1, e2, e4, e5⟩ := h3 cv e
  exact ⟨c, o, vs, t, e1, k _ _ (fun tm => (tm vs e4).2 q t e5) e2, e4, e5⟩

/-- where the nested defs stand -/
structure NestAt where
  P : Addr
  pos : Pos
  q : Str
abbrev Cell := Addr × (Obj → Prop)

/-- what stands still in the heap -/
structure Fix where
  H : Heap
  mg : Str → Option Value
  mb : Str → Option Value
  ns : List NestAt

def Tabs (F : Fix) (h : Heap) : Prop := ∀ n ∈ F.ns, TabOk h n.P n.pos n.q
theorem Tabs.mono {F : Fix} {h h' : Heap} (x : Tabs F h) (k : ∀ b o, ¬ Tame o → h.get? b = some o → h'.get? b = some o) : Tabs F h' := fun n hn => (x n hn).mono k

/-- a state that a call may start from -/
structure Ok (F : Fix) (h : Heap) (g : Gens) : Prop where
  base : ∀ b o, F.H.get? b = some o → h.get? b = some o
  tabs : Tabs F h
  bare : AllBare g
/-- what a call leaves: the old objects, but the tables -/
structure Grow (F : Fix) (h h' : Heap) : Prop where
  keep : ∀ b o, b ∉ F.ns.map (·.P) → h.get? b = some o → h'.get? b = some o
theorem Grow.trans {F : Fix} {h h' h'' : Heap} (x : Grow F h h') (y : Grow F h' h'') : Grow F h h'' := ⟨fun b o n e => y.keep b o n (x.keep b o n e)⟩
/-- the frame of a def at work: its names in L, its own cells cs, all of gg kept -/
structure Lg (F : Fix) (gg : Heap) (L : Addr) (m : Str → Option Value) (cs : List Cell) (h : Heap) : Prop where
  base : ∀ b o, F.H.get? b = some o → gg.get? b = some o
  keep : ∀ b o, gg.get? b = some o → h.get? b = some o
  tabs : Tabs F h
  ns : h.Ns L m
  off : gg.get? L = none
  own : ∀ p ∈ cs, (∃ o, h.get? p.1 = some o ∧ p.2 o) ∧ gg.get? p.1 = none ∧ p.1 ≠ L ∧ ∀ o, p.2 o → Tame o
  nd : (cs.map (·.1)).Nodup

inductive Up (a : Addr) (P P' : Obj → Prop) : List Cell → List Cell → Prop
  | here {r} : Up a P P' ((a, P) :: r) ((a, P') :: r)
  | there {q r r'} : Up a P P' r r' → Up a P P' (q :: r) (q :: r')
theorem Up.src {a : Addr} {P P' : Obj → Prop} : ∀ {cs cs' : List Cell}, Up a P P' cs cs' → (a, P) ∈ cs
  | _, _, .here => .head _
  | _, _, .there u => .tail _ u.src
theorem Up.adrs {a : Addr} {P P' : Obj → Prop} : ∀ {cs cs' : List Cell}, Up a P P' cs cs' → cs'.map (·.1) = cs.map (·.1)
  | _, _, .here => rfl
  | _, _, .there u => by rw [List.map_cons, List.map_cons, u.adrs]
theorem Up.mem {a : Addr} {P P' : Obj → Prop} : ∀ {cs cs' : List Cell}, Up a P P' cs cs' → (cs.map (·.1)).Nodup → ∀ p ∈ cs', p = (a, P') ∨ (p ∈ cs ∧ p.1 ≠ a)
  | _, _, .here, nd, p, hp => by
    rcases List.mem_cons.mp hp with rfl | hp
    · exact .inl rfl
    · refine .inr ⟨.tail _ hp, fun e => ?_⟩
      rw [List.map_cons, List.nodup_cons] at nd
      have q := List.mem_map_of_mem (f := fun x : Cell => x.1) hp
      rw [e] at q
      exact nd.1 q
  | _, _, .there u, nd, p, hp => by
    rw [List.map_cons, List.nodup_cons] at nd
    rcases List.mem_cons.mp hp with rfl | hp
    · exact .inr ⟨.head _, fun e => nd.1 (e ▸ List.mem_map_of_mem (f := fun x : Cell => x.1) u.src)⟩
    · rcases u.mem nd.2 p hp with e | ⟨h1, h2⟩
      · exact .inl e
      · exact .inr ⟨.tail _ h1, h2⟩

theorem tame_dict {o : Obj} {es : Array DictEntry} {n : Nat} (e : o.data = .dict es n) : Tame o := fun vs q => by rw [e] at q; cases q

namespace Lg
variable {F : Fix} {gg : Heap} {L : Addr} {m m' : Str → Option Value} {cs cs' : List Cell} {h h' : Heap}

theorem st (D : Lg F gg L m cs h) : ∀ b o, F.H.get? b = some o → h.get? b = some o := fun b o e => D.keep b o (D.base b o e)
theorem ok {g : Gens} (D : Lg F gg L m cs h) (hg : AllBare g) : Ok F h g := ⟨D.st, D.tabs, hg⟩
theorem get (D : Lg F gg L m cs h) {a : Addr} {P : Obj → Prop} (hm : (a, P) ∈ cs) : ∃ o, h.get? a = some o ∧ P o := (D.own _ hm).1
theorem getE (D : Lg F gg L m cs h) {a : Addr} {o : Obj} (hm : (a, (· = o)) ∈ cs) : h.get? a = some o := let ⟨_, h1, h2⟩ := D.get hm; h2 ▸ h1

/-- a name is stored -/
theorem store (D : Lg F gg L m cs h) (hn : h'.Ns L m') (hs : Heap.SameBut L h h') : Lg F gg L m' cs h' where
  base := D.base
  keep b o e := (hs.2 b (fun q => by rw [q, D.off] at e; cases e)).trans (D.keep b o e)
  tabs := D.tabs.mono fun b o ht e => (hs.2 b (fun q => by
    obtain ⟨o', es, ep, h1, h2, _⟩ := D.ns
    rw [q, h1] at e
    cases e
    exact ht (tame_dict h2))).trans e
  ns := hn
  off := D.off
  own p hp := let ⟨⟨o, h1, h2⟩, h3, h4, h5⟩ := D.own p hp; ⟨⟨o, (hs.2 _ h4).trans h1, h2⟩, h3, h4, h5⟩
  nd := D.nd
/-- a cell is changed -/
theorem upd (D : Lg F gg L m cs h) {a : Addr} {P P' : Obj → Prop} (u : Up a P P' cs cs') (hs : Heap.SameBut a h h') (ho : ∃ o, h'.get? a = some o ∧ P' o) (ht : ∀ o, P' o → Tame o) : Lg F gg L m cs' h' := by
  obtain ⟨⟨oa, a1, a2⟩, a3, a4, a5⟩ := D.own _ u.src
  refine ⟨D.base, fun b o e => (hs.2 b (fun q => by rw [q, a3] at e; cases e)).trans (D.keep b o e), D.tabs.mono fun b o hn e => (hs.2 b (fun q => by
    rw [q, a1] at e
    cases e
    exact hn (a5 _ a2))).trans e, D.ns.sameBut hs (Ne.symm a4), D.off, fun p hp => ?_, by rw [u.adrs]; exact D.nd⟩
  rcases u.mem D.nd p hp with rfl | ⟨h1, h2⟩
  · exact ⟨ho, a3, a4, ht⟩
  · obtain ⟨⟨o, e1, e2⟩, e3, e4, e5⟩ := D.own p h1
    exact ⟨⟨o, (hs.2 _ h2).trans e1, e2⟩, e3, e4, e5⟩
/-- all stands -/
theorem more (D : Lg F gg L m cs h) (k : ∀ b o, h.get? b = some o → h'.get? b = some o) : Lg F gg L m cs h' where
  base := D.base
  keep b o e := k _ _ (D.keep b o e)
  tabs := D.tabs.mono fun b o _ e => k b o e
  ns := D.ns.keeps k
  off := D.off
  own p hp := let ⟨⟨o, h1, h2⟩, r⟩ := D.own p hp; ⟨⟨o, k _ _ h1, h2⟩, r⟩
  nd := D.nd
theorem fresh_off (D : Lg F gg L m cs h) {a : Addr} (ha : h.get? a = none) : gg.get? a = none ∧ a ≠ L ∧ a ∉ cs.map (·.1) := by
  refine ⟨?_, fun q => ?_, fun q => ?_⟩
  · cases e : gg.get? a with
    | none => rfl
    | some o => rw [D.keep _ _ e] at ha; cases ha
  · obtain ⟨o, _, _, h1, _⟩ := D.ns
    rw [q, h1] at ha; cases ha
  · obtain ⟨p, hp, e⟩ := List.mem_map.mp q
    obtain ⟨⟨o, h1, _⟩, _⟩ := D.own p hp
    rw [e, ha] at h1; cases h1
/-- a new object enters -/
theorem add (D : Lg F gg L m cs h) {a : Addr} {P : Obj → Prop} (k : ∀ b o, h.get? b = some o → h'.get? b = some o) (ha : h.get? a = none) (ho : ∃ o, h'.get? a = some o ∧ P o) (ht : ∀ o, P o → Tame o) :
    Lg F gg L m ((a, P) :: cs) h' := by
  obtain ⟨f1, f2, f3⟩ := D.fresh_off ha
  have D' := D.more k
  refine ⟨D'.base, D'.keep, D'.tabs, D'.ns, D'.off, fun p hp => ?_, ?_⟩
  · rcases List.mem_cons.mp hp with rfl | hp
    · exact ⟨ho, f1, f2, ht⟩
    · exact D'.own p hp
  · rw [List.map_cons, List.nodup_cons]
    exact ⟨f3, D.nd⟩
theorem get_size {h : Heap} : h.get? h.objs.size = none := by
  cases e : h.get? h.objs.size with
  | none => rfl
  | some o => exact absurd (Heap.lt_size e) (Nat.lt_irrefl _)
theorem push (D : Lg F gg L m cs h) (o : Obj) (hf : o.isFreed = false := by rfl) (ht : Tame o := by (intro vs q; first | (cases q; done) | (cases q; exact ⟨by simp, by simp⟩))) :
    Lg F gg L m ((h.objs.size, (· = o)) :: cs) (h.push o) :=
  D.add (fun _ _ e => Heap.get?_push_of_some _ e) get_size ⟨o, Heap.get?_push_size _ hf, rfl⟩ fun _ q => q ▸ ht
/-- cells forgotten -/
theorem drop (D : Lg F gg L m cs h) (hs : cs'.Sublist cs) : Lg F gg L m cs' h where
  base := D.base
  keep := D.keep
  tabs := D.tabs
  ns := D.ns
  off := D.off
  own p hp := D.own p (hs.subset hp)
  nd := (hs.map _).nodup D.nd
theorem weak (D : Lg F gg L m cs h) {a : Addr} {P P' : Obj → Prop} (u : Up a P P' cs cs') (ho : ∀ o, P o → P' o) (ht : ∀ o, P' o → Tame o) : Lg F gg L m cs' h where
  base := D.base
  keep := D.keep
  tabs := D.tabs
  ns := D.ns
  off := D.off
  own p hp := by
    rcases u.mem D.nd p hp with rfl | ⟨h1, h2⟩
    · obtain ⟨⟨oa, a1, a2⟩, a3, a4, a5⟩ := D.own _ u.src
      exact ⟨⟨oa, a1, ho _ a2⟩, a3, a4, ht⟩
    · exact D.own p h1
  nd := by rw [u.adrs]; exact D.nd
end Lg

/-- the frame at a def's entry -/
theorem hideAll_get? (h : Heap) (l : List Addr) (b : Addr) : (b ∉ l → (hideAll h l).get? b = h.get? b) := fun hb => by
  cases e : h.get? b with
  | some o => exact hideAll_get _ e hb
  | none =>
    cases q : (hideAll h l).get? b with
    | none => rfl
    | some o => rw [of_hideAll _ q] at e; cases e
/-- the base of a call: the whole heap without the tables -/
abbrev baseOf (F : Fix) (h : Heap) : Heap := hideAll h (F.ns.map (·.P))
structure Fix.Sep (F : Fix) : Prop where
  apart : ∀ b ∈ F.ns.map (·.P), F.H.get? b = none
  uniq : ∀ n ∈ F.ns, ∀ n' ∈ F.ns, n'.P = n.P → n' = n

/-- the base of a call that may change some cells -/
abbrev baseBut (F : Fix) (h : Heap) (as : List Addr) : Heap := hideAll h (F.ns.map (·.P) ++ as)
theorem baseOf_eq (F : Fix) (h : Heap) : baseOf F h = baseBut F h [] := by unfold baseBut; rw [List.append_nil]
theorem Lg.enterB {F : Fix} (hF : F.Sep) {h h₁ : Heap} {g : Gens} {L : Addr} {m : Str → Option Value} {cs : List Cell} (O : Ok F h g) (hn : h₁.Ns L m) (hL : h.get? L = none) (k : ∀ b o, h.get? b = some o → h₁.get? b = some o)
    (hcs : ∀ p ∈ cs, (∃ o, h.get? p.1 = some o ∧ p.2 o) ∧ F.H.get? p.1 = none ∧ ∀ o, p.2 o → Tame o) (hnd : (cs.map (·.1)).Nodup) :
    Lg F (baseBut F h (cs.map (·.1))) L m cs h₁ where
  base b o e := hideAll_get _ (O.base b o e) fun hb => by
    rcases List.mem_append.mp hb with hb | hb
    · rw [hF.apart b hb] at e; cases e
    · obtain ⟨p, hp, rfl⟩ := List.mem_map.mp hb
      rw [(hcs p hp).2.1] at e; cases e
  keep b o e := k b o (of_hideAll _ e)
  tabs := O.tabs.mono fun b o _ e => k b o e
  ns := hn
  off := by
    cases q : (baseBut F h (cs.map (·.1))).get? L with
    | none => rfl
    | some o => rw [of_hideAll _ q] at hL; cases hL
  own p hp := by
    obtain ⟨⟨o, h1, h2⟩, h3, h4⟩ := hcs p hp
    refine ⟨⟨o, k _ _ h1, h2⟩, hideAll_none _ (List.mem_append_right _ (List.mem_map_of_mem hp)), fun q => ?_, h4⟩
    rw [q, hL] at h1; cases h1
  nd := hnd
theorem Lg.enter {F : Fix} (hF : F.Sep) {h h₁ : Heap} {g : Gens} {L : Addr} {m : Str → Option Value} (O : Ok F h g) (hn : h₁.Ns L m) (hL : h.get? L = none) (k : ∀ b o, h.get? b = some o → h₁.get? b = some o) :
    Lg F (baseOf F h) L m [] h₁ := by
  rw [baseOf_eq]
  exact Lg.enterB (cs := []) hF O hn hL k (fun _ hp => nomatch hp) List.nodup_nil
theorem Lg.grow {F : Fix} {h h' : Heap} {L : Addr} {m : Str → Option Value} {cs : List Cell} (D : Lg F (baseOf F h) L m cs h') : Grow F h h' :=
  ⟨fun b o hb e => D.keep b o (hideAll_get _ e hb)⟩
theorem Lg.after {F : Fix} {gg h h' : Heap} {L : Addr} {m : Str → Option Value} {cs : List Cell} (D : Lg F gg L m cs h) (G : Grow F h h') (hT : Tabs F h')
    (hns : ∀ b ∈ F.ns.map (·.P), gg.get? b = none ∧ b ≠ L ∧ b ∉ cs.map (·.1)) : Lg F gg L m cs h' where
  base := D.base
  keep b o e := G.keep b o (fun q => by rw [(hns b q).1] at e; cases e) (D.keep b o e)
  tabs := hT
  ns := let ⟨o, es, ep, h1, r⟩ := D.ns; ⟨o, es, ep, G.keep _ _ (fun q => (hns _ q).2.1 rfl) h1, r⟩
  off := D.off
  own p hp := let ⟨⟨o, h1, h2⟩, r⟩ := D.own p hp; ⟨⟨o, G.keep _ _ (fun q => (hns _ q).2.2 (List.mem_map_of_mem hp)) h1, h2⟩, r⟩
  nd := D.nd
/-- the tables lie off the frame by themselves: what stands there is a table -/
theorem Lg.tabs_off {F : Fix} {gg h : Heap} {L : Addr} {m : Str → Option Value} {cs : List Cell} (D : Lg F gg L m cs h) (hg : ∀ b ∈ F.ns.map (·.P), gg.get? b = none) :
    ∀ b ∈ F.ns.map (·.P), gg.get? b = none ∧ b ≠ L ∧ b ∉ cs.map (·.1) := fun b hb => by
  obtain ⟨n, hn, rfl⟩ := List.mem_map.mp hb
  obtain ⟨ps, h1, _⟩ := D.tabs n hn
  refine ⟨hg _ hb, fun q => ?_, fun q => ?_⟩
  · obtain ⟨o, es, ep, e1, e2, _⟩ := D.ns
    rw [← q, h1] at e1; cases e1; cases e2
  · obtain ⟨p, hp, e⟩ := List.mem_map.mp q
    obtain ⟨⟨o, e1, e2⟩, _, _, e5⟩ := D.own p hp
    rw [e, h1] at e1; cases e1
    exact (e5 _ e2 _ rfl).1 rfl
theorem base_off {F : Fix} {h : Heap} : ∀ b ∈ F.ns.map (·.P), (baseOf F h).get? b = none := fun _ hb => hideAll_none _ hb
theorem base_offB {F : Fix} {h : Heap} {as : List Addr} : ∀ b ∈ F.ns.map (·.P), (baseBut F h as).get? b = none := fun _ hb => hideAll_none _ (List.mem_append_left _ hb)
theorem Lg.call {F : Fix} {h₀ h h' : Heap} {L : Addr} {m : Str → Option Value} {cs : List Cell} (D : Lg F (baseOf F h₀) L m cs h) (G : Grow F h h') (hT : Tabs F h') : Lg F (baseOf F h₀) L m cs h' :=
  D.after G hT (D.tabs_off base_off)
theorem Lg.callB {F : Fix} {h₀ h h' : Heap} {L : Addr} {m : Str → Option Value} {as : List Addr} {cs : List Cell} (D : Lg F (baseBut F h₀ as) L m cs h) (G : Grow F h h') (hT : Tabs F h') : Lg F (baseBut F h₀ as) L m cs h' :=
  D.after G hT (D.tabs_off base_offB)
/-- what a call leaves: the old objects, but the tables and some cells -/
structure GrowBut (F : Fix) (as : List Addr) (h h' : Heap) : Prop where
  keep : ∀ b o, b ∉ F.ns.map (·.P) → b ∉ as → h.get? b = some o → h'.get? b = some o
theorem Lg.growB {F : Fix} {h h' : Heap} {L : Addr} {m : Str → Option Value} {as : List Addr} {cs : List Cell} (D : Lg F (baseBut F h as) L m cs h') : GrowBut F as h h' :=
  ⟨fun b o hb ha e => D.keep b o (hideAll_get _ e fun q => (List.mem_append.mp q).elim hb ha)⟩
/-- a callee has changed one cell -/
theorem Lg.callUp {F : Fix} {gg h h' : Heap} {L : Addr} {m : Str → Option Value} {cs cs' : List Cell} {a : Addr} {P P' : Obj → Prop} (D : Lg F gg L m cs h) (hg : ∀ b ∈ F.ns.map (·.P), gg.get? b = none) (u : Up a P P' cs cs') (G : GrowBut F [a] h h') (hT : Tabs F h')
    (ho : ∃ o, h'.get? a = some o ∧ P' o) (ht : ∀ o, P' o → Tame o) : Lg F gg L m cs' h' := by
  have T := D.tabs_off hg
  obtain ⟨⟨oa, a1, a2⟩, a3, a4, a5⟩ := D.own _ u.src
  refine ⟨D.base, fun b o e => ?_, hT, ?_, D.off, fun p hp => ?_, by rw [u.adrs]; exact D.nd⟩
  · refine G.keep b o (fun q => by rw [(T b q).1] at e; cases e) (fun q => ?_) (D.keep b o e)
    rw [List.mem_singleton.mp q, a3] at e; cases e
  · obtain ⟨o, es, ep, h1, r⟩ := D.ns
    exact ⟨o, es, ep, G.keep _ _ (fun q => (T _ q).2.1 rfl) (fun q => a4 (List.mem_singleton.mp q).symm) h1, r⟩
  · rcases u.mem D.nd p hp with rfl | ⟨h1, h2⟩
    · exact ⟨ho, a3, a4, ht⟩
    · obtain ⟨⟨o, e1, e2⟩, e3, e4, e5⟩ := D.own p h1
      exact ⟨⟨o, G.keep _ _ (fun q => (T _ q).2.2 (List.mem_map_of_mem (f := fun x : Cell => x.1) h1)) (fun q => h2 (List.mem_singleton.mp q)) e1, e2⟩, e3, e4, e5⟩
/-- what a cell's address was ahead of the call -/
theorem Lg.was {F : Fix} {h h' : Heap} {L : Addr} {m : Str → Option Value} {cs : List Cell} (D : Lg F (baseOf F h) L m cs h') {a : Addr} {P : Obj → Prop} (hm : (a, P) ∈ cs) : h.get? a = none := by
  have h1 := (D.own _ hm).2.1
  rwa [hideAll_get? _ _ _ fun hb => (D.tabs_off base_off a hb).2.2 (List.mem_map_of_mem (f := fun x : Cell => x.1) hm)] at h1
end Mine
end

noncomputable section
open PySem PySem.W PySem.Calls PyProof.Rows
set_option Elab.async false
set_option maxRecDepth 100000
set_option linter.unusedVariables false
namespace Mine
section
variable {c : Cx} {F : Fix} {A : Around} {n : Nat} {E : PostV Value} {h : Heap} {g : Gens} {env : Env}

/-- what the static heap says -/
structure St (F : Fix) : Prop where
  sep : F.Sep
  g : F.H.Ns mainGlobals F.mg
  b : F.H.Ns builtinsNs F.mb
  blt : ∀ x : Str, x ≠ "__name__" → F.mb x = bootBuiltins x
  nolimit : F.H.NoLimit
  nodigits : ∃ mc, F.H.Ns cStatics mc ∧ mc "sys.int_max_str_digits" = none
  bmain : ∃ bm ob, F.mg "__builtins__" = some (.ref bm) ∧ bm ≠ builtinsNs ∧ F.H.get? bm = some ob ∧ ob.cls = .type "module" ∧ ob.dict = some builtinsNs ∧ ob.data = .plain
  free : ∀ x ∈ (["sum", "list", "range", "len", "str", "enumerate", "reversed", "divmod", "min", "sorted", "int", "ValueError", "ZeroDivisionError"] : List Str), F.mg x = none

theorem n_blt {x : Str} {pos : Pos} {v : Value} {Q : PostV Value} (S : St F) (hs : ∀ b o, F.H.get? b = some o → h.get? b = some o) (hb : bootBuiltins x = some v) (q : Q v h g)
    (hx : (["sum", "list", "range", "len", "str", "enumerate", "reversed", "divmod", "min", "sorted", "int", "ValueError", "ZeroDivisionError"] : List Str).contains x = true := by kernel_rfl)
    (hne : (x == ("__name__" : Str)) = false := by kernel_rfl)
    (hg : env.globals = mainGlobals := by rfl) (hbl : env.builtins = builtinsNs := by rfl)
    (hk : env.scope.kind = .function := by rfl) (hl : env.kindOf x = some .globalImplicit := by rfl) (hd : (x == ("__debug__" : Str)) = false := by rfl) : WP c A (eval (.Name x pos) env) Q E h g :=
  n_builtin (hg ▸ S.g.keeps hs) (S.free _ (List.contains_iff_mem.mp hx)) (hbl ▸ S.b.keeps hs) ((S.blt x fun e => by rw [e] at hne; cases hne).trans hb) q hk hl hd

/-- a def of the text is called by place -/
theorem call_fn {i : Nat} {fa : Addr} {cd : Value} {nm : Str} {ps : Arguments} {bd : List Stmt} {sc : Scope} {pos : Pos} {vals : List Value} {binds : List (Str × Value)} {Q : PostV Value}
    (S : St F) (O : Ok F h g) (hA : AOk A n) (hn : n ≤ 50) (hf : FnAt F.H F.mg i fa cd)
    (hrec : recAt i = ⟨nm, ps, bd, sc, pos⟩)
    (hbind : ∀ pm doc, bindArgs (docDef nm ps bd sc pm cd doc) ⟨vals, []⟩ = pure binds)
    (hloc : (binds.all fun x => decide (sc.names.lookup x.1 = some .local)) = true)
    (hcell : (sc.names.all fun x => x.2 != .cell) = true)
    (x : ∀ L h₁, Lg F (baseOf F h) L (fun y => binds.reverse.lookup y) [] h₁ → AOk (A.deeper (envOf nm sc L fa cd)) (n + 1) →
      WP c (A.deeper (envOf nm sc L fa cd)) (execs bd (envOf nm sc L fa cd)) (fun f h' g' => Q (match f with | .ret v => v | _ => .none) h' g')
        (fun e h' g' => WP c (A.deeper (envOf nm sc L fa cd)) (leaving (envOf nm sc L fa cd) e) (fun _ h'' g'' => E e h'' g'') E h' g') h₁ g)
    (hco : sc.isCoroutine = false := by rfl) (hgen : sc.isGenerator = false := by rfl) (hk : sc.kind = .function := by rfl) :
    WP c A (call (.ref fa) vals) Q E h g := by
  intro tk
  obtain ⟨o, pm, doc, h1, h2, h3⟩ := hf.ob
  rw [hrec] at h2 h3
  refine wpAny_call (call_plain (s := ⟨h, g, c.d, tk + (c.b + 1), c.o⟩) (hA.room (by omega)) (O.base _ _ h1) h2 (S.nolimit.keeps O.base) (h3.keeps O.base) (hbind pm doc) (locs hloc) (fun h₁ F₁ => ?_) hco hgen hk (fun y hy q => ?_))
  · have D := Lg.enter S.sep O F₁.ns Lg.get_size F₁.keep
    have h1 : c.b + 1 ≤ tk + (c.b + 1) + binds.length := by omega
    refine wpAny_with_toks (n := c.b + 1) h1 (wpAny_mono ((x _ h₁ D (hA.deeper _)).at (s := ⟨h₁, g, c.d, tk + (c.b + 1) + binds.length, c.o⟩) ⟨rfl, h1⟩ rfl) (fun f s' ⟨e1, e2, q⟩ _ => ⟨e1, e2, q⟩) fun e s' ⟨e1, e2, q⟩ ht => ?_)
    exact wpAny_mono (q.at ⟨e1, ht⟩ e2) (fun _ _ z => z) fun _ _ z => z
  · have := List.all_eq_true.mp hcell y hy
    rw [q] at this; cases this

theorem a_nil {Q : PostV (List Value)} (x : Q [] h g) : WP c A (spliced []) Q E h g := fun _ => Calls.spliced_nil ⟨rfl, rfl, x⟩
theorem a_cons {t : Sem Value} {rest : List (Bool × Sem Value)} {Q : PostV (List Value)} (x : WP c A t (fun v h₁ g₁ => WP c A (spliced rest) (fun vs h₂ g₂ => Q (v :: vs) h₂ g₂) E h₁ g₁) E h g) :
    WP c A (spliced ((false, t) :: rest)) Q E h g := fun _ => Calls.spliced_cons (x.step fun _ _ e1 e2 q => q.stepAt e1 e2 fun _ _ e1 e2 q => ⟨e1.1, e2, q⟩)

theorem cw_fn {i : Nat} {fa : Addr} {cd : Value} {pos : Pos} {t : Sem Value} {rest : List (Bool × Sem Value)} {Q : PostV Value} (hf : FnAt F.H F.mg i fa cd)
    (x : WP c A (spliced ((false, t) :: rest)) (fun vs h₁ g₁ => (∀ b o, F.H.get? b = some o → h₁.get? b = some o) ∧ WP c A (call (.ref fa) vs) Q E h₁ g₁) E h g) :
    WP c A (callWith pos (.ref fa) [] ((false, t) :: rest) []) Q E h g := by
  intro tk
  obtain ⟨o, pm, doc, h1, h2, h3⟩ := hf.ob
  refine Calls.callWith_function (o := o) (fd := docDef (recAt i).name (recAt i).params (recAt i).body (recAt i).scope pm cd doc) (Calls.evalArgs_plain ?_)
  exact x.step fun vs s' e1 e2 q => ⟨⟨q.1 _ _ h1, h2⟩, q.2.at e1 e2⟩
theorem cw_builtin {id : String} {pos : Pos} {first : List Value} {t : Sem Value} {rest : List (Bool × Sem Value)} {Q : PostV Value} (hplain : ((false, t) :: rest).any (·.1) = false)
    (x : WP c A (spliced ((false, t) :: rest)) (fun vs h₁ g₁ => WP c A (call (.builtin id) (first ++ vs)) Q E h₁ g₁) E h g) :
    WP c A (callWith pos (.builtin id) first ((false, t) :: rest) []) Q E h g := fun _ =>
  Calls.callWith_builtin hplain (Calls.evalArgs_plain (x.step fun vs s' e1 e2 q => q.at e1 e2))
theorem cw_builtin0 {id : String} {pos : Pos} {first : List Value} {Q : PostV Value}
    (x : WP c A (call (.builtin id) (first ++ [])) Q E h g) :
    WP c A (callWith pos (.builtin id) first [] []) Q E h g := fun tk =>
  Calls.callWith_builtin rfl (PySem.evalArgs_none (x tk))
/- ints -/
theorem o_add {a b : Int} {t u : Tok} {Q : PostV Value} (q : ∀ t, Q (.int (a + b) t) h g) : WP c A (binaryOp .Add (.int a t) (.int b u)) Q E h g := fun _ => wpAny_add_int ⟨rfl, rfl, q _⟩
theorem o_sub {a b : Int} {t u : Tok} {Q : PostV Value} (q : ∀ t, Q (.int (a - b) t) h g) : WP c A (binaryOp .Sub (.int a t) (.int b u)) Q E h g := fun _ => sub_int ⟨rfl, rfl, q _⟩
theorem o_mul {a b : Int} {t u : Tok} {Q : PostV Value} (hm : IntMulOk a b) (q : ∀ t, Q (.int (a * b) t) h g) : WP c A (binaryOp .Mult (.int a t) (.int b u)) Q E h g := fun _ => mul_int ⟨rfl, rfl, q _⟩ hm
theorem o_le {a b : Int} {t u : Tok} {Q : PostV Value} (q : Q (.bool (decide (a ≤ b))) h g) : WP c A (compareOp .LtE (.int a t) (.int b u)) Q E h g := fun _ => le_int ⟨rfl, rfl, q⟩
theorem o_lt {a b : Int} {t u : Tok} {Q : PostV Value} (q : Q (.bool (decide (a < b))) h g) : WP c A (compareOp .Lt (.int a t) (.int b u)) Q E h g := fun _ => wpAny_lt_int ⟨rfl, rfl, q⟩
theorem o_eq {a b : Int} {t u : Tok} {Q : PostV Value} (q : Q (.bool (a == b)) h g) : WP c A (compareOp .Eq (.int a t) (.int b u)) Q E h g := fun _ => wpAny_eq_int ⟨rfl, rfl, q⟩
theorem o_bits {a : Int} {t : Tok} {Q : PostV Value} (q : ∀ t, Q (.int (Builtin.Int.intBits a) t) h g) : WP c A (call (.builtin "int.bit_length") [.int a t]) Q E h g := fun _ => call_int_bit_length ⟨rfl, rfl, q _⟩
theorem o_shl {a b : Int} {t u : Tok} {Q : PostV Value} (hb : 0 ≤ b) (hsz : (Builtin.Int.intBits a : Int) + b ≤ 2 ^ 27) (q : ∀ t, Q (.int (a * 2 ^ b.toNat) t) h g) : WP c A (binaryOp .LShift (.int a t) (.int b u)) Q E h g := fun _ => lshift_int hb hsz ⟨rfl, rfl, q _⟩
theorem o_shr {a b : Int} {t u : Tok} {Q : PostV Value} (hb : 0 ≤ b) (q : ∀ t, Q (.int (a.fdiv (2 ^ b.toNat)) t) h g) : WP c A (binaryOp .RShift (.int a t) (.int b u)) Q E h g := fun _ => rshift_int hb ⟨rfl, rfl, q _⟩
theorem o_xor {a b : Int} {t u : Tok} {Q : PostV Value} (q : ∀ t, Q (.int (Builtin.bitXor a b) t) h g) : WP c A (binaryOp .BitXor (.int a t) (.int b u)) Q E h g := fun _ => xor_int ⟨rfl, rfl, q _⟩
theorem o_neg {a : Int} {t : Tok} {Q : PostV Value} (q : ∀ t, Q (.int (-a) t) h g) : WP c A (unaryOp .USub (.int a t)) Q E h g := fun _ => neg_int ⟨rfl, rfl, q _⟩
theorem o_inv {a : Int} {t : Tok} {Q : PostV Value} (q : ∀ t, Q (.int (Builtin.bitNot a) t) h g) : WP c A (unaryOp .Invert (.int a t)) Q E h g := fun _ => invert_int ⟨rfl, rfl, q _⟩
theorem o_divmod {a b : Int} {t u : Tok} {Q : PostV Value} (hb : b ≠ 0) (hp : Builtin.divisionGoesByPylong a b = false)
    (q : ∀ t u, Q (.ref h.objs.size) (h.push { cls := .type "tuple", data := .seq #[.int (a.fdiv b) t, .int (a.fmod b) u] }) g) : WP c A (call (.builtin "divmod") [.int a t, .int b u]) Q E h g :=
  fun _ => divmod_int hb ⟨rfl, rfl, q _ _⟩ (.inl hp)
/- methods of built-in types -/
theorem e_meth {o : Expr} {name : Str} {apos pos : Pos} {args : List Expr} {T id : String} {Q : PostV Value}
    (pa : PlainAttrs T) (slot : Slot T name id) (hty : typeOf (.builtin id) = pure (.type "method_descriptor"))
    (x : WP c A (eval o env) (fun ov h₁ g₁ => (∀ s : Shared, s.heap = h₁ → s.TypeIs ov T) ∧ (∀ a, ov = .ref a → ∃ ob, h₁.get? a = some ob ∧ ob.dict = none) ∧
      WP c A (callWith pos (.builtin id) [ov] (backTo pos (starEach args env)) []) Q E h₁ g₁) E h g)
    (hbase : attributeBase o name env (eval o env) = eval o env := by rfl)
    (hfew : ((backTo pos (starEach args env)).all (fun x => !x.1) && (backToKw pos (keywordEach [] env)).all (fun x => x.1.isSome)
      && decide (args.length + ([] : List Keyword).length + (if ([] : List Keyword).isEmpty then 0 else 1) < 30)) = true := by rfl)
    (hline : (apos.endLine == pos.line) = true := by rfl) :
    WP c A (eval (.Call (.Attribute o name apos) args [] pos) env) Q E h g := fun _ =>
  wpAny_Call_method hbase hfew hline pa slot hty (x.step fun ov s' e1 e2 q => ⟨q.1 s' rfl, q.2.1, q.2.2.at e1 e2⟩)
theorem e_bits {o : Expr} {apos pos : Pos} {Q : PostV Value} (x : WP c A (eval o env) (fun v h₁ g₁ => ∃ a t, v = .int a t ∧ ∀ t, Q (.int (Builtin.Int.intBits a) t) h₁ g₁) E h g)
    (hbase : attributeBase o (Str.ofString "bit_length") env (eval o env) = eval o env := by rfl) (hline : (apos.endLine == pos.line) = true := by rfl) :
    WP c A (eval (.Call (.Attribute o (Str.ofString "bit_length") apos) [] [] pos) env) Q E h g :=
  e_meth PySem.F.plainAttrs_int slot_int_bit_length type_int_bit_length (x.monoQ fun v h' g' q => by
    obtain ⟨a, t, rfl, q⟩ := q
    exact ⟨fun s' _ => typeIs_int s' a t, (fun _ q => by cases q), cw_builtin0 (o_bits q)⟩) hbase rfl hline
end
end Mine
end

noncomputable section
open PySem PySem.W PySem.Calls PyProof.Rows
set_option Elab.async false
set_option maxRecDepth 100000
set_option linter.unusedVariables false
set_option pp.deepTerms false
set_option pp.deepTerms.threshold 6
set_option pp.maxSteps 2000
namespace Mine
section
variable {c : Cx} {F : Fix} {A : Around} {n : Nat} {E : PostV Value} {h : Heap} {g : Gens} {env : Env}
theorem div2n1n {fa : Addr} {cd : Value} (S : St F) (O : Ok F h g) (hA : AOk A n) (hn : n ≤ 40) (hf : FnAt F.H F.mg 6 fa cd) {a b k : Int} {t u v : Tok} {tl : Tok} (hb : b ≠ 0) (hp : Builtin.divisionGoesByPylong a b = false)
    (hl : F.mg "_DIV_LIMIT" = some (.int 4000 tl)) (hk : (Builtin.Int.intBits a : Int) - k ≤ 4000) :
    WP c A (call (.ref fa) [.int a t, .int b u, .int k v]) (fun r h' g' => Grow F h h' ∧ Ok F h' g' ∧ ∃ x t u, r = .ref x ∧ h.get? x = none ∧ h'.get? x = some { cls := .type "tuple", data := .seq #[.int (a.fdiv b) t, .int (a.fmod b) u] }) E h g := by
  refine call_fn (binds := [(Str.ofString "a", .int a t), (Str.ofString "b", .int b u), (Str.ofString "n", .int k v)]) S O hA (le0 hn) hf rfl (fun _ _ => ?_) ?_ ?_ fun L h₁ D hA' => ?_
  · kernel_rfl
  · kernel_rfl
  · kernel_rfl
  refine x_if ?_
  refine t_cmp ?_
  refine e_bin ?_
  refine e_bits ?_
  refine n_local D.ns rfl ?_
  refine ⟨_, _, rfl, fun t => ?_⟩
  refine n_local D.ns rfl ?_
  refine o_sub fun t => ?_
  refine n_global (S.g.keeps D.st) hl ?_
  refine o_le ?_
  refine t_bool ?_
  rw [if_pos (decide_eq_true hk)]
  refine x_ret ?_
  refine e_call ?_
  refine n_blt S D.st boot_divmod ?_
  refine cw_builtin rfl (a_cons ?_)
  refine n_local D.ns rfl ?_
  refine a_cons ?_
  refine n_local D.ns rfl ?_
  refine a_nil ?_
  refine o_divmod hb hp fun t u => ?_
  have D' := D.push { cls := .type "tuple", data := .seq #[.int (a.fdiv b) t, .int (a.fmod b) u] }
  exact ⟨D'.grow, D'.ok O.bare, _, _, _, rfl, D'.was (.head _), D'.getE (.head _)⟩
end
end Mine
end

noncomputable section
open PySem PySem.W PySem.Calls PyProof.Rows
set_option Elab.async false
set_option maxRecDepth 100000
set_option linter.unusedVariables false
namespace Mine

/-- a list's object, weakly -/
def LsA (items : Array Value) (o : Obj) : Prop := o.cls = .type "list" ∧ ∃ n, o.data = .seq items n
/-- a list's object, wholly -/
def PlA (items : Array Value) (o : Obj) : Prop := ∃ n, o = { cls := .type "list", dict := none, data := .seq items n, slots := #[] }
theorem PlA.ls {items : Array Value} {o : Obj} (x : PlA items o) : LsA items o := let ⟨n, e⟩ := x; e ▸ ⟨rfl, n, rfl⟩
theorem LsA.tame {items : Array Value} {o : Obj} (x : LsA items o) : Tame o := let ⟨_, _, e⟩ := x; fun vs q => by rw [e] at q; cases q
theorem PlA.tame {items : Array Value} {o : Obj} (x : PlA items o) : Tame o := x.ls.tame
abbrev LitA (l : Addr) (i : Nat) (o : Obj) : Prop := o.cls = .type "list_iterator" ∧ o.data = .fields #[.ref l, .int i 0]
abbrev CellA (v : Option Value) (o : Obj) : Prop := o.data = .cell v
theorem cell_tame {v : Option Value} {o : Obj} (x : CellA v o) : Tame o := fun vs q => by rw [x] at q; cases q
theorem LitA.tame {l : Addr} {i : Nat} {o : Obj} (x : LitA l i o) : Tame o := fun vs q => by rw [x.2] at q; cases q; exact ⟨by rw [x.1]; simp, by simp⟩

inductive Rm (a : Addr) (P : Obj → Prop) : List Cell → List Cell → Prop
  | here {r} : Rm a P ((a, P) :: r) r
  | there {q r r'} : Rm a P r r' → Rm a P (q :: r) (q :: r')
theorem Rm.src {a : Addr} {P : Obj → Prop} : ∀ {cs cs' : List Cell}, Rm a P cs cs' → (a, P) ∈ cs
  | _, _, .here => .head _
  | _, _, .there u => .tail _ u.src
theorem Rm.sub {a : Addr} {P : Obj → Prop} : ∀ {cs cs' : List Cell}, Rm a P cs cs' → cs'.Sublist cs
  | _, _, .here => List.sublist_cons_self ..
  | _, _, .there u => u.sub.cons_cons _
theorem Rm.ne {a : Addr} {P : Obj → Prop} : ∀ {cs cs' : List Cell}, Rm a P cs cs' → (cs.map (·.1)).Nodup → ∀ p ∈ cs', p.1 ≠ a
  | _, _, .here, nd, p, hp => fun e => by
    rw [List.map_cons, List.nodup_cons] at nd
    have q := List.mem_map_of_mem (f := fun x : Cell => x.1) hp
    rw [e] at q
    exact nd.1 q
  | _, _, .there u, nd, p, hp => by
    rw [List.map_cons, List.nodup_cons] at nd
    rcases List.mem_cons.mp hp with rfl | hp
    · exact fun e => nd.1 (e ▸ List.mem_map_of_mem (f := fun x : Cell => x.1) u.src)
    · exact u.ne nd.2 p hp
/-- a cell is lost -/
theorem Lg.lose {F : Fix} {gg h h' : Heap} {L : Addr} {m : Str → Option Value} {cs cs' : List Cell} (D : Lg F gg L m cs h) {a : Addr} {P : Obj → Prop} (u : Rm a P cs cs') (hs : Heap.ExtBut a h h') : Lg F gg L m cs' h' := by
  obtain ⟨⟨oa, a1, a2⟩, a3, a4, a5⟩ := D.own _ u.src
  refine ⟨D.base, fun b o e => hs b o (fun q => by rw [q, a3] at e; cases e) (D.keep b o e), D.tabs.mono fun b o hn e => hs b o (fun q => by
    rw [q, a1] at e
    cases e
    exact hn (a5 _ a2)) e, D.ns.extBut hs (Ne.symm a4), D.off, fun p hp => ?_, (u.sub.map _).nodup D.nd⟩
  obtain ⟨⟨o, e1, e2⟩, e3, e4, e5⟩ := D.own p (u.sub.subset hp)
  exact ⟨⟨o, hs _ _ (u.ne D.nd p hp) e1, e2⟩, e3, e4, e5⟩

theorem M0 {x : Cell} {l : List Cell} : x ∈ x :: l := .head _
theorem M1 {x y0 : Cell} {l : List Cell} : x ∈ y0 :: x :: l := .tail _ (.head _)
theorem M2 {x y0 y1 : Cell} {l : List Cell} : x ∈ y0 :: y1 :: x :: l := .tail _ (.tail _ (.head _))
theorem M3 {x y0 y1 y2 : Cell} {l : List Cell} : x ∈ y0 :: y1 :: y2 :: x :: l := .tail _ (.tail _ (.tail _ (.head _)))
theorem M4 {x y0 y1 y2 y3 : Cell} {l : List Cell} : x ∈ y0 :: y1 :: y2 :: y3 :: x :: l := .tail _ (.tail _ (.tail _ (.tail _ (.head _))))
theorem M5 {x y0 y1 y2 y3 y4 : Cell} {l : List Cell} : x ∈ y0 :: y1 :: y2 :: y3 :: y4 :: x :: l := .tail _ (.tail _ (.tail _ (.tail _ (.tail _ (.head _)))))
theorem M6 {x y0 y1 y2 y3 y4 y5 : Cell} {l : List Cell} : x ∈ y0 :: y1 :: y2 :: y3 :: y4 :: y5 :: x :: l := .tail _ (.tail _ (.tail _ (.tail _ (.tail _ (.tail _ (.head _))))))
theorem M7 {x y0 y1 y2 y3 y4 y5 y6 : Cell} {l : List Cell} : x ∈ y0 :: y1 :: y2 :: y3 :: y4 :: y5 :: y6 :: x :: l := .tail _ (.tail _ (.tail _ (.tail _ (.tail _ (.tail _ (.tail _ (.head _)))))))
theorem M8 {x y0 y1 y2 y3 y4 y5 y6 y7 : Cell} {l : List Cell} : x ∈ y0 :: y1 :: y2 :: y3 :: y4 :: y5 :: y6 :: y7 :: x :: l := .tail _ (.tail _ (.tail _ (.tail _ (.tail _ (.tail _ (.tail _ (.tail _ (.head _))))))))
theorem U0 {a : Addr} {P P' : Obj → Prop}  {l : List Cell} : Up a P P' ((a, P) :: l) ((a, P') :: l) := .here
theorem U1 {a : Addr} {P P' : Obj → Prop} {y0 : Cell} {l : List Cell} : Up a P P' (y0 :: (a, P) :: l) (y0 :: (a, P') :: l) := .there (.here)
theorem U2 {a : Addr} {P P' : Obj → Prop} {y0 y1 : Cell} {l : List Cell} : Up a P P' (y0 :: y1 :: (a, P) :: l) (y0 :: y1 :: (a, P') :: l) := .there (.there (.here))
theorem U3 {a : Addr} {P P' : Obj → Prop} {y0 y1 y2 : Cell} {l : List Cell} : Up a P P' (y0 :: y1 :: y2 :: (a, P) :: l) (y0 :: y1 :: y2 :: (a, P') :: l) := .there (.there (.there (.here)))
theorem U4 {a : Addr} {P P' : Obj → Prop} {y0 y1 y2 y3 : Cell} {l : List Cell} : Up a P P' (y0 :: y1 :: y2 :: y3 :: (a, P) :: l) (y0 :: y1 :: y2 :: y3 :: (a, P') :: l) := .there (.there (.there (.there (.here))))
theorem U7 {a : Addr} {P P' : Obj → Prop} {y0 y1 y2 y3 y4 y5 y6 : Cell} {l : List Cell} : Up a P P' (y0 :: y1 :: y2 :: y3 :: y4 :: y5 :: y6 :: (a, P) :: l) (y0 :: y1 :: y2 :: y3 :: y4 :: y5 :: y6 :: (a, P') :: l) := .there (.there (.there (.there (.there (.there (.there (.here)))))))
theorem U8 {a : Addr} {P P' : Obj → Prop} {y0 y1 y2 y3 y4 y5 y6 y7 : Cell} {l : List Cell} : Up a P P' (y0 :: y1 :: y2 :: y3 :: y4 :: y5 :: y6 :: y7 :: (a, P) :: l) (y0 :: y1 :: y2 :: y3 :: y4 :: y5 :: y6 :: y7 :: (a, P') :: l) := .there (.there (.there (.there (.there (.there (.there (.there (.here))))))))
theorem R0 {a : Addr} {P : Obj → Prop}  {l : List Cell} : Rm a P ((a, P) :: l) (l) := .here
theorem R1 {a : Addr} {P : Obj → Prop} {y0 : Cell} {l : List Cell} : Rm a P (y0 :: (a, P) :: l) (y0 :: l) := .there (.here)
theorem R2 {a : Addr} {P : Obj → Prop} {y0 y1 : Cell} {l : List Cell} : Rm a P (y0 :: y1 :: (a, P) :: l) (y0 :: y1 :: l) := .there (.there (.here))
abbrev F0 : PostV Value := fun _ _ _ => False
section
variable {c : Cx} {F : Fix} {A : Around} {n : Nat} {E : PostV Value} {h : Heap} {g : Gens} {env : Env}

theorem of0 {α : Type} {t : Sem α} {Q : PostV α} (x : WP c A t Q F0 h g) : WP c A t Q E h g := x.mono (fun _ _ _ q => q) fun _ _ _ f => f.elim

/- new tuples and lists -/
theorem e_tuple {elts k pos} {Q : PostV Value} (x : WP c A (spliced (backTo pos (starEach elts env))) (fun vs h₁ g₁ => vs.length ≤ sizeLine ∧ Q (.ref h₁.objs.size) (h₁.push { cls := .type "tuple", data := .seq vs.toArray }) g₁) E h g) :
    WP c A (eval (.Tuple elts k pos) env) Q E h g := fun _ => Tuple_ (x.step fun vs s' e1 e2 q => wpAny_newTuple ⟨e1.1, e2, q.2⟩ q.1)
theorem e_list {elts pos} {Q : PostV Value} (x : WP c A (spliced (backTo pos (starEach elts env))) (fun vs h₁ g₁ => vs.length ≤ sizeLine ∧ Q (.ref h₁.objs.size) (h₁.push { cls := .type "list", data := .seq vs.toArray }) g₁) E h g) :
    WP c A (eval (.List elts pos) env) Q E h g := fun _ => List_ (x.step fun vs s' e1 e2 q => wpAny_newList ⟨e1.1, e2, q.2⟩ q.1)
/- lists -/
theorem l_mul {l : Addr} {items : Array Value} {k : Nat} {x : Int} {u : Tok} {Q : PostV Value}
    (hl : h.get? l = some { cls := .type "list", dict := none, data := .seq items k, slots := #[] })
    (hlo : -(2 ^ 63 : Int) ≤ x) (hhi : x < 2 ^ 63) (hsz : items.size * x.toNat ≤ 2 ^ 24)
    (q : Q (.ref h.objs.size) (h.push { cls := .type "list", data := .seq (List.foldl (fun x1 x2 => x1 ++ x2) #[] (List.replicate (if items.isEmpty = true then 0 else x.toNat) items)) }) g) :
    WP c A (binaryOp .Mult (.ref l) (.int x u)) Q E h g := fun tk =>
  wpAny_binaryOp_repeat_ref (s := ⟨h, g, c.d, tk + (c.b + 1), c.o⟩) (T := "list") (U := "int") (by decide) ⟨_, hl, rfl⟩ (fun s' => typeIs_int s' x u) noFill_list_mul F.fills_int_mul F.slot_int_rmul repeat_list F.slot_int_index.lookup
    (call_meets F.slot_int_rmul (typeIs_int _ x u) F.entry_int_rmul (F.args_int_rmul_2 _ _) (int___rmul___int_list x u l items k)
      ⟨hl, rfl, ⟨_, hl, rfl⟩, call_meets F.slot_list_mul ⟨_, hl, rfl⟩ F.entry_list_mul (F.args_list_mul_2 _ _)
        (AutoListH.list___mul___list_int_3 l items k x u (by simp [Builtin.List.listFitsIndex]; omega) (by omega) (by simp [Builtin.List.listTooLong, sizeLine]; omega))
        ⟨hl, rfl, rfl, q⟩⟩)
theorem l_len {l : Addr} {items : Array Value} {Q : PostV Value} (hl : h.IsList l items) (hfit : (items.size : Int) < 2 ^ 63) (q : ∀ t, Q (.int items.size t) h g) : WP c A (call (.builtin "len") [.ref l]) Q E h g :=
  fun _ => call_len_list hl hfit ⟨rfl, rfl, q _⟩
theorem l_add {l b : Addr} {items items2 : Array Value} {n n2 : Nat} {Q : PostV Value} (hl : IsL h l items n) (hb : IsL h b items2 n2) (hsz : items.size + items2.size ≤ sizeLine)
    (q : Q (.ref h.objs.size) (h.push { cls := .type "list", data := .seq (items ++ items2) }) g) : WP c A (binaryOp .Add (.ref l) (.ref b)) Q E h g := fun _ => P.add_list hl hb ⟨rfl, rfl, q⟩ hsz
theorem l_item {l : Addr} {items : Array Value} {k : Int} {t : Tok} {x : Value} {Q : PostV Value} (hl : h.IsList l items) (h0 : 0 ≤ k) (hfit : k < 2 ^ 63) (hx : items[k.toNat]? = some x) (q : Q x h g) :
    WP c A (getItem (.ref l) (.int k t)) Q E h g := fun _ => wpAny_getItem_list hl h0 hfit hx ⟨rfl, rfl, q⟩
theorem l_set {l : Addr} {items : Array Value} {k : Int} {t : Tok} {v : Value} {Q : PostV Unit} (hl : h.IsList l items) (h0 : 0 ≤ k) (hfit : k < 2 ^ 63) (hn : k < items.size)
    (q : ∀ h', h'.IsList l (items.setIfInBounds k.toNat v) → Heap.SameBut l h h' → Q () h' g) : WP c A (setItem (.ref l) (.int k t) v) Q E h g :=
  fun _ => wpAny_setItem_list hl h0 hfit hn fun h' h1 h2 => ⟨rfl, rfl, q h' h1 h2⟩
theorem e_sub {value slice : Expr} {pos} {Q : PostV Value}
    (x : WP c A (eval value env) (fun o h₁ g₁ => WP c A (eval slice env) (fun i h₂ g₂ => WP c A (subscriptTail value slice o i) Q E h₂ g₂) E h₁ g₁) E h g) :
    WP c A (eval (.Subscript value slice pos) env) Q E h g := fun _ => Subscript_ (x.step fun _ _ e1 e2 q => q.stepAt e1 e2 fun _ _ e1 e2 q => q.at e1 e2)
theorem sb_of {value slice : Expr} {o i : Value} {T id : String} {ops : List Value} {Q : PostV Value} (hT : ∀ s : Shared, s.heap = h → s.TypeIs o T)
    (hl : typeLookup (.type T) "__getitem__" = pure (some (.builtin id))) (x : WP c A (getItem o i) Q E h g) (hs : subscripted slice false o i = operate ops (getItem o i)) :
    WP c A (subscriptTail value slice o i) Q E h g := by
  intro tk
  have hT := hT ⟨h, g, c.d, tk + (c.b + 1), c.o⟩ rfl
  unfold subscriptTail
  refine wpAny_bind ?_
  rw [getitemInPython_of_ne hT.not_modules]
  refine wpAny_bind (wpAny_specialOf hT hl ?_)
  have fin : wpAny c.M A (subscripted slice false o i) (fun r s₃ => wpAny c.M A (letTemporaryGo value o r >>= fun _ => pure r) (fun a s' => s'.drawn = c.d ∧ s'.os = c.o ∧ Q a s'.heap s'.gens) (fun e s' => s'.drawn = c.d ∧ s'.os = c.o ∧ E e s'.heap s'.gens) s₃) (fun e s' => s'.drawn = c.d ∧ s'.os = c.o ∧ E e s'.heap s'.gens) ⟨h, g, c.d, tk + (c.b + 1), c.o⟩ := by
    rw [hs]
    exact wpAny_operating (wpAny_mono (x tk) (fun r s₃ h₃ => wpAny_bind (wpAny_letTemporaryGo (wpAny_pure h₃))) fun _ _ x => x)
  first
    | exact wpAny_pure (wpAny_bind fin)
    | exact wpAny_bind (wpAny_pure (wpAny_bind fin))
    | exact wpAny_bind fin
theorem sb_list {value slice : Expr} {l : Addr} {items : Array Value} {k : Int} {t : Tok} {x : Value} {Q : PostV Value} (hl : h.IsList l items) (h0 : 0 ≤ k) (hfit : k < 2 ^ 63) (hx : items[k.toNat]? = some x) (q : Q x h g)
    (hs : subscripted slice false (.ref l) (.int k t) = operate [.ref l, .int k t] (getItem (.ref l) (.int k t)) := by with_unfolding_all rfl) : WP c A (subscriptTail value slice (.ref l) (.int k t)) Q E h g :=
  sb_of (fun s e => Heap.IsList.typeIs (e ▸ hl)) slot_list_getitem.lookup (l_item hl h0 hfit hx q) hs
theorem sb_tuple {value slice : Expr} {l : Addr} {items : Array Value} {k : Int} {t : Tok} {x : Value} {Q : PostV Value} (hl : IsTup h l items) (h0 : 0 ≤ k) (hfit : k < 2 ^ 63) (hx : items[k.toNat]? = some x) (q : Q x h g)
    (hs : subscripted slice false (.ref l) (.int k t) = operate [.ref l, .int k t] (getItem (.ref l) (.int k t)) := by with_unfolding_all rfl) : WP c A (subscriptTail value slice (.ref l) (.int k t)) Q E h g :=
  sb_of (fun s e => IsTup.typeIs (e ▸ hl)) slot_tuple_getitem.lookup (fun tk => PyProof.Rows.getItem_tuple hl (by omega) hfit (by
    have : k.toNat < items.size := (Array.getElem?_eq_some_iff.mp hx).1
    exact StrLaws.seqIndex_nonneg h0 (by omega)) hx ⟨rfl, rfl, q⟩) hs
theorem sb_str {value slice : Expr} {y : Str} {k : Int} {t u : Tok} {cp : Nat} {Q : PostV Value} (h0 : 0 ≤ k) (hfit : k < 2 ^ 63) (hx : y.cps[k.toNat]? = some cp) (q : ∀ t, Q (.str ⟨#[cp]⟩ t) h g)
    (hs : subscripted slice false (.str y u) (.int k t) = operate [.str y u, .int k t] (getItem (.str y u) (.int k t)) := by with_unfolding_all rfl) : WP c A (subscriptTail value slice (.str y u) (.int k t)) Q E h g :=
  sb_of (fun s _ => typeIs_str s y u) F.slot_str_getitem.lookup (fun tk => getItem_str (by simp only [Bool.or_eq_false_iff, decide_eq_false_iff_not]; omega) (by
    have : k.toNat < y.cps.size := (Array.getElem?_eq_some_iff.mp hx).1
    rw [StrLaws.seqIndex_nonneg h0 (by show k < (y.cps.size : Int); omega)]
    exact hx) ⟨rfl, rfl, q _⟩) hs
/- slices -/
theorem e_slice {lower upper : Option Expr} {p : Pos} {Q : PostV Value}
    (x : WP c A (evalPart lower env) (fun l h₁ g₁ => WP c A (evalPart upper env) (fun u h₂ g₂ => Q (.ref h₂.objs.size) (h₂.push { cls := .type "slice", data := .fields #[l, u, .none] }) g₂) E h₁ g₁) E h g) :
    WP c A (eval (.Slice lower upper none p) env) Q E h g := fun _ => wpAny_Slice (x.step fun _ _ e1 e2 q => q.stepAt e1 e2 fun _ _ e1 e2 q => wpAny_pure ⟨e1.1, e2, q⟩)
theorem p_none {Q : PostV Value} (q : Q .none h g) : WP c A (evalPart none env) Q E h g := fun _ => wpAny_pure ⟨rfl, rfl, q⟩
theorem p_some {e : Expr} {Q : PostV Value} (x : WP c A (eval e env) Q E h g) : WP c A (evalPart (some e) env) Q E h g := x
theorem sb_lslice {value slice : Expr} {l sl : Addr} {items : Array Value} {vl vu : Value} {lo hi : Option Int} {Q : PostV Value} (hl : h.IsList l items) (pl : IsPart vl lo) (pu : IsPart vu hi) (hsl : h.IsSliceOf sl vl vu .none) (hsz : items.size ≤ sizeLine)
    (q : Q (.ref h.objs.size) (h.push { cls := .type "list", data := .seq (slicePick items lo hi none) }) g)
    (hs : subscripted slice false (.ref l) (.ref sl) = operate [.ref sl, .ref l] (getItem (.ref l) (.ref sl)) := by with_unfolding_all rfl) : WP c A (subscriptTail value slice (.ref l) (.ref sl)) Q E h g :=
  sb_of (fun s e => Heap.IsList.typeIs (e ▸ hl)) slot_list_getitem.lookup (fun tk => wpAny_getItem_list_slice hl hsl pl pu .none (by simp) ⟨rfl, rfl, q⟩ hsz) hs
inductive SPart : Value → Option (Int × Tok) → Prop
  | none : SPart .none none
  | int (i : Int) (t : Tok) : SPart (.int i t) (some (i, t))
theorem sb_sslice {value slice : Expr} {y : Str} {u : Tok} {sl : Addr} {vl vu : Value} {lo hi : Option (Int × Tok)} {Q : PostV Value} (pl : SPart vl lo) (pu : SPart vu hi) (hsl : h.IsSliceOf sl vl vu .none) (hsz : y.length ≤ sizeLine)
    (q : ∀ t, Q (.str (Txt.slice y (lo.map (·.1)) (hi.map (·.1))) t) h g)
    (hs : subscripted slice false (.str y u) (.ref sl) = operate [.ref sl, .str y u] (getItem (.str y u) (.ref sl)) := by with_unfolding_all rfl) : WP c A (subscriptTail value slice (.str y u) (.ref sl)) Q E h g := by
  refine sb_of (fun s _ => typeIs_str s y u) F.slot_str_getitem.lookup (fun tk => ?_) hs
  obtain ⟨o, h1, h2, h3⟩ := hsl
  rcases pl with _ | ⟨i, ti⟩ <;> rcases pu with _ | ⟨j, tj⟩
  · exact wpAny_getItem_str_slice (l := none) (u := none) (st := none) ⟨_, h1, h2, h3⟩ rfl (post_val_or_str ⟨Nat.le_trans (Txt.slice_le y _ _) hsz, fun t' k => ⟨rfl, rfl, q t'⟩⟩)
  · exact wpAny_getItem_str_slice (l := none) (u := some (j, tj)) (st := none) ⟨_, h1, h2, h3⟩ rfl (post_val_or_str ⟨Nat.le_trans (Txt.slice_le y _ _) hsz, fun t' k => ⟨rfl, rfl, q t'⟩⟩)
  · exact wpAny_getItem_str_slice (l := some (i, ti)) (u := none) (st := none) ⟨_, h1, h2, h3⟩ rfl (post_val_or_str ⟨Nat.le_trans (Txt.slice_le y _ _) hsz, fun t' k => ⟨rfl, rfl, q t'⟩⟩)
  · exact wpAny_getItem_str_slice (l := some (i, ti)) (u := some (j, tj)) (st := none) ⟨_, h1, h2, h3⟩ rfl (post_val_or_str ⟨Nat.le_trans (Txt.slice_le y _ _) hsz, fun t' k => ⟨rfl, rfl, q t'⟩⟩)
/- an item is set -/
theorem x_setsub {o i pos' value pos rest} {Q : PostV Flow}
    (x : WP c A (eval value env) (fun v h₁ g₁ => WP c A (eval o env) (fun ov h₂ g₂ => WP c A (eval i env) (fun iv h₃ g₃ => WP c A (setItem ov iv v) (fun _ h₄ g₄ => WP c A (execs rest env) Q E h₄ g₄) E h₃ g₃) E h₂ g₂) E h₁ g₁) E h g)
    (hs : swapsWith value (some (.Subscript o i pos')) pos.line env = pure false := by rfl) : WP c A (execs (.Assign [.Subscript o i pos'] value pos :: rest) env) Q E h g :=
  x_cons fun _ => wpAny_Assign_Subscript (x.step fun _ _ e1 e2 q => q.stepAt e1 e2 fun _ _ e1 e2 q => q.stepAt e1 e2 fun _ _ e1 e2 q => q.stepAt e1 e2 fun _ _ e1 e2 q => ⟨e1.1, e2, q⟩) hs
/- methods of lists -/
theorem e_lmeth {o : Expr} {name : Str} {apos pos : Pos} {args : List Expr} {id : String} {Q : PostV Value}
    (slot : Slot "list" name id) (hty : typeOf (.builtin id) = pure (.type "method_descriptor"))
    (x : WP c A (eval o env) (fun ov h₁ g₁ => ∃ l items n, ov = .ref l ∧ IsL h₁ l items n ∧ WP c A (callWith pos (.builtin id) [ov] (backTo pos (starEach args env)) []) Q E h₁ g₁) E h g)
    (hbase : attributeBase o name env (eval o env) = eval o env := by rfl)
    (hfew : ((backTo pos (starEach args env)).all (fun x => !x.1) && (backToKw pos (keywordEach [] env)).all (fun x => x.1.isSome)
      && decide (args.length + ([] : List Keyword).length + (if ([] : List Keyword).isEmpty then 0 else 1) < 30)) = true := by rfl)
    (hline : (apos.endLine == pos.line) = true := by rfl) :
    WP c A (eval (.Call (.Attribute o name apos) args [] pos) env) Q E h g :=
  e_meth F.plainAttrs_list slot hty (x.monoQ fun v h' g' ⟨l, items, n, e, hl, q⟩ => by
    subst e
    exact ⟨fun s' e => ⟨_, e ▸ hl, rfl⟩, fun a e => by cases e; exact ⟨_, hl, rfl⟩, q⟩) hbase hfew hline
theorem e_append {o a : Expr} {apos pos : Pos} {Q : PostV Value}
    (x : WP c A (eval o env) (fun ov h₁ g₁ => ∃ l items n, ov = .ref l ∧ IsL h₁ l items n ∧ WP c A (eval a env) (fun v h₂ g₂ => ∃ items n, items.size ≤ sizeLine ∧ IsL h₂ l items n ∧ Q .none (h₂.update l (Obj.mapSeq fun xs => xs.push v)) g₂) E h₁ g₁) E h g)
    (hbase : attributeBase o (Str.ofString "append") env (eval o env) = eval o env := by rfl)
    (hfew : ((backTo pos (starEach [a] env)).all (fun x => !x.1) && (backToKw pos (keywordEach [] env)).all (fun x => x.1.isSome)
      && decide ([a].length + ([] : List Keyword).length + (if ([] : List Keyword).isEmpty then 0 else 1) < 30)) = true := by rfl)
    (hline : (apos.endLine == pos.line) = true := by rfl) (hst : backTo pos (starEach [a] env) = [(false, eval a env)] := by rfl) :
    WP c A (eval (.Call (.Attribute o (Str.ofString "append") apos) [a] [] pos) env) Q E h g :=
  e_lmeth F.slot_list_append F.type_list_append (x.monoQ fun v h' g' ⟨l, items, n, e, hl, q⟩ => ⟨l, items, n, e, hl, by
    subst e
    rw [hst]
    exact fun tk => P.append_list (q.step fun v s' e1 e2 q => by
      obtain ⟨items, n, h1, h2, h3⟩ := q
      exact ⟨items, n, h1, h2, e1.1, e2, h3⟩)⟩) hbase hfew hline
theorem e_reverse {o : Expr} {apos pos : Pos} {Q : PostV Value}
    (x : WP c A (eval o env) (fun ov h₁ g₁ => ∃ l items n, ov = .ref l ∧ IsL h₁ l items n ∧ items.size ≤ sizeLine ∧ Q .none (h₁.update l (Obj.mapSeq fun xs => xs.reverse)) g₁) E h g)
    (hbase : attributeBase o (Str.ofString "reverse") env (eval o env) = eval o env := by rfl)
    (hline : (apos.endLine == pos.line) = true := by rfl) :
    WP c A (eval (.Call (.Attribute o (Str.ofString "reverse") apos) [] [] pos) env) Q E h g :=
  e_lmeth F.slot_list_reverse F.type_list_reverse (x.monoQ fun v h' g' ⟨l, items, n, e, hl, hsz, q⟩ => ⟨l, items, n, e, hl, by
    subst e
    exact fun tk => P.reverse_list hl ⟨rfl, rfl, q⟩ hsz⟩) hbase rfl hline
theorem e_pop {o a : Expr} {apos pos : Pos} {Q : PostV Value}
    (x : WP c A (eval o env) (fun ov h₁ g₁ => ∃ l items n, ov = .ref l ∧ IsL h₁ l items n ∧ WP c A (eval a env) (fun v h₂ g₂ => ∃ items n i u y, v = .int i u ∧ items.size ≤ sizeLine ∧ IsL h₂ l items n ∧ 0 ≤ i ∧ i < 2 ^ 62 ∧ items[i.toNat]? = some y ∧ Q y (h₂.update l (Obj.mapSeq fun xs => xs.eraseIdxIfInBounds i.toNat)) g₂) E h₁ g₁) E h g)
    (hbase : attributeBase o (Str.ofString "pop") env (eval o env) = eval o env := by rfl)
    (hfew : ((backTo pos (starEach [a] env)).all (fun x => !x.1) && (backToKw pos (keywordEach [] env)).all (fun x => x.1.isSome)
      && decide ([a].length + ([] : List Keyword).length + (if ([] : List Keyword).isEmpty then 0 else 1) < 30)) = true := by rfl)
    (hline : (apos.endLine == pos.line) = true := by rfl) (hst : backTo pos (starEach [a] env) = [(false, eval a env)] := by rfl) :
    WP c A (eval (.Call (.Attribute o (Str.ofString "pop") apos) [a] [] pos) env) Q E h g :=
  e_lmeth F.slot_list_pop F.type_list_pop (x.monoQ fun v h' g' ⟨l, items, n, e, hl, q⟩ => ⟨l, items, n, e, hl, by
    subst e
    rw [hst]
    exact fun tk => P.pop_at_list (q.step fun v s' e1 e2 q => by
      obtain ⟨items, n, i, u, y, e, h1, h2, h3, h4, h5, h6⟩ := q
      have : i.toNat < items.size := (Array.getElem?_eq_some_iff.mp h5).1
      refine ⟨items, n, i, u, i.toNat, y, h1, e, h2, ?_, StrLaws.seqIndex_nonneg h3 (by omega), h5, e1.1, e2, h6⟩
      simp [Builtin.List.listFitsIndex]; omega)⟩) hbase hfew hline
theorem Lg.updSeq {gg : Heap} {L : Addr} {m : Str → Option Value} {cs cs' : List Cell} (D : Lg F gg L m cs h) {a : Addr} {items : Array Value} (f : Array Value → Array Value) (u : Up a (PlA items) (PlA (f items)) cs cs') : Lg F gg L m cs' (h.update a (Obj.mapSeq f)) := by
  obtain ⟨o, h1, n, rfl⟩ := D.get u.src
  exact D.upd u (Heap.SameBut.update ..) ⟨_, IsL.update h1 f, _, rfl⟩ fun _ p => p.tame
theorem Lg.isL {gg : Heap} {L : Addr} {m : Str → Option Value} {cs : List Cell} (D : Lg F gg L m cs h) {a : Addr} {items : Array Value} (hm : (a, PlA items) ∈ cs) : ∃ n, IsL h a items n := by
  obtain ⟨o, h1, n, rfl⟩ := D.get hm
  exact ⟨n, h1⟩
theorem Lg.isList {gg : Heap} {L : Addr} {m : Str → Option Value} {cs : List Cell} (D : Lg F gg L m cs h) {a : Addr} {items : Array Value} (hm : (a, PlA items) ∈ cs) : h.IsList a items := let ⟨_, x⟩ := D.isL hm; x.isList
theorem Lg.newList {gg : Heap} {L : Addr} {m : Str → Option Value} {cs : List Cell} (D : Lg F gg L m cs h) (items : Array Value) : Lg F gg L m ((h.objs.size, PlA items) :: cs) (h.push { cls := .type "list", data := .seq items }) :=
  D.add (fun _ _ e => Heap.get?_push_of_some _ e) Lg.get_size ⟨_, Heap.get?_push_size _ rfl, 0, rfl⟩ fun _ p => p.tame
theorem Lg.anyPush {gg : Heap} {L : Addr} {m : Str → Option Value} {cs : List Cell} (D : Lg F gg L m cs h) (o : Obj) : Lg F gg L m cs (h.push o) := D.more fun _ _ e => Heap.get?_push_of_some _ e
/- loops -/
theorem x_for {target iter body pos rest} {Q : PostV Flow}
    (x : WP c A (eval iter env) (fun xv h₁ g₁ => WP c A (pyIter xv) (fun it h₂ g₂ =>
      CP c A (.forLoop target it body [] env) (fun r h' g' => match r with | .ok .next => WP c A (execs rest env) Q E h' g' | .ok f => Q f h' g' | .error _ => False) h₂ g₂) E h₁ g₁) E h g)
    (hs : ∀ x, foldedSetIterable iter env x = pure x := by intro _; rfl) : WP c A (execs (.For target iter body [] pos :: rest) env) Q E h g :=
  x_cons fun _ => wpAny_For (x.step fun _ _ e1 e2 q => q.stepAt e1 e2 fun _ _ e1 e2 q => codeAny_mono (q.at e1 e2) (fun r s' ⟨e1, e2, q⟩ => by
    cases r with
    | ok f => cases f <;> exact ⟨e1, e2, q⟩
    | error _ => exact q.elim)) hs
theorem fl_ind {target it body} {R : PostV Result} {N : Nat} (J : Nat → Heap → Gens → Prop) (h0 : J 0 h g)
    (step : ∀ i h g, i < N → J i h g → WP c A (pyNext it) (fun o h₁ g₁ => ∃ v, o = some v ∧ WP c A (letOwnedTupleGo target it v) (fun _ h₁ g₁ => WP c A (assign target env v) (fun _ h₂ g₂ => WP c A (execs body env)
      (fun f h₃ g₃ => match f with | .next | .cont => J (i + 1) h₃ g₃ | .brk => R (.ok .next) h₃ g₃ | .ret v => R (.ok (.ret v)) h₃ g₃) F0 h₂ g₂) F0 h₁ g₁) F0 h₁ g₁) F0 h g)
    (done : ∀ h g, J N h g → WP c A (pyNext it) (fun o h₁ g₁ => o = none ∧ R (.ok .next) h₁ g₁) F0 h g) : CP c A (.forLoop target it body [] env) R h g := by
  intro tk
  refine codeAny_loop' rfl (fun k s => (s.drawn = c.d ∧ c.b + 1 ≤ s.toks) ∧ s.os = c.o ∧ ∃ i, i ≤ N ∧ k = N - i ∧ J i s.heap s.gens) (fun k s hI => ?_) N ⟨⟨rfl, Nat.le_add_left _ _⟩, rfl, 0, Nat.zero_le _, rfl, h0⟩
  obtain ⟨e1, e2, i, hi, rfl, hJ⟩ := hI
  show wpAny _ _ ((forTurn target it body [] env).onRaise (fun x => do noteFrame x env; theTreesLotGoes x)) _ _ s
  refine wpAny_noted ?_
  simp only [forTurn]
  refine wpAny_bind (wpAny_standAt (wpAny_bind (wpAny_onRaise ?_)))
  by_cases hlt : i < N
  · refine wpAny_mono ((step i _ _ hlt hJ).stepAt e1 e2 fun o s₁ e1 e2 q => ?_) (fun _ _ q => q) fun _ _ ⟨_, _, f⟩ => f.elim
    obtain ⟨v, rfl, q⟩ := q
    refine wpAny_bind (wpAny_mono (q.stepAt e1 e2 fun _ s₂ e1 e2 q => ?_) (fun _ _ q => q) fun _ _ ⟨_, _, f⟩ => f.elim)
    refine wpAny_bind (wpAny_mono (q.stepAt e1 e2 fun _ s₂ e1 e2 q => ?_) (fun _ _ q => q) fun _ _ ⟨_, _, f⟩ => f.elim)
    refine wpAny_bind (wpAny_mono (q.stepAt e1 e2 fun f s₃ e1 e2 q => ?_) (fun _ _ q => q) fun _ _ ⟨_, _, f⟩ => f.elim)
    cases f with
    | next => exact wpAny_pure (.inl ⟨rfl, N - (i + 1), by omega, e1, e2, i + 1, hlt, rfl, q⟩)
    | cont => exact wpAny_pure (.inl ⟨rfl, N - (i + 1), by omega, e1, e2, i + 1, hlt, rfl, q⟩)
    | brk => exact wpAny_pure ⟨e1.1, e2, q⟩
    | ret v => exact wpAny_pure ⟨e1.1, e2, q⟩
  · obtain rfl : i = N := by omega
    refine wpAny_mono ((done _ _ hJ).at e1 e2) (fun o s₁ ⟨e1, e2, q⟩ => ?_) fun _ _ ⟨_, _, f⟩ => f.elim
    obtain ⟨rfl, q⟩ := q
    exact wpAny_pure (.inr ⟨rfl, codeAny_block (wpAny_execs_nil ⟨e1, e2, q⟩)⟩)
/- iterators -/
theorem i_list {l : Addr} {items : Array Value} {Q : PostV Value} (hl : h.IsList l items) (q : Q (.ref h.objs.size) (h.push { cls := .type "list_iterator", data := .fields #[.ref l, .int 0 0] }) g) : WP c A (pyIter (.ref l)) Q E h g :=
  fun _ => wpAny_pyIter_list hl ⟨rfl, rfl, q⟩
/-- a turn of the loop, with what is behind it as a variable -/
theorem fl_abs {target it body} {R : PostV Result} {N : Nat} (J : Nat → Heap → Gens → Prop) (h0 : J 0 h g)
    (step : ∀ i h g, i < N → ∀ Q : PostV Flow, (∀ h g, J (i + 1) h g → Q .next h g) → (∀ v h g, R (.ok (.ret v)) h g → Q (.ret v) h g) → J i h g → WP c A (pyNext it) (fun o h₁ g₁ => ∃ v, o = some v ∧ WP c A (letOwnedTupleGo target it v) (fun _ h₁ g₁ => WP c A (assign target env v) (fun _ h₂ g₂ => WP c A (execs body env)
      Q F0 h₂ g₂) F0 h₁ g₁) F0 h₁ g₁) F0 h g)
    (done : ∀ h g, J N h g → WP c A (pyNext it) (fun o h₁ g₁ => o = none ∧ R (.ok .next) h₁ g₁) F0 h g) : CP c A (.forLoop target it body [] env) R h g :=
  fl_ind J h0 (fun i h g hi hJ => step i h g hi _ (fun _ _ q => q) (fun _ _ _ q => q) hJ) done
theorem next_list {I l : Addr} {i : Nat} {items : Array Value} {x : Value} {Q : PostV (Option Value)} (hit : h.IsListIter I l i) (hl : h.IsList l items) (hx : items[i]? = some x)
    (q : ∀ h', h'.IsListIter I l (i + 1) → Heap.SameBut I h h' → Q (some x) h' g) : WP c A (pyNext (.ref I)) Q E h g :=
  fun _ => wpAny_pyNext_list_item hit hl hx fun h' h1 h2 => ⟨rfl, rfl, q h' h1 h2⟩
theorem end_list {I l : Addr} {i : Nat} {items : Array Value} {Q : PostV (Option Value)} (hA : AOk A n) (hit : h.IsListIter I l i) (hl : h.IsList l items) (hx : items[i]? = none)
    (q : ∀ h', Heap.ExtBut I h h' → Q none h' g) : WP c A (pyNext (.ref I)) Q E h g :=
  fun _ => wpAny_pyNext_list_end hA.h hit hl hx fun h' h1 => ⟨rfl, rfl, q h' h1⟩
theorem lot_name {x px it v} {Q : PostV Unit} (q : Q () h g) : WP c A (letOwnedTupleGo (.Name x px) it v) Q E h g := fun _ => wpAny_pure ⟨rfl, rfl, q⟩
theorem lot_list {elts k pos} {I l T : Addr} {i : Nat} {Q : PostV Unit} (hit : h.IsListIter I l i) (q : Q () h g) : WP c A (letOwnedTupleGo (.Tuple elts k pos) (.ref I) (.ref T)) Q E h g := fun _ => wpAny_letOwnedTupleGo_listiter hit ⟨rfl, rfl, q⟩
theorem as_name {x pos v} {Q : PostV Unit} (q : WP c A (storeName env x v) Q E h g) : WP c A (assign (.Name x pos) env v) Q E h g := fun tk => wpAny_assign_Name (q tk)
theorem as_tuple {elts k pos} {t : Addr} {items : Array Value} {Q : PostV Unit} (hA : AOk A n) (ht : h.IsTuple t items)
    (hn : (assignEach elts env).length = items.size) (hstar : (assignEach elts env).findIdx? (·.1) = none)
    (q : ∀ h', (∀ b o, h.get? b = some o → h'.get? b = some o) → WP c A (assignInOrder ((assignEach elts env).map (·.2)) items.toList) Q E h' g) : WP c A (assign (.Tuple elts k pos) env (.ref t)) Q E h g :=
  fun tk => wpAny_assign_Tuple hA.h ht hn hstar fun h' hx => q h' (fun b o e => hx b o (Nat.ne_of_lt (Heap.lt_size e)) e) tk
theorem as_nil {Q : PostV Unit} {xs : List Value} (q : Q () h g) : WP c A (assignInOrder [] xs) Q E h g := fun _ => assignInOrder_nil ⟨rfl, rfl, q⟩
theorem as_cons {t : Value → Sem Unit} {ts : List (Value → Sem Unit)} {x : Value} {xs : List Value} {Q : PostV Unit} (q : WP c A (t x) (fun _ h' g' => WP c A (assignInOrder ts xs) Q E h' g') E h g) :
    WP c A (assignInOrder (t :: ts) (x :: xs)) Q E h g := fun _ => assignInOrder_cons (q.step fun _ _ e1 e2 q => q.at e1 e2)
end
end Mine
end

noncomputable section
open PySem PySem.W PySem.Calls PyProof.Rows
set_option Elab.async false
set_option maxRecDepth 100000
set_option linter.unusedVariables false
namespace Mine
section
variable {c : Cx} {F : Fix} {A : Around} {n : Nat} {E : PostV Value} {h : Heap} {g : Gens} {env : Env}

theorem triples_one {l : List Value} (t : TriplesOk l) (q : Str) (u : Tok) : l[1]? ≠ some (.str q u) := by
  fun_cases TriplesOk l with
  | case1 => simp
  | case2 => simp
  | case3 l h1 h2 => rw [TriplesOk] at t <;> first | assumption | exact t.elim
/-- a table has grown -/
theorem Lg.tabGrown {gg h' : Heap} {L : Addr} {m : Str → Option Value} {cs : List Cell} (D : Lg F gg L m cs h) (hsep : F.Sep) (hg : ∀ b ∈ F.ns.map (·.P), gg.get? b = none) {nt : NestAt} (mem : nt ∈ F.ns)
    (k : Heap.ExtBut nt.P h h') (ht : TabOk h' nt.P nt.pos nt.q) : Lg F gg L m cs h' := by
  obtain ⟨o1, o2, o3⟩ := D.tabs_off hg nt.P (List.mem_map_of_mem mem)
  obtain ⟨ps, p1, p2, p3⟩ := D.tabs nt mem
  refine ⟨D.base, fun b o e => k b o (fun q => by rw [q, o1] at e; cases e) (D.keep b o e), fun n' hn' => ?_, D.ns.extBut k (Ne.symm o2), D.off, fun p hp => ?_, D.nd⟩
  · by_cases e : n'.P = nt.P
    · rw [hsep.uniq _ mem _ hn' e]
      exact ht
    · obtain ⟨qs, q1, q2, q3⟩ := D.tabs n' hn'
      refine ⟨qs, k _ _ e q1, q2, fun cv hc => ?_⟩
      obtain ⟨cc, o, vs, t, r1, r2, r3, r4⟩ := q3 cv hc
      refine ⟨cc, o, vs, t, r1, k _ _ (fun q => ?_) r2, r3, r4⟩
      rw [q, p1] at r2
      cases r2
      cases r3
      exact triples_one p2 nt.q t (by rw [Array.getElem?_toList]; exact absurd r4 (fun r => triples_one p2 _ _ (by rw [Array.getElem?_toList]; exact r)))
  · obtain ⟨⟨o, e1, e2⟩, r⟩ := D.own p hp
    exact ⟨⟨o, k _ _ (fun q => o3 (q ▸ List.mem_map_of_mem (f := fun x : Cell => x.1) hp)) e1, e2⟩, r⟩

abbrev fnObj (name qual : Str) (params : Arguments) (body : List Stmt) (scope : Scope) (clos : List (Str × Addr)) (doc pm cdv ctv : Value) : Obj :=
  { cls := .type "function", data := .func (fnX name qual params body scope clos .none .none doc pm none cdv ctv) }

theorem m_fn {gg : Heap} {L : Addr} {m : Str → Option Value} {cs : List Cell} (S : St F) (D : Lg F gg L m cs h) (hg : ∀ b ∈ F.ns.map (·.P), gg.get? b = none) {nt : NestAt} (mem : nt ∈ F.ns) {cc : Addr} (C : CodeHd F.H cc nt.P)
    {name : Str} {params : Arguments} {body : List Stmt} {scope : Scope} {pos : Pos} {firstLine : Nat} {clos : List (Str × Addr)} {Q : PostV Value} (hpos : nt.pos = pos)
    (hcl : closureFor scope env = pure clos) (hge : env.globals = mainGlobals) (hcode : env.code = .ref cc)
    (x : ∀ f h' cdv doc ctv pm, h.get? f = none → (∀ b o, b ∉ F.ns.map (·.P) → h.get? b = some o → h'.get? b = some o) → Lg F gg L m ((f, (· = fnObj name nt.q params body scope clos doc pm cdv ctv)) :: cs) h' → h'.CodeRec cdv nt.q → Q (.ref f) h' g) :
    WP c A (makeFunction name nt.q params (.stmts body) scope env [] [] [] pos firstLine) Q E h g := by
  intro tk
  subst hpos
  refine absP fun Y hY => ?_
  obtain ⟨ps, p1, p2, p3⟩ := D.tabs nt mem
  have hP := S.sep.apart nt.P (List.mem_map_of_mem mem)
  have hgP : mainGlobals ≠ nt.P := fun q => by
    obtain ⟨o, _, _, e, _⟩ := S.g
    rw [q, hP] at e; cases e
  have hb : h.BuiltinsAt F.mg nt.P := by
    obtain ⟨bm, ob, b1, b2, b3, b4, b5, b6⟩ := S.bmain
    refine ⟨bm, ob, b1, b2, fun q => ?_, fun q => ?_, D.st _ _ b3, b4, b5, b6⟩
    · obtain ⟨o, _, _, e, e2, _⟩ := S.g
      rw [q, e] at b3; cases b3
      rw [b6] at e2; cases e2
    · rw [q, hP] at b3; cases b3
  have hgm := S.g.keeps D.st
  have C' := C.keeps D.st
  cases hf : codeAmong nt.pos ps.toList with
  | none =>
    refine hY ?_
    refine makeFunction_K (s := ⟨h, g, c.d, tk + (c.b + 1), c.o⟩) hcl hge hgm hcode C' p1 p2 hf hgP hb fun c' ctv doc h' tk' k l1 l2 hr hp => ?_
    have D₁ := D.tabGrown S.sep hg mem k ⟨_, hp, by rw [Array.toList_append]; exact TriplesOk_snoc _ _ _ _ p2, fun cv hc => by
      rw [Array.toList_append] at hc
      have := codeAmong_snoc (c := Value.ref c') _ p2 hf
      rw [show (#[rawInt nt.pos.line, rawInt nt.pos.col, Value.ref c'] : Array Value).toList = [rawInt nt.pos.line, rawInt nt.pos.col, Value.ref c'] from rfl, this] at hc
      cases hc
      obtain ⟨c, o, vs, t, r1, r2, r3, r4⟩ := hr
      exact ⟨c, o, vs, t, r1, r2, r3, r4⟩⟩
    have D₂ := D₁.push (fnObj name nt.q params body scope clos doc ((F.mg "__name__").getD .none) (.ref c') ctv)
    refine ⟨rfl, rfl, x _ _ (.ref c') doc ctv _ ?_ (fun b o hb e => Heap.get?_push_of_some _ (k b o (fun q => hb (q ▸ List.mem_map_of_mem mem)) e)) D₂ ?_⟩
    · cases e : h.get? h'.objs.size with
      | none => rfl
      | some o =>
        by_cases q : h'.objs.size = nt.P
        · rw [q] at e
          exact absurd (Heap.lt_size hp) (by rw [q]; exact Nat.lt_irrefl _)
        · exact absurd (Heap.lt_size (k _ _ q e)) (Nat.lt_irrefl _)
    · obtain ⟨c, o, vs, t, r1, r2, r3, r4⟩ := hr
      exact ⟨c, o, vs, t, r1, Heap.get?_push_of_some _ r2, r3, r4⟩
  | some cv =>
    obtain ⟨cq, o, vs, t, r1, r2, r3, r4⟩ := p3 cv hf
    refine hY ?_
    refine makeFunction_hit (s := ⟨h, g, c.d, tk + (c.b + 1), c.o⟩) hcl hge hgm hcode C' p1 p2 hf hb fun ctv doc h' tk' k l1 => ?_
    have D₂ := (D.more k).push (fnObj name nt.q params body scope clos doc ((F.mg "__name__").getD .none) cv ctv)
    refine ⟨rfl, rfl, x _ _ cv doc ctv _ ?_ (fun b o _ e => Heap.get?_push_of_some _ (k b o e)) D₂ ⟨cq, o, vs, t, r1, Heap.get?_push_of_some _ (k _ _ r2), r3, r4⟩⟩
    cases e : h.get? h'.objs.size with
    | none => rfl
    | some o => exact absurd (Heap.lt_size (k _ _ e)) (Nat.lt_irrefl _)

theorem x_def {gg : Heap} {L : Addr} {m : Str → Option Value} {cs : List Cell} (S : St F) (D : Lg F gg L m cs h) (hg : ∀ b ∈ F.ns.map (·.P), gg.get? b = none) {nt : NestAt} (mem : nt ∈ F.ns) {cc : Addr} (C : CodeHd F.H cc nt.P)
    {name : Str} {params : Arguments} {body : List Stmt} {scope : Scope} {pos : Pos} {rest : List Stmt} {clos : List (Str × Addr)} {Q : PostV Flow} (hpos : nt.pos = pos) (hq : nt.q = qualnameIn env name name)
    (hcl : closureFor scope env = pure clos) (hge : env.globals = mainGlobals) (hcode : env.code = .ref cc)
    (x : ∀ f h' cdv doc ctv pm, h.get? f = none → (∀ b o, b ∉ F.ns.map (·.P) → h.get? b = some o → h'.get? b = some o) → Lg F gg L m ((f, (· = fnObj name nt.q params body scope clos doc pm cdv ctv)) :: cs) h' → h'.CodeRec cdv nt.q →
      WP c A (storeName env name (.ref f)) (fun _ h₂ g₂ => WP c A (execs rest env) Q E h₂ g₂) E h' g)
    (hd0 : params.defaults = [] := by rfl) (hk0 : params.kw_defaults = [] := by rfl) (ha : annTrees params none env = [] := by rfl) :
    WP c A (execs (.FunctionDef name params body [] none [] scope none name pos :: rest) env) Q E h g := by
  refine x_cons fun tk => nestDef_K hd0 hk0 ha ?_
  rw [← hq]
  have y := m_fn (c := c) (A := A) (E := E) (g := g) (firstLine := pos.line) (Q := fun v h' g' => WP c A (storeName env name v) (fun _ h₂ g₂ => WP c A (execs rest env) Q E h₂ g₂) E h' g') S D hg mem C hpos hcl hge hcode x
  exact y.step fun v s' e1 e2 q => q.stepAt e1 e2 fun _ _ e1 e2 q => ⟨e1.1, e2, q⟩

/-- a made def is called -/
theorem call_cl {fa : Addr} {r : DefRec} {pos : Pos} {nm qual : Str} {ps : Arguments} {bd : List Stmt} {sc : Scope} {clos : List (Str × Addr)} {doc pm cdv ctv : Value} {vals : List Value} {binds : List (Str × Value)} {cs : List Cell} {Q : PostV Value}
    (S : St F) (O : Ok F h g) (hA : AOk A n) (hn : n ≤ 50) (hrec : r = ⟨nm, ps, bd, sc, pos⟩) (ho : h.get? fa = some (fnObj r.name qual r.params r.body r.scope clos doc pm cdv ctv)) (hcd : h.CodeRec cdv qual)
    (hcs : ∀ p ∈ cs, (∃ o, h.get? p.1 = some o ∧ p.2 o) ∧ F.H.get? p.1 = none ∧ ∀ o, p.2 o → Tame o) (hnd : (cs.map (·.1)).Nodup)
    (hbind : ∀ pm doc ctv cdv, bindArgs (fnX nm qual ps bd sc clos .none .none doc pm none cdv ctv) ⟨vals, []⟩ = pure binds)
    (hloc : (binds.all fun x => decide (sc.names.lookup x.1 = some .local)) = true)
    (hcell : (sc.names.all fun x => x.2 != .cell) = true)
    (x : ∀ L h₁, Lg F (baseBut F h (cs.map (·.1))) L (fun y => binds.reverse.lookup y) cs h₁ → (∀ b o, h.get? b = some o → h₁.get? b = some o) → AOk (A.deeper (envX qual sc L fa cdv clos)) (n + 1) →
      WP c (A.deeper (envX qual sc L fa cdv clos)) (execs bd (envX qual sc L fa cdv clos)) (fun f h' g' => Q (match f with | .ret v => v | _ => .none) h' g') F0 h₁ g)
    (hco : sc.isCoroutine = false := by rfl) (hgen : sc.isGenerator = false := by rfl) (hk : sc.kind = .function := by rfl) :
    WP c A (call (.ref fa) vals) Q E h g := by
  subst hrec
  intro tk
  refine wpAny_call (codeAny_call_def (s := ⟨h, g, c.d, tk + (c.b + 1), c.o⟩) (fd := fnX nm qual ps bd sc clos .none .none doc pm none cdv ctv) (body := bd) (binds := binds) (hA.room (by omega)) ho rfl (S.nolimit.keeps O.base) hcd rfl ?_ (fun y hy q => ?_) (locs hloc) (fun h₁ hns hk₁ => ?_) hco hgen hk)
  · intro M A Q E y
    rw [hbind]
    exact wpAny_pure y
  · have := List.all_eq_true.mp hcell y hy
    rw [q] at this; cases this
  · have D := Lg.enterB S.sep O hns Lg.get_size hk₁ hcs hnd
    refine wpAny_mono ((x _ h₁ D hk₁ (hA.deeper _)).at (s := ⟨h₁, g, c.d, tk + (c.b + 1) + binds.length, c.o⟩) ⟨rfl, by show c.b + 1 ≤ tk + (c.b + 1) + binds.length; omega⟩ rfl) (fun f s' q => q) fun e s' ⟨_, _, f⟩ => f.elim

abbrev cellsOf (sc : Scope) (binds : List (Str × Value)) (L : Addr) : List Cell := (cellsFrom (L + 1) sc.names []).map fun p => (p.2, CellA (bindC (fun y => sc.names.lookup y) binds (fun _ => none) p.1))
/-- a def of the text with cells is called -/
theorem call_fnC {i : Nat} {fa : Addr} {cd : Value} {nm : Str} {ps : Arguments} {bd : List Stmt} {sc : Scope} {pos : Pos} {vals : List Value} {binds : List (Str × Value)} {Q : PostV Value}
    (S : St F) (O : Ok F h g) (hA : AOk A n) (hn : n ≤ 50) (hf : FnAt F.H F.mg i fa cd)
    (hrec : recAt i = ⟨nm, ps, bd, sc, pos⟩)
    (hbind : ∀ pm doc, bindArgs (docDef nm ps bd sc pm cd doc) ⟨vals, []⟩ = pure binds)
    (hkind : ∀ n, ∀ x ∈ binds, sc.names.lookup x.1 = some .local ∨ (sc.names.lookup x.1 = some .cell ∧ ((cellsFrom n sc.names []).lookup x.1).isSome = true))
    (hnd : ((cellsFrom 0 sc.names []).map (·.1)).Nodup)
    (x : ∀ L h₁, Lg F (baseOf F h) L (bindL (fun y => sc.names.lookup y) binds fun _ => none) (cellsOf sc binds L) h₁ → AOk (A.deeper (envOfC nm sc L fa cd)) (n + 1) →
      WP c (A.deeper (envOfC nm sc L fa cd)) (execs bd (envOfC nm sc L fa cd)) (fun f h' g' => Q (match f with | .ret v => v | _ => .none) h' g') F0 h₁ g)
    (hco : sc.isCoroutine = false := by rfl) (hgen : sc.isGenerator = false := by rfl) (hk : sc.kind = .function := by rfl) :
    WP c A (call (.ref fa) vals) Q E h g := by
  intro tk
  obtain ⟨o, pm, doc, h1, h2, h3⟩ := hf.ob
  rw [hrec] at h2 h3
  refine wpAny_call (codeAny_call_function (s := ⟨h, g, c.d, tk + (c.b + 1), c.o⟩) (hA.room (by omega)) (O.base _ _ h1) h2 hco hgen rfl (h3.keeps O.base) ?_)
  rw [hbind pm doc]
  refine wpAny_pure (wpAny_with_toks (n := c.b + 1) (Nat.le_add_left _ _) (wpAny_newFunctionEnv_cells hk (hkind _) fun env he s₁ I ht => ?_))
  subst he
  refine ⟨(S.nolimit.keeps O.base).keeps I.toInCall.keep, codeAny_func ?_⟩
  obtain ⟨h₁, tk', rfl, hk₁⟩ := I.done
  have D₀ := Lg.enter S.sep O I.toInCall.ns Lg.get_size hk₁
  have D : Lg F (baseOf F h) h.objs.size (bindL (fun y => sc.names.lookup y) binds fun _ => none) (cellsOf sc binds h.objs.size) h₁ := by
    refine ⟨D₀.base, D₀.keep, D₀.tabs, D₀.ns, D₀.off, fun p hp => ?_, ?_⟩
    · obtain ⟨⟨y, a⟩, hm, rfl⟩ := List.mem_map.mp hp
      have hl := lookup_of_mem_nodup (cellsFrom_names sc.names 0 (h.objs.size + 1) [] [] rfl ▸ hnd) hm
      have hab := I.above y a hm
      refine ⟨I.cell y a hl, ?_, Nat.ne_of_gt hab, fun _ p => cell_tame p⟩
      cases e : (baseOf F h).get? a with
      | none => rfl
      | some o => exact absurd (Heap.lt_size (of_hideAll _ e)) (Nat.lt_asymm hab)
    · rw [List.map_map]
      exact List.pairwise_map.mpr I.apart
  refine wpAny_mono ((x _ h₁ D (hA.deeper _)).at (s := ⟨h₁, g, c.d, tk', c.o⟩) ⟨rfl, ht⟩ rfl) (fun f s' q => q) fun e s' ⟨_, _, f⟩ => f.elim
end
end Mine
end

noncomputable section
open PySem PySem.W PySem.Calls PyProof.Rows
set_option Elab.async false
set_option maxRecDepth 100000
set_option linter.unusedVariables false
namespace Mine
section
variable {c : Cx} {F : Fix} {A : Around} {n : Nat} {E : PostV Value} {h : Heap} {g : Gens} {env : Env}

def subRec (i j : Nat) : DefRec := match (recAt i).body[j]? with
  | some (.FunctionDef n a b _ _ _ sc _ _ pos) => ⟨n, a, b, sc, pos⟩
  | _ => ⟨Str.empty, ⟨[], [], none, [], [], none, []⟩, [], { kind := .function, names := [], isGenerator := false, isCoroutine := false }, ⟨0, 0, 0, 0⟩⟩

theorem o_fdiv {a b : Int} {t u : Tok} {Q : PostV Value} (hb : b ≠ 0) (hs : b.natAbs < 1073741824) (q : ∀ t, Q (.int (a.fdiv b) t) h g) : WP c A (binaryOp .FloorDiv (.int a t) (.int b u)) Q E h g :=
  fun _ => floordiv_int hb ⟨rfl, rfl, q _⟩ (.inl (PyProof.noPylong_small hs))
theorem o_mod {a b : Int} {t u : Tok} {Q : PostV Value} (hb : b ≠ 0) (q : ∀ t, Q (.int (a.fmod b) t) h g) : WP c A (binaryOp .Mod (.int a t) (.int b u)) Q E h g :=
  fun _ => mod_int' hb ⟨rfl, rfl, q _⟩
theorem x_ret0 {pos rest} {Q : PostV Flow} (q : Q (.ret .none) h g) : WP c A (execs (.Return none pos :: rest) env) Q E h g := x_cons fun _ => wpAny_Return_none ⟨rfl, rfl, q⟩
theorem back_cons {pos : Pos} {e : Expr} {es : List Expr} (he : starEach (e :: es) env = (false, eval e env) :: starEach es env) : backTo pos (starEach (e :: es) env) = (false, eval e env) :: backTo pos (starEach es env) := by
  rw [he]; rfl
theorem a_end {pos : Pos} {Q : PostV (List Value)} (x : Q [] h g) : WP c A (spliced (backTo pos (starEach [] env))) Q E h g := a_nil x
theorem a_e {pos : Pos} {e : Expr} {es : List Expr} {Q : PostV (List Value)} (x : WP c A (eval e env) (fun v h₁ g₁ => WP c A (spliced (backTo pos (starEach es env))) (fun vs h₂ g₂ => Q (v :: vs) h₂ g₂) E h₁ g₁) E h g)
    (he : starEach (e :: es) env = (false, eval e env) :: starEach es env := by rfl) : WP c A (spliced (backTo pos (starEach (e :: es) env))) Q E h g := by
  rw [back_cons he]; exact a_cons x
theorem c_fn {i : Nat} {fa : Addr} {cd : Value} {pos : Pos} {e : Expr} {es : List Expr} {Q : PostV Value} (hf : FnAt F.H F.mg i fa cd)
    (x : WP c A (spliced (backTo pos (starEach (e :: es) env))) (fun vs h₁ g₁ => (∀ b o, F.H.get? b = some o → h₁.get? b = some o) ∧ WP c A (call (.ref fa) vs) Q E h₁ g₁) E h g)
    (he : starEach (e :: es) env = (false, eval e env) :: starEach es env := by rfl) : WP c A (callWith pos (.ref fa) [] (backTo pos (starEach (e :: es) env)) []) Q E h g := by
  rw [back_cons he] at x ⊢; exact cw_fn hf x
theorem c_blt {id : String} {pos : Pos} {e : Expr} {es : List Expr} {Q : PostV Value}
    (x : WP c A (spliced (backTo pos (starEach (e :: es) env))) (fun vs h₁ g₁ => WP c A (call (.builtin id) vs) Q E h₁ g₁) E h g)
    (he : starEach (e :: es) env = (false, eval e env) :: starEach es env := by rfl) (hp : (backTo pos (starEach es env)).any (·.1) = false := by rfl) : WP c A (callWith pos (.builtin id) [] (backTo pos (starEach (e :: es) env)) []) Q E h g := by
  rw [back_cons he] at x ⊢
  exact cw_builtin (by simpa using hp) x
theorem c_cl {fa : Addr} {o : Obj} {fd : FuncData} {pos : Pos} {e : Expr} {es : List Expr} {Q : PostV Value} (hd : o.data = .func fd)
    (x : WP c A (spliced (backTo pos (starEach (e :: es) env))) (fun vs h₁ g₁ => h₁.get? fa = some o ∧ WP c A (call (.ref fa) vs) Q E h₁ g₁) E h g)
    (he : starEach (e :: es) env = (false, eval e env) :: starEach es env := by rfl) : WP c A (callWith pos (.ref fa) [] (backTo pos (starEach (e :: es) env)) []) Q E h g := by
  rw [back_cons he] at x ⊢
  intro tk
  refine Calls.callWith_function (o := o) (fd := fd) (Calls.evalArgs_plain ?_)
  exact x.step fun vs s' e1 e2 q => ⟨⟨q.1, hd⟩, q.2.at e1 e2⟩
theorem o_add' {a b r : Int} {t u : Tok} {Q : PostV Value} (hr : a + b = r) (q : ∀ t, Q (.int r t) h g) : WP c A (binaryOp .Add (.int a t) (.int b u)) Q E h g := o_add (hr ▸ q)
theorem o_sub' {a b r : Int} {t u : Tok} {Q : PostV Value} (hr : a - b = r) (q : ∀ t, Q (.int r t) h g) : WP c A (binaryOp .Sub (.int a t) (.int b u)) Q E h g := o_sub (hr ▸ q)
theorem o_mul' {a b r : Int} {t u : Tok} {Q : PostV Value} (hm : IntMulOk a b) (hr : a * b = r) (q : ∀ t, Q (.int r t) h g) : WP c A (binaryOp .Mult (.int a t) (.int b u)) Q E h g := o_mul hm (hr ▸ q)
theorem o_shr' {a b r : Int} {t u : Tok} {Q : PostV Value} (hb : 0 ≤ b) (hr : a.fdiv (2 ^ b.toNat) = r) (q : ∀ t, Q (.int r t) h g) : WP c A (binaryOp .RShift (.int a t) (.int b u)) Q E h g := o_shr hb (hr ▸ q)
theorem o_shl' {a b r : Int} {t u : Tok} {Q : PostV Value} (hb : 0 ≤ b) (hsz : (Builtin.Int.intBits a : Int) + b ≤ 2 ^ 27) (hr : a * 2 ^ b.toNat = r) (q : ∀ t, Q (.int r t) h g) : WP c A (binaryOp .LShift (.int a t) (.int b u)) Q E h g := o_shl hb hsz (hr ▸ q)
theorem o_xor' {a b r : Int} {t u : Tok} {Q : PostV Value} (hr : Builtin.bitXor a b = r) (q : ∀ t, Q (.int r t) h g) : WP c A (binaryOp .BitXor (.int a t) (.int b u)) Q E h g := o_xor (hr ▸ q)
theorem o_fdiv' {a b r : Int} {t u : Tok} {Q : PostV Value} (hb : b ≠ 0) (hs : b.natAbs < 1073741824) (hr : a.fdiv b = r) (q : ∀ t, Q (.int r t) h g) : WP c A (binaryOp .FloorDiv (.int a t) (.int b u)) Q E h g := o_fdiv hb hs (hr ▸ q)
theorem o_mod' {a b r : Int} {t u : Tok} {Q : PostV Value} (hb : b ≠ 0) (hr : a.fmod b = r) (q : ∀ t, Q (.int r t) h g) : WP c A (binaryOp .Mod (.int a t) (.int b u)) Q E h g := o_mod hb (hr ▸ q)
/-- a made def is called by callWith -/
theorem cw_cl {fa : Addr} {o : Obj} {fd : FuncData} {pos : Pos} {t : Sem Value} {rest : List (Bool × Sem Value)} {Q : PostV Value} (hd : o.data = .func fd)
    (x : WP c A (spliced ((false, t) :: rest)) (fun vs h₁ g₁ => h₁.get? fa = some o ∧ WP c A (call (.ref fa) vs) Q E h₁ g₁) E h g) :
    WP c A (callWith pos (.ref fa) [] ((false, t) :: rest) []) Q E h g := by
  intro tk
  refine Calls.callWith_function (o := o) (fd := fd) (Calls.evalArgs_plain ?_)
  exact x.step fun vs s' e1 e2 q => ⟨⟨q.1, hd⟩, q.2.at e1 e2⟩

theorem Lg.offH {gg : Heap} {L : Addr} {m : Str → Option Value} {cs : List Cell} (D : Lg F gg L m cs h) {a : Addr} {P : Obj → Prop} (hm : (a, P) ∈ cs) : F.H.get? a = none := by
  have h1 := (D.own _ hm).2.1
  cases e : F.H.get? a with
  | none => rfl
  | some o => rw [D.base _ _ e] at h1; cases h1
/-- what is no table stands in the base of a call -/
theorem base_get {as : List Addr} (O : Ok F h g) {b : Addr} {o : Obj} (e : h.get? b = some o) (hd : ∀ vs, o.data = .fields vs → ∃ q t, vs[1]? = some (.str q t)) (ha : b ∉ as) : (baseBut F h as).get? b = some o := by
  refine hideAll_get _ e fun q => ?_
  rcases List.mem_append.mp q with q | q
  · obtain ⟨n, hn, rfl⟩ := List.mem_map.mp q
    obtain ⟨ps, p1, p2, _⟩ := O.tabs n hn
    rw [e] at p1
    cases p1
    obtain ⟨q, t, r⟩ := hd ps rfl
    exact triples_one p2 q t (by rw [Array.getElem?_toList]; exact r)
  · exact ha q
theorem base_cell {as : List Addr} (O : Ok F h g) {b : Addr} {v : Option Value} (e : h.IsCell b v) (ha : b ∉ as) : (baseBut F h as).IsCell b v := by
  obtain ⟨o, h1, h2⟩ := e
  exact ⟨o, base_get O h1 (fun vs q => by rw [h2] at q; cases q) ha, h2⟩
theorem base_code {as : List Addr} (O : Ok F h g) {cd : Value} {q : Str} (e : h.CodeRec cd q) (ha : ∀ b o, cd = .ref b → h.get? b = some o → b ∉ as) : (baseBut F h as).CodeRec cd q := by
  obtain ⟨cc, o, vs, t, h1, h2, h3, h4⟩ := e
  exact ⟨cc, o, vs, t, h1, base_get O h2 (fun vs' q' => by rw [h3] at q'; cases q'; exact ⟨q, t, h4⟩) (ha _ _ h1 h2), h3, h4⟩
theorem base_code1 {l : Addr} {ol : Obj} (O : Ok F h g) {cd : Value} {q : Str} (e : h.CodeRec cd q) (hl : h.get? l = some ol) (ht : Tame ol) : (baseBut F h [l]).CodeRec cd q := by
  refine base_code O e fun b o e1 e2 hb => ?_
  obtain ⟨cc, o', vs, t, h1, h2, h3, h4⟩ := e
  rw [e1] at h1; cases h1
  rw [List.mem_singleton.mp hb, hl] at h2; cases h2
  exact (ht vs h3).2 _ _ h4
theorem codeRec_same {h h' : Heap} {a : Addr} {o : Obj} {cd : Value} {q : Str} (x : h.CodeRec cd q) (hs : Heap.SameBut a h h') (ha : h.get? a = some o) (ht : Tame o) : h'.CodeRec cd q := by
  obtain ⟨cc, oc, vs, t, h1, h2, h3, h4⟩ := x
  refine ⟨cc, oc, vs, t, h1, (hs.2 _ fun e => ?_).trans h2, h3, h4⟩
  rw [e, ha] at h2; cases h2
  exact (ht vs h3).2 _ _ h4
end

/- numbers -/
theorem land_high (x s : Nat) : x &&& (x / 2 ^ s * 2 ^ s) = x / 2 ^ s * 2 ^ s := by
  apply Nat.eq_of_testBit_eq
  intro i
  rw [Nat.testBit_and, Nat.testBit_mul_two_pow, Nat.testBit_div_two_pow]
  by_cases hi : s ≤ i
  · rw [show i - s + s = i by omega]
    cases x.testBit i <;> simp [hi]
  · simp [hi]
theorem xor_high (x s : Nat) : Builtin.bitXor (x : Int) ((x / 2 ^ s * 2 ^ s : Nat) : Int) = ((x % 2 ^ s : Nat) : Int) := by
  rw [bitXor_and, bitAnd_pp (Int.natCast_nonneg _) (Int.natCast_nonneg _)]
  simp only [Int.toNat_natCast]
  rw [land_high]
  have := Nat.div_add_mod x (2 ^ s)
  have e : 2 ^ s * (x / 2 ^ s) = x / 2 ^ s * 2 ^ s := Nat.mul_comm _ _
  omega
theorem shr_nat (x s : Nat) : (x : Int).fdiv (2 ^ ((s : Nat) : Int).toNat) = ((x / 2 ^ s : Nat) : Int) := by
  rw [Int.toNat_natCast, Int.fdiv_eq_ediv_of_nonneg _ (Int.pow_nonneg (by decide))]
  push_cast
  rfl
theorem shl_nat (x s : Nat) : (x : Int) * (2 ^ ((s : Nat) : Int).toNat) = ((x * 2 ^ s : Nat) : Int) := by
  rw [Int.toNat_natCast]
  push_cast
  rfl
/-- the number that digits tell -/
def val (b : Nat) : List Nat → Nat
  | [] => 0
  | d :: r => d + 2 ^ b * val b r
theorem val_append (b : Nat) : ∀ l r : List Nat, val b (l ++ r) = val b l + 2 ^ (b * l.length) * val b r
  | [], r => by simp [val]
  | d :: l, r => by
    rw [List.cons_append, val, val_append b l r, val, List.length_cons, Nat.mul_add, Nat.mul_add, ← Nat.mul_assoc (2 ^ b), ← Nat.pow_add, Nat.mul_one, Nat.add_comm b]
    omega
end Mine
end

noncomputable section
open PySem PySem.W PySem.Calls PyProof.Rows
set_option Elab.async false
set_option maxRecDepth 100000
set_option linter.unusedVariables false
set_option pp.deepTerms false
set_option pp.deepTerms.threshold 6
set_option pp.maxSteps 2000
namespace Mine
section
variable {c : Cx} {F : Fix}

/-- the made def of the text stands, with its cells -/
structure ClAt (h : Heap) (f : Addr) (r : DefRec) (q : Str) (clos : List (Str × Addr)) : Prop where
  ob : ∃ doc pm cdv ctv, h.get? f = some (fnObj r.name q r.params r.body r.scope clos doc pm cdv ctv) ∧ h.CodeRec cdv q

inductive PI2 (F : Fix) (l : Addr) (h : Heap) (items : Array Value) (b lo hi x : Nat) (r : Value) (h' : Heap) (g' : Gens) : Prop
  | mk (G : GrowBut F [l] h h') (O : Ok F h' g') (er : r = .none) (items' : Array Value) (I : ∃ o, h'.get? l = some o ∧ LsA items' o) (sz : items'.size = items.size)
    (out : ∀ i, i < lo ∨ hi ≤ i → items'[i]? = items[i]?) (ds : List Nat) (len : ds.length = hi - lo) (vl : val b ds = x) (dig : ∀ (j d : Nat), ds[j]? = some d → d < 2 ^ b ∧ ∃ t, items'[lo + j]? = some (.int d t)) : PI2 F l h items b lo hi x r h' g'
/-- between the ends -/
structure Mid (n k lo hi m : Nat) : Prop where
  lm : lo < m
  mh : m < hi
  k1 : m - lo ≤ k
  k2 : hi - m ≤ k
  nk : n + 1 + k ≤ 40
  e1 : m - lo + (hi - m) = hi - lo
theorem mid_of {n k lo hi m : Nat} (hk : hi - lo ≤ k + 1) (hlt : lo < hi) (hn : n + (k + 1) ≤ 40) (hone : ¬ lo + 1 = hi) (hm : m = (lo + hi) / 2) : Mid n k lo hi m := by
  have h1 : lo < m := by clear hk hn; omega
  have h2 : m < hi := by clear hk hn hone; omega
  exact ⟨h1, h2, by clear hm hn hone; omega, by clear hm hn hone; omega, by clear hm hk hone; omega, (Nat.add_comm _ _).trans (Nat.sub_add_sub_cancel (Nat.le_of_lt h2) (Nat.le_of_lt h1))⟩
theorem int_one {lo hi : Nat} (h : lo + 1 = hi) : (((lo : Int) + 1) == (hi : Int)) = true := by simp; omega
theorem int_none {lo hi : Nat} (h : ¬ lo + 1 = hi) : ¬ (((lo : Int) + 1) == (hi : Int)) = true := by simp; omega
theorem lt63_of {lo hi k : Nat} (h : lo < hi) (h2 : hi ≤ k) (h3 : k ≤ 200 := by decide) : (lo : Int) < 2 ^ 63 := by omega
theorem not_at {lo hi i : Nat} (h : lo + 1 = hi) (hi' : i < lo ∨ hi ≤ i) : lo ≠ i := by omega
theorem len_at {lo hi : Nat} (h : lo + 1 = hi) : hi - lo = 1 := by omega
theorem bits_at {x : Int} {s : Nat} (h1 : Builtin.Int.intBits x ≤ 800) (h2 : s ≤ 2000) : (Builtin.Int.intBits x : Int) + (s : Int) ≤ 2 ^ 27 := by omega
theorem at_off {lo m j l : Nat} (hl : l = m - lo) (hlm : lo < m) (hj : ¬ j < l) : m + (j - l) = lo + j := by omega
theorem at_in {lo m j l : Nat} (hl : l = m - lo) (hj : j < l) : lo + j < m := by omega
theorem i2d_inner (S : St F) {f ca ci cn l : Addr} {q : Str} {b : Nat} {tb : Tok} (hb : 1 ≤ b) (hb' : b ≤ 8) (hl : F.H.get? l = none) :
    ∀ k : Nat, ∀ {A : Around} {n : Nat} {E : PostV Value} {h : Heap} {g : Gens} (x lo hi : Nat) (tx tl th : Tok) (items : Array Value), hi - lo ≤ k → lo < hi → hi ≤ items.size → hi ≤ 200 → x < 2 ^ (b * (hi - lo)) → x < 2 ^ 200 →
      Ok F h g → AOk A n → n + k ≤ 40 → ClAt h f (subRec 8 1) q [(Str.ofString "n", cn), (Str.ofString "inner", ci), (Str.ofString "a_digits", ca)] →
      h.IsCell ca (some (.ref l)) → h.IsCell ci (some (.ref f)) → h.IsCell cn (some (.int b tb)) → (∃ o, h.get? l = some o ∧ LsA items o) →
      WP c A (call (.ref f) [.int x tx, .int lo tl, .int hi th]) (fun r h' g' => PI2 F l h items b lo hi x r h' g') E h g
  | 0, A, n, E, h, g, x, lo, hi, tx, tl, th, items, hk, hlt, _, _, _, _, _, _, _, _, _, _, _, _ => absurd (Nat.sub_pos_of_lt hlt) (Nat.not_lt.mpr hk)
  | k + 1, A, n, E, h, g, x, lo, hi, tx, tl, th, items, hk, hlt, hsz, hi200, hx, hx200, O, hA, hn, hf, hca, hci, hcn, hli => by
    refine WP.abs fun Q0 hQ0 => ?_
    obtain ⟨doc, pm, cdv, ctv, hf, hcd⟩ := hf.ob
    obtain ⟨ol, hol, hpl⟩ := id hli
    have ca_l : ca ∉ [l] := fun e => by
      obtain ⟨o, h1, h2⟩ := hca
      obtain ⟨_, n, e'⟩ := hpl
      rw [List.mem_singleton.mp e, hol] at h1; cases h1
      rw [h2] at e'; cases e'
    have ci_l : ci ∉ [l] := fun e => by
      obtain ⟨o, h1, h2⟩ := hci
      obtain ⟨_, n, e'⟩ := hpl
      rw [List.mem_singleton.mp e, hol] at h1; cases h1
      rw [h2] at e'; cases e'
    have cn_l : cn ∉ [l] := fun e => by
      obtain ⟨o, h1, h2⟩ := hcn
      obtain ⟨_, n, e'⟩ := hpl
      rw [List.mem_singleton.mp e, hol] at h1; cases h1
      rw [h2] at e'; cases e'
    have f_l : f ∉ [l] := fun e => by
      obtain ⟨_, n, e'⟩ := hpl
      rw [List.mem_singleton.mp e, hol] at hf
      cases hf; cases e'
    have gca := base_cell (as := [l]) O hca ca_l
    have gci := base_cell (as := [l]) O hci ci_l
    have gcn := base_cell (as := [l]) O hcn cn_l
    have gf := base_get (as := [l]) O hf (fun vs q => by cases q) f_l
    have gcd := base_code1 (l := l) O hcd hol hpl.tame
    refine call_cl (cs := [(l, LsA items)]) (binds := [(Str.ofString "x", .int x tx), (Str.ofString "L", .int lo tl), (Str.ofString "R", .int hi th)]) S O hA (Nat.le_trans (Nat.le_trans (Nat.le_add_right _ _) hn) (by decide)) (r := subRec 8 1) rfl hf hcd ?_ ?_ (fun _ _ _ _ => ?_) ?_ ?_ fun L h₁ D hk₁ hA' => ?_
    · intro p hp
      cases List.mem_singleton.mp hp
      exact ⟨hli, hl, fun _ p => p.tame⟩
    · simp
    · kernel_rfl
    · kernel_rfl
    · kernel_rfl
    have lt63 : (lo : Int) < 2 ^ 63 := lt63_of hlt hi200
    refine x_if ?_
    refine t_cmp ?_
    refine e_bin ?_
    refine n_local D.ns rfl ?_
    refine e_int fun t1 => ?_
    refine o_add fun t2 => ?_
    refine n_local D.ns rfl ?_
    refine o_eq ?_
    refine t_bool ?_
    by_cases hone : lo + 1 = hi
    · rw [if_pos (int_one hone)]
      refine x_setsub ?_
      refine n_local D.ns rfl ?_
      refine n_free (gca.keeps D.keep) rfl ?_
      refine n_local D.ns rfl ?_
      refine l_set (D.get (.head _)) (Int.natCast_nonneg _) lt63 (Int.ofNat_lt.mpr (Nat.lt_of_lt_of_le hlt hsz)) fun h₂ h1 h2 => ?_
      refine x_ret0 ?_
      have D₂ := D.upd (.here) h2 h1 (fun _ p => LsA.tame p)
      refine hQ0 _ _ _ ⟨D₂.growB, D₂.ok O.bare, rfl, items.setIfInBounds lo (.int x tx), D₂.get (.head _), by simp, fun i hi => by rw [Array.getElem?_setIfInBounds_ne (not_at hone hi)], [x], (len_at hone).symm, by simp [val], fun j d hd => ?_⟩
      cases j with
      | succ j => simp at hd
      | zero =>
        simp only [List.getElem?_cons_zero, Option.some.injEq] at hd
        subst hd
        refine ⟨by rw [len_at hone, Nat.mul_one] at hx; exact hx, tx, ?_⟩
        rw [Nat.add_zero, Array.getElem?_setIfInBounds_self_of_lt (Nat.lt_of_lt_of_le hlt hsz)]
    · rw [if_neg (int_none hone)]
      refine x_nil ?_
      obtain ⟨m, hm⟩ : ∃ m, m = (lo + hi) / 2 := ⟨_, rfl⟩
      have M := mid_of hk hlt hn hone hm
      have hm2 : m ≤ 200 := Nat.le_trans (Nat.le_of_lt M.mh) hi200
      obtain ⟨s, hs⟩ : ∃ s, s = (m - lo) * b := ⟨_, rfl⟩
      have hs200 : s ≤ 2000 := by rw [hs]; exact Nat.le_trans (Nat.mul_le_mul (Nat.le_trans (Nat.sub_le m lo) hm2) hb') (by decide)
      refine x_assign (e_bin (e_bin (n_local D.ns rfl (n_local D.ns rfl (o_add' (r := ((lo + hi : Nat) : Int)) (by push_cast; rfl) fun t3 => e_int fun t4 => o_shr' (r := (m : Int)) (by decide) ?_ fun t5 => ?_)))))
      · rw [hm]; exact shr_nat (lo + hi) 1
      refine s_local D.ns (fun h₂ h1 h2 => ?_)
      replace D := D.store h1 h2
      refine x_assign (e_bin (e_bin (n_local h1 rfl (n_local h1 rfl (o_sub' (r := ((m - lo : Nat) : Int)) (Int.ofNat_sub (Nat.le_of_lt M.lm)).symm fun t3 => n_free (gcn.keeps D.keep) rfl (o_mul' (r := (s : Int)) (.of_right (intBits_le_64 (by clear hx hx200 hk hlt hm hs hone M; omega) (by clear hx hx200 hk hlt hm hs hone M; omega))) ?_ fun t5 => ?_))))))
      · rw [hs]; push_cast; rfl
      refine s_local h1 (fun h₂ h1 h2 => ?_)
      replace D := D.store h1 h2
      refine x_assign (e_bin (n_local h1 rfl (n_local h1 rfl (o_shr' (r := ((x / 2 ^ s : Nat) : Int)) (Int.natCast_nonneg _) (shr_nat x s) fun t5 => ?_))))
      refine s_local h1 (fun h₂ h1 h2 => ?_)
      replace D := D.store h1 h2
      have hbits : Builtin.Int.intBits ((x / 2 ^ s : Nat) : Int) ≤ 200 := intBits_le (by rw [Int.natAbs_natCast]; exact Nat.lt_of_le_of_lt (Nat.div_le_self _ _) hx200)
      refine x_assign (e_bin (n_local h1 rfl (e_bin (n_local h1 rfl (n_local h1 rfl (o_shl' (r := ((x / 2 ^ s * 2 ^ s : Nat) : Int)) (Int.natCast_nonneg _) (bits_at (Nat.le_trans hbits (by decide)) hs200) (shl_nat _ _) fun t6 => o_xor' (xor_high x s) fun t7 => ?_))))))
      refine s_local h1 (fun h₂ h1 h2 => ?_)
      replace D := D.store h1 h2
      have hsb : b * (hi - lo) = b * (hi - m) + s := by
        rw [hs, Nat.mul_comm (m - lo), ← Nat.mul_add, show hi - m + (m - lo) = hi - lo from (Nat.add_comm _ _).trans M.e1]
      have hlow : x % 2 ^ s < 2 ^ (b * (m - lo)) := by rw [Nat.mul_comm b, ← hs]; exact Nat.mod_lt _ (Nat.two_pow_pos _)
      have hup : x / 2 ^ s < 2 ^ (b * (hi - m)) := Nat.div_lt_of_lt_mul (by rw [hsb, Nat.pow_add, Nat.mul_comm] at hx; exact hx)
      refine x_expr (e_call (n_free (gci.keeps D.keep) rfl (cw_cl (o := fnObj (subRec 8 1).name q (subRec 8 1).params (subRec 8 1).body (subRec 8 1).scope [(Str.ofString "n", cn), (Str.ofString "inner", ci), (Str.ofString "a_digits", ca)] doc pm cdv ctv) rfl (a_cons (n_local h1 rfl (a_cons (n_local h1 rfl (a_cons (n_local h1 rfl (a_nil ⟨D.keep _ _ gf, ?_⟩)))))))))) 
      refine (i2d_inner S hb hb' hl k (x % 2 ^ s) lo m _ _ _ items M.k1 M.lm (Nat.le_trans (Nat.le_of_lt M.mh) hsz) hm2 hlow (Nat.lt_of_le_of_lt (Nat.mod_le _ _) hx200) (D.ok O.bare) hA' M.nk ⟨_, _, _, _, D.keep _ _ gf, gcd.keeps D.keep⟩
        (gca.keeps D.keep) (gci.keeps D.keep) (gcn.keeps D.keep) (D.get (.head _))).monoQ fun v h' g' qq => ?_
      obtain ⟨G1, O1, e1, items₁, I1, sz1, out1, ds1, len1, val1, dig1⟩ := qq
      subst e1
      refine ⟨(fun _ q => by cases q), ?_⟩
      replace D := D.callUp base_offB .here G1 O1.tabs I1 (fun _ p => LsA.tame p)
      refine x_expr (e_call (n_free (gci.keeps D.keep) rfl (cw_cl (o := fnObj (subRec 8 1).name q (subRec 8 1).params (subRec 8 1).body (subRec 8 1).scope [(Str.ofString "n", cn), (Str.ofString "inner", ci), (Str.ofString "a_digits", ca)] doc pm cdv ctv) rfl (a_cons (n_local D.ns rfl (a_cons (n_local D.ns rfl (a_cons (n_local D.ns rfl (a_nil ⟨D.keep _ _ gf, ?_⟩)))))))))) 
      refine (i2d_inner S hb hb' hl k (x / 2 ^ s) m hi _ _ _ items₁ M.k2 M.mh (sz1 ▸ hsz) hi200 hup (Nat.lt_of_le_of_lt (Nat.div_le_self _ _) hx200) (D.ok O1.bare) hA' M.nk ⟨_, _, _, _, D.keep _ _ gf, gcd.keeps D.keep⟩
        (gca.keeps D.keep) (gci.keeps D.keep) (gcn.keeps D.keep) (D.get (.head _))).monoQ fun v h' g' qq => ?_
      obtain ⟨G2, O2, e2, items₂, I2, sz2, out2, ds2, len2, val2, dig2⟩ := qq
      subst e2
      refine ⟨(fun _ q => by cases q), ?_⟩
      replace D := D.callUp base_offB .here G2 O2.tabs I2 (fun _ p => LsA.tame p)
      refine x_nil <| hQ0 _ _ _ ⟨D.growB, D.ok O2.bare, rfl, items₂, I2, sz2.trans sz1, fun i h => (out2 i (h.imp_left fun q => Nat.lt_trans q M.lm)).trans (out1 i (h.imp_right fun q => Nat.le_trans (Nat.le_of_lt M.mh) q)), ds1 ++ ds2, by rw [List.length_append, len1, len2]; exact M.e1, ?_, fun j d hd => ?_⟩
      · rw [val_append, val1, val2, len1, Nat.mul_comm b, ← hs]
        exact Nat.mod_add_div x (2 ^ s)
      · by_cases hj : j < ds1.length
        · rw [List.getElem?_append_left hj] at hd
          obtain ⟨d1, t, d2⟩ := dig1 j d hd
          exact ⟨d1, t, (out2 _ (.inl (at_in len1 hj))).trans d2⟩
        · rw [List.getElem?_append_right (Nat.le_of_not_lt hj)] at hd
          obtain ⟨d1, t, d2⟩ := dig2 _ d hd
          exact ⟨d1, t, by rw [← d2, at_off len1 M.lm hj]⟩
end
end Mine
end

noncomputable section
open PySem PySem.W PySem.Calls PyProof.Rows
set_option Elab.async false
set_option maxRecDepth 100000
set_option linter.unusedVariables false
set_option pp.deepTerms false
set_option pp.deepTerms.threshold 6
set_option pp.maxSteps 2000
namespace Mine
theorem foldl_rep_size (v : Value) : ∀ (k : Nat) (acc : Array Value), (List.foldl (fun x1 x2 => x1 ++ x2) acc (List.replicate k #[v])).size = acc.size + k
  | 0, acc => rfl
  | k + 1, acc => by rw [List.replicate_succ, List.foldl_cons, foldl_rep_size v k]; simp; omega
section
variable {c : Cx} {F : Fix} {A : Around} {n : Nat} {E : PostV Value} {h : Heap} {g : Gens}
inductive PI (F : Fix) (h : Heap) (a b : Nat) (r : Value) (h' : Heap) (g' : Gens) : Prop
  | mk (G : Grow F h h') (O : Ok F h' g') (l : Addr) (items : Array Value) (ds : List Nat) (er : r = .ref l) (hn : h.get? l = none) (I : h'.IsList l items) (sz : items.size = ds.length) (vl : val b ds = a) (len : ds.length ≤ 18)
    (dig : ∀ (j d : Nat), ds[j]? = some d → d < 2 ^ b ∧ ∃ t, items[j]? = some (.int d t)) : PI F h a b r h' g'
theorem int2digits (S : St F) (O : Ok F h g) (hA : AOk A n) (hn : n ≤ 20) {fa cc : Addr} (hf : FnAt F.H F.mg 8 fa (.ref cc)) {nt : NestAt} (mem : nt ∈ F.ns) (C : CodeHd F.H cc nt.P) (hpos : nt.pos = (subRec 8 1).pos)
    (hq : nt.q = (recAt 8).name ++ ".<locals>." ++ (subRec 8 1).name) (a b : Nat) (t u : Tok) (hb : 1 ≤ b) (hb' : b ≤ 8) (ha : a < 2 ^ 18) :
    WP c A (call (.ref fa) [.int a t, .int b u]) (fun r h' g' => PI F h a b r h' g') E h g := by
  refine WP.abs fun Q0 hQ0 => ?_
  refine call_fnC (binds := [(Str.ofString "a", .int a t), (Str.ofString "n", .int b u)]) S O hA (le0 hn) hf rfl (fun _ _ => ?_) ?_ ?_ fun L h₁ D hA' => ?_
  · kernel_rfl
  · intro n x hx
    rcases List.mem_cons.mp hx with rfl | hx
    · exact .inl (by kernel_rfl)
    · cases List.mem_singleton.mp hx
      exact .inr ⟨by kernel_rfl, by kernel_rfl⟩
  · decide +kernel
  replace D : Lg F (baseOf F h) L _ [(L + 3, CellA none), (L + 2, CellA none), (L + 1, CellA (some (.int b u)))] h₁ := D
  obtain ⟨bits, hbits⟩ : ∃ x, x = Builtin.Int.intBits (a : Int) := ⟨_, rfl⟩
  have hbits18 : bits ≤ 18 := by rw [hbits]; exact intBits_le (by rw [Int.natAbs_natCast]; exact ha)
  obtain ⟨k, hk⟩ : ∃ k, k = (bits + b - 1) / b := ⟨_, rfl⟩
  have hdm := Nat.div_add_mod (bits + b - 1) b
  have hmod := Nat.mod_lt (bits + b - 1) (show b > 0 by omega)
  rw [← hk] at hdm
  have hkb : bits ≤ b * k := by omega
  have hk100 : k ≤ 18 := by
    refine Nat.le_trans ?_ hbits18
    by_cases h0 : bits = 0
    · rw [hk, h0, Nat.zero_add, Nat.div_eq_of_lt (by omega)]
      exact Nat.zero_le _
    · rw [hk]
      refine Nat.div_le_of_le_mul ?_
      have : b ≤ b * bits := Nat.le_mul_of_pos_right _ (by omega)
      obtain ⟨b1, rfl⟩ : ∃ b1, b = b1 + 1 := ⟨b - 1, by omega⟩
      have : b1 ≤ b1 * bits := Nat.le_mul_of_pos_right _ (by omega)
      rw [Nat.add_mul]
      omega
  refine x_assign ?_
  refine e_bin ?_
  refine e_list ?_
  refine a_e (e_int fun t1 => a_end ⟨(show 1 ≤ sizeLine by decide), ?_⟩)
  have D := D.newList #[.int 0 t1]
  refine e_bin (e_bin (e_bin (e_bits (n_local D.ns rfl ⟨_, _, rfl, fun t2 => n_cell (D.get (.tail _ (.tail _ (.tail _ (.head _))))) rfl (o_add' (r := ((bits + b : Nat) : Int)) (by rw [hbits]; push_cast; rfl) fun t3 => e_int fun t4 => o_sub' (r := ((bits + b - 1 : Nat) : Int)) (by omega) fun t5 => ?_)⟩))))
  refine n_cell (D.get (.tail _ (.tail _ (.tail _ (.head _))))) rfl (o_fdiv' (r := (k : Int)) (by omega) (by omega) (by rw [hk, Int.fdiv_eq_ediv_of_nonneg _ (by omega)]; push_cast; rfl) fun t6 => ?_)
  obtain ⟨n1, e1⟩ := D.isL (.head _)
  refine l_mul e1 (by omega) (by omega) (by simp; omega) ?_
  have D := D.newList (List.foldl (fun x1 x2 => x1 ++ x2) #[] (List.replicate (if (#[Value.int 0 t1] : Array Value).isEmpty = true then 0 else ((k : Nat) : Int).toNat) #[Value.int 0 t1]))
  generalize hits : List.foldl (fun x1 x2 => x1 ++ x2) #[] (List.replicate (if (#[Value.int 0 t1] : Array Value).isEmpty = true then 0 else ((k : Nat) : Int).toNat) #[Value.int 0 t1]) = items at D
  have hitsz : items.size = k := by rw [← hits, foldl_rep_size]; simp
  generalize hl : (h₁.push _).objs.size = l at D
  refine s_cell (D.get (.tail _ (.tail _ (.tail _ (.head _))))) rfl fun h₂ i1 i2 => ?_
  have D := D.upd (.there (.there (.there .here))) i2 i1 (fun _ => cell_tame)
  refine x_def S D base_off mem C hpos hq rfl rfl rfl fun f h₃ cdv doc ctv pm hfn hkeep D hcd => ?_
  refine s_cell (D.get (.tail _ (.tail _ (.tail _ (.head _))))) rfl fun h₄ j1 j2 => ?_
  obtain ⟨oi, oi1, oi2⟩ := D.get (.tail _ (.tail _ (.tail _ (.head _))))
  replace hcd := codeRec_same hcd j2 oi1 (cell_tame oi2)
  replace D := D.upd (.there (.there (.there .here))) j2 j1 (fun _ => cell_tame)
  refine x_if (t_plain (n_local D.ns rfl (t_int ?_)))
  have D := D.weak (.there .here) (fun _ p => PlA.ls p) (fun _ p => p.tame)
  by_cases ha0 : a = 0
  · rw [if_neg (by simp [ha0])]
    refine x_nil ?_
    refine x_ret (n_cell (D.get (.tail _ (.tail _ (.tail _ (.tail _ (.head _)))))) rfl ?_)
    have hk0 : k = 0 := by
      have : bits = 0 := by rw [hbits, ha0]; rfl
      rw [hk, this, Nat.zero_add]
      exact Nat.div_eq_of_lt (by omega)
    exact hQ0 _ _ _ ⟨D.grow, D.ok O.bare, l, items, [], rfl, D.was M1, D.get M1, by rw [hitsz, hk0]; rfl, by rw [ha0]; rfl, by simp, fun j d q => by simp at q⟩
  · rw [if_pos (by simp [ha0])]
    have hk1 : 0 < k := by
      refine Nat.pos_of_ne_zero fun e => ?_
      rw [e, Nat.mul_zero] at hkb
      have h0 : bits = 0 := by omega
      have := intBits_le_iff.mp (show Builtin.Int.intBits (a : Int) ≤ 0 by omega)
      simp at this
      exact ha0 this
    have hab : a < 2 ^ (b * (k - 0)) := by
      have := intBits_le_iff.mp (show Builtin.Int.intBits (a : Int) ≤ b * k by omega)
      simpa using this
    refine x_expr (e_call (n_cell (D.get M3) rfl (c_cl rfl (a_e (n_local D.ns rfl (a_e (e_int fun t7 => a_e (e_call (n_blt S D.st boot_len (c_blt (a_e (n_cell (D.get M4) rfl (a_end (l_len (D.get M1) (by omega) fun t8 => a_end ⟨D.getE M0, ?_⟩))))))))))))))
    rw [hitsz]
    refine (i2d_inner S hb hb' (D.offH (.tail _ (.head _))) k a 0 k _ _ _ items (by omega) (by omega) (by omega) (by omega) hab (Nat.lt_trans ha (by decide)) (D.ok O.bare) hA' (by omega) ⟨_, _, _, _, D.getE (.head _), hcd⟩
      (D.get M4) (D.get M3) (D.get M5) (D.get M1)).monoQ fun v h' g' qq => ?_
    obtain ⟨G1, O1, e1, items₁, I1, sz1, out1, ds1, len1, val1, dig1⟩ := qq
    subst e1
    refine ⟨(fun _ q => by cases q), ?_⟩
    replace D := D.callUp base_off (.there .here) G1 O1.tabs I1 (fun _ p => LsA.tame p)
    refine x_nil ?_
    refine x_ret (n_cell (D.get (.tail _ (.tail _ (.tail _ (.tail _ (.head _)))))) rfl ?_)
    exact hQ0 _ _ _ ⟨D.grow, D.ok O1.bare, l, items₁, ds1, rfl, D.was M1, D.get M1, by omega, val1, by omega, fun j d q => by simpa using dig1 j d q⟩
end
end Mine
end

noncomputable section
open PySem PySem.W PySem.Calls PyProof.Rows
set_option Elab.async false
set_option maxRecDepth 100000
set_option linter.unusedVariables false
set_option pp.deepTerms false
set_option pp.deepTerms.threshold 6
set_option pp.maxSteps 2000
namespace Mine
theorem val_lt (b : Nat) : ∀ ds : List Nat, (∀ d ∈ ds, d < 2 ^ b) → val b ds < 2 ^ (b * ds.length)
  | [], _ => by simp [val]
  | d :: r, h => by
    have h1 := h d (.head _)
    have h2 := val_lt b r fun x hx => h x (.tail _ hx)
    rw [val, List.length_cons, Nat.mul_add, Nat.mul_one, Nat.pow_add, Nat.mul_comm _ (2 ^ b)]
    have h3 : 2 ^ b * (val b r + 1) ≤ 2 ^ b * 2 ^ (b * r.length) := Nat.mul_le_mul_left _ h2
    rw [Nat.mul_add] at h3
    omega
theorem val_split (b : Nat) (ds : List Nat) (lo m hi : Nat) (h1 : lo ≤ m) (h2 : m ≤ hi) (h3 : hi ≤ ds.length) :
    val b ((ds.drop lo).take (hi - lo)) = val b ((ds.drop lo).take (m - lo)) + 2 ^ ((m - lo) * b) * val b ((ds.drop m).take (hi - m)) := by
  have e : (ds.drop lo).take (hi - lo) = (ds.drop lo).take (m - lo) ++ (ds.drop m).take (hi - m) := by
    have : hi - lo = (m - lo) + (hi - m) := by rw [Nat.add_comm]; exact (Nat.sub_add_sub_cancel h2 h1).symm
    rw [this, List.take_add, List.drop_drop, Nat.add_sub_cancel' h1]
  rw [e, val_append, List.length_take, List.length_drop, Nat.min_eq_left (Nat.sub_le_sub_right (Nat.le_trans h2 h3) _), Nat.mul_comm b]
section
variable {c : Cx} {F : Fix}
theorem base_list {as : List Addr} {h : Heap} {g : Gens} (O : Ok F h g) {b : Addr} {items : Array Value} (e : h.IsList b items) (ha : b ∉ as) : (baseBut F h as).IsList b items := by
  obtain ⟨o, h1, h2, n, h3⟩ := e
  exact ⟨o, base_get O h1 (fun vs q => by rw [h3] at q; cases q) ha, h2, n, h3⟩
theorem l_keeps {h h' : Heap} {b : Addr} {items : Array Value} (e : h.IsList b items) (k : ∀ b o, h.get? b = some o → h'.get? b = some o) : h'.IsList b items := let ⟨o, h1, r⟩ := e; ⟨o, k _ _ h1, r⟩

theorem d2i_inner (S : St F) {f ca ci cn l : Addr} {q : Str} {b : Nat} {tb : Tok} (hb : 1 ≤ b) (hb' : b ≤ 8) (ds : List Nat) (items : Array Value) (hds : ∀ d ∈ ds, d < 2 ^ b) (hit : ∀ (j d : Nat), ds[j]? = some d → ∃ t, items[j]? = some (.int d t)) (hlen : ds.length ≤ 100) :
    ∀ k : Nat, ∀ {A : Around} {n : Nat} {E : PostV Value} {h : Heap} {g : Gens} (lo hi : Nat) (tl th : Tok), hi - lo ≤ k → lo < hi → hi ≤ ds.length →
      Ok F h g → AOk A n → n + k ≤ 40 → ClAt h f (subRec 9 0) q [(Str.ofString "n", cn), (Str.ofString "inner", ci), (Str.ofString "digits", ca)] →
      h.IsCell ca (some (.ref l)) → h.IsCell ci (some (.ref f)) → h.IsCell cn (some (.int b tb)) → h.IsList l items →
      WP c A (call (.ref f) [.int lo tl, .int hi th]) (fun r h' g' => Grow F h h' ∧ Ok F h' g' ∧ ∃ t, r = .int (val b ((ds.drop lo).take (hi - lo)) : Nat) t) E h g
  | 0, A, n, E, h, g, lo, hi, tl, th, hk, hlt, _, _, _, _, _, _, _, _, _ => absurd (Nat.sub_pos_of_lt hlt) (Nat.not_lt.mpr hk)
  | k + 1, A, n, E, h, g, lo, hi, tl, th, hk, hlt, hsz, O, hA, hn, hf, hca, hci, hcn, hli => by
    refine WP.abs fun Q0 hQ0 => ?_
    obtain ⟨doc, pm, cdv, ctv, hf, hcd⟩ := hf.ob
    have gca := base_cell (as := []) O hca (by simp)
    have gci := base_cell (as := []) O hci (by simp)
    have gcn := base_cell (as := []) O hcn (by simp)
    have gl := base_list (as := []) O hli (by simp)
    have gf := base_get (as := []) O hf (fun vs q => by cases q) (by simp)
    have gcd := base_code (as := []) O hcd (by simp)
    refine call_cl (cs := []) (binds := [(Str.ofString "L", .int lo tl), (Str.ofString "R", .int hi th)]) S O hA (Nat.le_trans (Nat.le_trans (Nat.le_add_right _ _) hn) (by decide)) (r := subRec 9 0) rfl hf hcd (by simp) (by simp) (fun _ _ _ _ => ?_) ?_ ?_ fun L h₁ D hk₁ hA' => ?_
    · kernel_rfl
    · kernel_rfl
    · kernel_rfl
    refine x_if (t_cmp (e_bin (n_local D.ns rfl (e_int fun t1 => o_add fun t2 => n_local D.ns rfl (o_eq (t_bool ?_))))))
    have D0 : ∀ {m : Str → Option Value} {h' : Heap}, Lg F (baseBut F h (([] : List Cell).map (·.1))) L m [] h' → Grow F h h' := fun D => ⟨fun b o hb e => D.growB.keep b o hb (by simp) e⟩
    by_cases hone : lo + 1 = hi
    · rw [if_pos (int_one hone)]
      have hlo : lo < ds.length := Nat.lt_of_lt_of_le hlt hsz
      have hd : ds[lo]? = some (ds[lo]'hlo) := List.getElem?_eq_getElem hlo
      obtain ⟨t, ht⟩ := hit _ _ hd
      refine x_ret (e_sub (n_free (gca.keeps D.keep) rfl (n_local D.ns rfl (sb_list (l_keeps gl D.keep) (Int.natCast_nonneg _) (lt63_of hlo hlen) (x := .int (ds[lo]'hlo : Nat) t) ht ?_))))
      refine hQ0 _ _ _ ⟨D0 D, D.ok O.bare, t, ?_⟩
      rw [len_at hone, List.drop_eq_getElem_cons hlo, List.take_succ_cons, List.take_zero]
      simp [val]
    · rw [if_neg (int_none hone)]
      refine x_nil ?_
      obtain ⟨m, hm⟩ : ∃ m, m = (lo + hi) / 2 := ⟨_, rfl⟩
      obtain ⟨s, hs⟩ : ∃ s, s = (m - lo) * b := ⟨_, rfl⟩
      have M := mid_of hk hlt hn hone hm
      have hml : m ≤ ds.length := Nat.le_trans (Nat.le_of_lt M.mh) hsz
      have hs200 : s ≤ 2000 := by rw [hs]; exact Nat.le_trans (Nat.mul_le_mul (Nat.le_trans (Nat.sub_le m lo) (Nat.le_trans hml hlen)) hb') (by decide)
      refine x_assign (e_bin (e_bin (n_local D.ns rfl (n_local D.ns rfl (o_add' (r := ((lo + hi : Nat) : Int)) (by push_cast; rfl) fun t3 => e_int fun t4 => o_shr' (r := (m : Int)) (by decide) ?_ fun t5 => ?_)))))
      · rw [hm]; exact shr_nat (lo + hi) 1
      refine s_local D.ns (fun h₂ h1 h2 => ?_)
      replace D := D.store h1 h2
      refine x_assign (e_bin (e_bin (n_local h1 rfl (n_local h1 rfl (o_sub' (r := ((m - lo : Nat) : Int)) (Int.ofNat_sub (Nat.le_of_lt M.lm)).symm fun t3 => n_free (gcn.keeps D.keep) rfl (o_mul' (r := (s : Int)) (.of_right (intBits_le_64 (by clear hk hlt hm hs hone M; omega) (by clear hk hlt hm hs hone M; omega))) ?_ fun t5 => ?_))))))
      · rw [hs]; push_cast; rfl
      refine s_local h1 (fun h₂ h1 h2 => ?_)
      replace D := D.store h1 h2
      refine x_ret (e_bin (e_bin (e_call (n_free (gci.keeps D.keep) rfl (c_cl rfl (a_e (n_local h1 rfl (a_e (n_local h1 rfl (a_end ⟨D.keep _ _ gf, ?_⟩))))))))))
      refine (d2i_inner S hb hb' ds items hds hit hlen k m hi _ _ M.k2 M.mh hsz (D.ok O.bare) hA' M.nk ⟨_, _, _, _, D.keep _ _ gf, gcd.keeps D.keep⟩
        (gca.keeps D.keep) (gci.keeps D.keep) (gcn.keeps D.keep) (l_keeps gl D.keep)).monoQ fun v h' g' qq => ?_
      obtain ⟨G1, O1, tv, e1⟩ := qq
      subst e1
      replace D := D.callB G1 O1.tabs
      have hv := val_lt b ((ds.drop m).take (hi - m)) fun d hd => hds d (List.mem_of_mem_drop (List.mem_of_mem_take hd))
      have hlen' : ((ds.drop m).take (hi - m)).length ≤ 100 := by rw [List.length_take]; exact Nat.le_trans (Nat.min_le_right _ _) (by rw [List.length_drop]; exact Nat.le_trans (Nat.sub_le _ _) hlen)
      have hbits : Builtin.Int.intBits ((val b ((ds.drop m).take (hi - m)) : Nat) : Int) ≤ 800 := intBits_le (by
        rw [Int.natAbs_natCast]
        exact Nat.lt_of_lt_of_le hv (Nat.pow_le_pow_right (by decide) (Nat.le_trans (Nat.mul_le_mul hb' hlen') (by decide))))
      refine n_local D.ns rfl (o_shl' (r := ((val b ((ds.drop m).take (hi - m)) * 2 ^ s : Nat) : Int)) (Int.natCast_nonneg _) (bits_at hbits hs200) (shl_nat _ _) fun t6 => ?_)
      refine e_call (n_free (gci.keeps D.keep) rfl (c_cl rfl (a_e (n_local D.ns rfl (a_e (n_local D.ns rfl (a_end ⟨D.keep _ _ gf, ?_⟩)))))))
      refine (d2i_inner S hb hb' ds items hds hit hlen k lo m _ _ M.k1 M.lm hml (D.ok O1.bare) hA' M.nk ⟨_, _, _, _, D.keep _ _ gf, gcd.keeps D.keep⟩
        (gca.keeps D.keep) (gci.keeps D.keep) (gcn.keeps D.keep) (l_keeps gl D.keep)).monoQ fun v h' g' qq => ?_
      obtain ⟨G2, O2, tv2, e2⟩ := qq
      subst e2
      replace D := D.callB G2 O2.tabs
      refine o_add fun t9 => hQ0 _ _ _ ⟨D0 D, D.ok O2.bare, t9, ?_⟩
      rw [val_split b ds lo m hi (Nat.le_of_lt M.lm) (Nat.le_of_lt M.mh) hsz, ← hs]
      rw [Nat.mul_comm (2 ^ s), Int.natCast_add, Int.add_comm]
/-- digits in a list -/
def DigsAt (items : Array Value) (ds : List Nat) (b : Nat) : Prop := items.size = ds.length ∧ (∀ d ∈ ds, d < 2 ^ b) ∧ ∀ (j d : Nat), ds[j]? = some d → ∃ t, items[j]? = some (.int d t)

theorem digits2int (S : St F) {A : Around} {n : Nat} {E : PostV Value} {h : Heap} {g : Gens} (O : Ok F h g) (hA : AOk A n) (hn : n ≤ 20) {fa cc : Addr} (hf : FnAt F.H F.mg 9 fa (.ref cc)) {nt : NestAt} (mem : nt ∈ F.ns) (C : CodeHd F.H cc nt.P) (hpos : nt.pos = (subRec 9 0).pos)
    (hq : nt.q = (recAt 9).name ++ ".<locals>." ++ (subRec 9 0).name) {l : Addr} {items : Array Value} {ds : List Nat} {b : Nat} (u : Tok) (hb : 1 ≤ b) (hb' : b ≤ 8) (hl : h.IsList l items) (hd : DigsAt items ds b) (hlen : ds.length ≤ 18) :
    WP c A (call (.ref fa) [.ref l, .int b u]) (fun r h' g' => Grow F h h' ∧ Ok F h' g' ∧ ∃ t, r = .int (val b ds : Nat) t) E h g := by
  refine WP.abs fun Q0 hQ0 => ?_
  refine call_fnC (binds := [(Str.ofString "digits", .ref l), (Str.ofString "n", .int b u)]) S O hA (le0 hn) hf rfl (fun _ _ => ?_) ?_ ?_ fun L h₁ D hA' => ?_
  · kernel_rfl
  · intro n x hx
    rcases List.mem_cons.mp hx with rfl | hx
    · exact .inr ⟨by kernel_rfl, by kernel_rfl⟩
    · cases List.mem_singleton.mp hx
      exact .inr ⟨by kernel_rfl, by kernel_rfl⟩
  · decide +kernel
  replace D : Lg F (baseOf F h) L _ [(L + 3, CellA none), (L + 2, CellA (some (.int b u))), (L + 1, CellA (some (.ref l)))] h₁ := D
  have gl := base_list (as := []) O hl (by simp)
  rw [← baseOf_eq] at gl
  refine x_def S D base_off mem C hpos hq rfl rfl rfl fun f h₃ cdv doc ctv pm hfn hkeep D hcd => ?_
  refine s_cell (D.get M1) rfl fun h₄ j1 j2 => ?_
  obtain ⟨oi, oi1, oi2⟩ := D.get M1
  replace hcd := codeRec_same hcd j2 oi1 (cell_tame oi2)
  replace D := D.upd U1 j2 j1 (fun _ => cell_tame)
  have gl := l_keeps gl D.keep
  refine x_ret (e_ifexp (t_plain (n_cell (D.get M3) rfl fun tk => wpAny_truthy_list gl (by rw [hd.1]; omega) ⟨rfl, rfl, ?_⟩)))
  show if (!items.isEmpty) = true then _ else _
  by_cases h0 : ds = []
  · have : items.isEmpty = true := by rw [Array.isEmpty_iff_size_eq_zero, hd.1, h0]; rfl
    rw [this, if_neg (by simp)]
    exact e_int fun t => hQ0 _ _ _ ⟨D.grow, D.ok O.bare, t, by rw [h0]; rfl⟩
  · have : items.isEmpty = false := by
      rw [Array.isEmpty_eq_false_iff]
      intro e
      have := hd.1
      rw [e] at this
      exact h0 (List.eq_nil_of_length_eq_zero this.symm)
    rw [this, if_pos (by simp)]
    have hpos : 0 < ds.length := List.length_pos_iff.mpr h0
    refine e_call (n_cell (D.get M1) rfl (c_cl rfl (a_e (e_int fun t7 => a_e (e_call (n_blt S D.st boot_len (c_blt (a_e (n_cell (D.get M3) rfl (a_end (l_len gl (by rw [hd.1]; omega) fun t8 => a_end ⟨D.getE M0, ?_⟩)))))))))))
    rw [hd.1]
    refine (d2i_inner S hb hb' ds items hd.2.1 hd.2.2 (by omega) ds.length 0 ds.length _ _ (by omega) (by omega) (by omega) (D.ok O.bare) hA' (by omega) ⟨_, _, _, _, D.getE M0, hcd⟩
      (D.get M3) (D.get M1) (D.get M2) gl).monoQ fun v h' g' qq => ?_
    obtain ⟨G1, O1, tv, e1⟩ := qq
    subst e1
    replace D := D.call G1 O1.tabs
    exact hQ0 _ _ _ ⟨D.grow, D.ok O1.bare, tv, by simp⟩
end
end Mine
end

noncomputable section
open PySem PySem.W PySem.Calls PyProof.Rows
set_option Elab.async false
set_option maxRecDepth 100000
set_option linter.unusedVariables false
namespace Mine
section
variable {c : Cx} {F : Fix} {A : Around} {n : Nat} {E : PostV Value} {h : Heap} {g : Gens} {env : Env}

theorem as_pair {x y : Str} {px py p : Pos} {k : Nat} {t : Addr} {a b : Value} {Q : PostV Unit} (hA : AOk A n) (ht : h.IsTuple t #[a, b])
    (q : ∀ h', (∀ b o, h.get? b = some o → h'.get? b = some o) → WP c A (storeName env x a) (fun _ h₁ g₁ => WP c A (storeName env y b) Q E h₁ g₁) E h' g) :
    WP c A (assign (.Tuple [.Name x px, .Name y py] k p) env (.ref t)) Q E h g := by
  refine as_tuple hA ht rfl rfl fun h' kk => ?_
  exact as_cons (t := assign (.Name x px) env) (ts := [assign (.Name y py) env]) (xs := [b]) (as_name ((q h' kk).monoQ fun _ _ _ q => as_cons (t := assign (.Name y py) env) (ts := []) (xs := []) (as_name (q.monoQ fun _ _ _ q => as_nil q))))
theorem as_triple {x y z : Str} {px py pz p : Pos} {k : Nat} {t : Addr} {a b d : Value} {Q : PostV Unit} (hA : AOk A n) (ht : h.IsTuple t #[a, b, d])
    (q : ∀ h', (∀ b o, h.get? b = some o → h'.get? b = some o) → WP c A (storeName env x a) (fun _ h₁ g₁ => WP c A (storeName env y b) (fun _ h₁ g₁ => WP c A (storeName env z d) Q E h₁ g₁) E h₁ g₁) E h' g) :
    WP c A (assign (.Tuple [.Name x px, .Name y py, .Name z pz] k p) env (.ref t)) Q E h g := by
  refine as_tuple hA ht rfl rfl fun h' kk => ?_
  exact as_cons (t := assign (.Name x px) env) (ts := [assign (.Name y py) env, assign (.Name z pz) env]) (xs := [b, d]) (as_name ((q h' kk).monoQ fun _ _ _ q =>
    as_cons (t := assign (.Name y py) env) (ts := [assign (.Name z pz) env]) (xs := [d]) (as_name (q.monoQ fun _ _ _ q => as_cons (t := assign (.Name z pz) env) (ts := []) (xs := []) (as_name (q.monoQ fun _ _ _ q => as_nil q))))))
theorem x_assignT {elts k tpos value pos rest} {Q : PostV Flow} (x : WP c A (eval value env) (fun v h₁ g₁ => WP c A (assign (.Tuple elts k tpos) env v) (fun _ h₂ g₂ => WP c A (execs rest env) Q E h₂ g₂) E h₁ g₁) E h g)
    (hs : swapsWithSole [.Tuple elts k tpos] value pos.line env = pure false := by rfl)
    (hw : swappedStores [.Tuple elts k tpos] value env = pure none := by rfl) : WP c A (execs (.Assign [.Tuple elts k tpos] value pos :: rest) env) Q E h g :=
  x_cons fun _ => Assign_Tuple (x.step fun _ _ e1 e2 q => q.stepAt e1 e2 fun _ _ e1 e2 q => ⟨e1.1, e2, q⟩) hs hw
/-- a fresh object is taken in -/
theorem Lg.adopt {gg h' : Heap} {L : Addr} {m : Str → Option Value} {cs : List Cell} (D : Lg F gg L m cs h) (D' : Lg F gg L m cs h') {a : Addr} {P : Obj → Prop} (ha : h.get? a = none) (ho : ∃ o, h'.get? a = some o ∧ P o) (ht : ∀ o, P o → Tame o) :
    Lg F gg L m ((a, P) :: cs) h' := by
  obtain ⟨f1, f2, f3⟩ := D.fresh_off ha
  refine ⟨D'.base, D'.keep, D'.tabs, D'.ns, D'.off, fun p hp => ?_, ?_⟩
  · rcases List.mem_cons.mp hp with rfl | hp
    · exact ⟨ho, f1, f2, ht⟩
    · exact D'.own p hp
  · rw [List.map_cons, List.nodup_cons]
    exact ⟨f3, D.nd⟩
theorem Lg.callNew {h₀ h' : Heap} {L : Addr} {m : Str → Option Value} {cs : List Cell} (D : Lg F (baseOf F h₀) L m cs h) (G : Grow F h h') (hT : Tabs F h') {a : Addr} {P : Obj → Prop} (ha : h.get? a = none) (ho : ∃ o, h'.get? a = some o ∧ P o) (ht : ∀ o, P o → Tame o) :
    Lg F (baseOf F h₀) L m ((a, P) :: cs) h' := D.adopt (D.call G hT) ha ho ht
abbrev TupA (items : Array Value) (o : Obj) : Prop := o = { cls := .type "tuple", data := .seq items }
theorem TupA.tame {items : Array Value} {o : Obj} (x : TupA items o) : Tame o := fun vs q => by rw [x] at q; cases q
/- calls of types -/
theorem c_type {T : String} {pos : Pos} {e : Expr} {es : List Expr} {Q : PostV Value}
    (x : WP c A (spliced (backTo pos (starEach (e :: es) env))) (fun vs h₁ g₁ => WP c A (call (.type T) vs) Q E h₁ g₁) E h g)
    (he : starEach (e :: es) env = (false, eval e env) :: starEach es env := by rfl) (hp : (backTo pos (starEach es env)).any (·.1) = false := by rfl) : WP c A (callWith pos (.type T) [] (backTo pos (starEach (e :: es) env)) []) Q E h g :=
  fun _ => PyProof.Rows.callWith_type1 (x.step fun vs s' e1 e2 q => q.at e1 e2) he hp
/- reversed lists -/
abbrev RevA (l : Addr) (i : Int) (o : Obj) : Prop := o.cls = .type "list_reverseiterator" ∧ o.data = .fields #[.ref l, rawInt i]
theorem RevA.tame {l : Addr} {i : Int} {o : Obj} (x : RevA l i o) : Tame o := fun vs q => by rw [x.2] at q; cases q; exact ⟨by rw [x.1]; simp, by simp [rawInt]⟩
theorem rev_of {l : Addr} {items : Array Value} {Q : PostV Value} (hl : h.IsList l items) (q : Q (.ref h.objs.size) (h.push (revObj l ((items.size : Int) - 1))) g) : WP c A (call (.type "reversed") [.ref l]) Q E h g :=
  fun _ => call_reversed_list hl ⟨rfl, rfl, q⟩
theorem i_rev {it l : Addr} {i : Int} {Q : PostV Value} (hit : h.IsRevIter it l i) (q : Q (.ref it) h g) : WP c A (pyIter (.ref it)) Q E h g := fun _ => wpAny_pyIter_revIter hit ⟨rfl, rfl, q⟩
theorem next_rev {it l : Addr} {i : Nat} {items : Array Value} {x : Value} {Q : PostV (Option Value)} (hit : h.IsRevIter it l (i : Int)) (hl : h.IsList l items) (hx : items[i]? = some x)
    (q : ∀ h', h'.IsRevIter it l ((i : Int) - 1) → Heap.SameBut it h h' → Q (some x) h' g) : WP c A (pyNext (.ref it)) Q E h g := fun _ => wpAny_pyNext_rev_item hit hl hx fun h' h1 h2 => ⟨rfl, rfl, q h' h1 h2⟩
theorem end_rev {it l : Addr} {Q : PostV (Option Value)} (hA : AOk A n) (hit : h.IsRevIter it l (-1)) (q : ∀ h', Heap.ExtBut it h h' → Q none h' g) : WP c A (pyNext (.ref it)) Q E h g := fun _ => wpAny_pyNext_rev_end hA.h hit fun h' h1 => ⟨rfl, rfl, q h' h1⟩
/- ranges -/
theorem range1 {k : Int} {t : Tok} {Q : PostV Value} (q : ∀ t' u', Q (.ref h.objs.size) (h.push { cls := .type "range", data := .fields #[.int 0 t', .int k t, .int 1 u'] }) g) : WP c A (call (.type "range") [.int k t]) Q E h g :=
  fun _ => call_range_1 ⟨rfl, rfl, q _ _⟩
theorem range2 {a b : Int} {t u : Tok} {Q : PostV Value} (q : ∀ u', Q (.ref h.objs.size) (h.push { cls := .type "range", data := .fields #[.int a t, .int b u, .int 1 u'] }) g) : WP c A (call (.type "range") [.int a t, .int b u]) Q E h g :=
  fun _ => call_range_2 ⟨rfl, rfl, q _⟩
abbrev RgA (x left step : Int) (o : Obj) : Prop := o = { cls := .type "range_iterator", dict := none, data := .fields #[rawInt x, rawInt left, rawInt step], slots := #[] }
theorem RgA.tame {x left step : Int} {o : Obj} (y : RgA x left step o) : Tame o := fun vs q => by rw [y] at q; cases q; rw [y]; exact ⟨by simp, by simp [rawInt]⟩
theorem i_range {r : Addr} {a b s : Int} {t u v : Tok} {Q : PostV Value} (hr : IsRange h r a b s t u v) (hsmall : Builtin.Range.small a b s = true)
    (q : Q (.ref h.objs.size) (h.push { cls := .type "range_iterator", data := .fields #[rawInt a, rawInt (Builtin.Range.rangeSize a b s), rawInt s] }) g) : WP c A (pyIter (.ref r)) Q E h g := fun _ => wpAny_pyIter_range hr hsmall ⟨rfl, rfl, q⟩
theorem next_range {it : Addr} {x left step : Int} {Q : PostV (Option Value)} (hit : IsRangeIter h it x left step) (hleft : 0 < left)
    (q : ∀ t h', IsRangeIter h' it (x + step) (left - 1) step → Heap.SameBut it h h' → Q (some (.int x t)) h' g) : WP c A (pyNext (.ref it)) Q E h g := fun _ => wpAny_pyNext_range_item hit hleft fun h' h1 h2 => ⟨rfl, rfl, q _ h' h1 h2⟩
theorem end_range {it : Addr} {x left step : Int} {Q : PostV (Option Value)} (hA : AOk A n) (hit : IsRangeIter h it x left step) (hleft : left ≤ 0) (q : ∀ h', Heap.ExtBut it h h' → Q none h' g) : WP c A (pyNext (.ref it)) Q E h g :=
  fun _ => wpAny_pyNext_range_end hA.h hit hleft fun h' h1 => ⟨rfl, rfl, q h' h1⟩
end
end Mine
end

noncomputable section
open PySem PySem.W PySem.Calls PyProof.Rows
set_option Elab.async false
set_option maxRecDepth 100000
set_option linter.unusedVariables false
set_option pp.deepTerms false
set_option pp.deepTerms.threshold 6
set_option pp.maxSteps 2000
namespace Mine
def nest8 : NestAt := ⟨51, (subRec 8 1).pos, (recAt 8).name ++ ".<locals>." ++ (subRec 8 1).name⟩
def nest9 : NestAt := ⟨58, (subRec 9 0).pos, (recAt 9).name ++ ".<locals>." ++ (subRec 9 0).name⟩
/-- what the text's part of the heap says -/
structure Tx (F : Fix) : Prop where
  S : St F
  f1 : FnAt F.H F.mg 1 21 (.ref 20)
  f2 : FnAt F.H F.mg 2 28 (.ref 27)
  f3 : FnAt F.H F.mg 3 35 (.ref 34)
  f6 : FnAt F.H F.mg 6 42 (.ref 41)
  f8 : FnAt F.H F.mg 8 56 (.ref 55)
  f9 : FnAt F.H F.mg 9 63 (.ref 62)
  f10 : FnAt F.H F.mg 10 70 (.ref 69)
  f11 : FnAt F.H F.mg 11 77 (.ref 76)
  lim : ∃ t, F.mg "_DIV_LIMIT" = some (.int 4000 t)
  n8 : nest8 ∈ F.ns
  n9 : nest9 ∈ F.ns
  c8 : CodeHd F.H 55 51
  c9 : CodeHd F.H 62 58
section
variable {c : Cx} {F : Fix} {A : Around} {n : Nat} {E : PostV Value} {h : Heap} {g : Gens}

inductive J5 (F : Fix) (gg : Heap) (L it lq la : Addr) (b nb : Nat) (u t1 : Tok) (ads : List Nat) (ai : Array Value) (i : Nat) (h₃ : Heap) (g₃ : Gens) : Prop
  | mk (m : Str → Option Value) (r : Nat) (tr : Tok) (qs : List Nat) (items : Array Value) (D : Lg F gg L m [(it, RevA la ((ads.length : Int) - 1 - i)), (lq, PlA items), (la, LsA ai)] h₃) (hg : AllBare g₃) (mb : m (Str.ofString "b") = some (.int b u)) (mn : m (Str.ofString "n") = some (.int nb t1)) (mq : m (Str.ofString "q_digits") = some (.ref lq)) (mr : m (Str.ofString "r") = some (.int r tr)) (hr : r < b)
    (dd : DigsAt items qs nb) (ql : qs.length = i) (heq : val nb (ads.drop (ads.length - i)) = val nb qs.reverse * b + r) : J5 F gg L it lq la b nb u t1 ads ai i h₃ g₃
theorem divmod_pos (X : Tx F) (O : Ok F h g) (hA : AOk A n) (hn : n ≤ 10) (a b : Nat) (t u : Tok) (hb : 1 ≤ b) (hb' : b ≤ 8) (ha : a < 2 ^ 18) :
    WP c A (call (.ref 70) [.int a t, .int b u]) (fun r h' g' => Grow F h h' ∧ Ok F h' g' ∧ ∃ x t u, r = .ref x ∧ h.get? x = none ∧ h'.get? x = some { cls := .type "tuple", data := .seq #[.int (a / b : Nat) t, .int (a % b : Nat) u] }) E h g := by
  have S := X.S
  refine WP.abs fun Q0 hQ0 => ?_
  refine call_fn (binds := [(Str.ofString "a", .int a t), (Str.ofString "b", .int b u)]) S O hA (le0 hn) X.f10 rfl (fun _ _ => ?_) ?_ ?_ fun L h₁ D hA' => of0 ?_
  · kernel_rfl
  · kernel_rfl
  · kernel_rfl
  obtain ⟨nb, hnb⟩ : ∃ x, x = Builtin.Int.intBits (b : Int) := ⟨_, rfl⟩
  have hnb1 : 1 ≤ nb := by
    refine Nat.pos_of_ne_zero fun e => ?_
    have := intBits_le_iff.mp (show Builtin.Int.intBits (b : Int) ≤ 0 by omega)
    simp at this
    omega
  have hnb4 : nb ≤ 4 := by rw [hnb]; exact intBits_le (by omega)
  refine x_assign (e_bits (n_local D.ns rfl ⟨_, _, rfl, fun t1 => ?_⟩))
  rw [← hnb]
  refine s_local D.ns fun h₂ h1 h2 => ?_
  replace D := D.store h1 h2
  refine x_assign (e_call (n_global (S.g.keeps D.st) X.f8.nm (c_fn X.f8 (a_e (n_local h1 rfl (a_e (n_local h1 rfl (a_end ⟨D.st, ?_⟩))))))))
  refine (int2digits S (D.ok O.bare) hA' (le1 hn) X.f8 X.n8 X.c8 rfl rfl a nb _ _ hnb1 (by omega) ha).monoQ fun v h' g' qq => ?_
  obtain ⟨G1, O1, la, ai, ads, e1, hn1, I1, sz1, val1, len1, dig1⟩ := qq
  subst e1
  replace D := D.callNew G1 O1.tabs hn1 I1 (fun _ p => LsA.tame p)
  refine s_local D.ns fun h₂ h1 h2 => ?_
  replace D := D.store h1 h2
  refine x_assign (e_int fun t2 => ?_)
  refine s_local h1 fun h₂ h1 h2 => ?_
  replace D := D.store h1 h2
  refine x_assign ?_
  refine e_list (a_end ⟨Nat.zero_le _, ?_⟩)
  replace D := D.newList #[]
  generalize h₂.objs.size = lq at D
  refine s_local D.ns fun h₂ h1 h2 => ?_
  replace D := D.store h1 h2
  refine x_for (e_call (n_blt S D.st boot_reversed (c_type (a_e (n_local h1 rfl (a_end (rev_of (D.get M1) ?_)))))))
  replace D := D.add (h' := h₂.push (revObj la ((ai.size : Int) - 1))) (P := RevA la ((ai.size : Int) - 1)) (fun _ _ e => Heap.get?_push_of_some _ e) Lg.get_size ⟨_, Heap.get?_push_size _ rfl, rfl, rfl⟩ fun _ p => p.tame
  refine i_rev (D.get M0) ?_
  generalize h₂.objs.size = it at D
  refine fl_abs (N := ads.length) (J5 F (baseOf F h) L it lq la b nb u t1 ads ai) ?_ ?_ ?_
  · rw [show ((ai.size : Int) - 1) = (ads.length : Int) - 1 - ((0 : Nat) : Int) by omega] at D ⊢
    exact ⟨_, 0, t2, [], #[], D, O1.bare, rfl, rfl, rfl, rfl, by omega, ⟨rfl, by simp, by simp⟩, rfl, by simp [val]⟩
  · rintro i h₃ g₃ hi Q1 hQ1 _ ⟨m, r, tr, qs, items, D, hg, mb, mn, mq, mr, hr, ⟨d1, d2, d3⟩, ql, heq⟩
    have hlt : ads.length - 1 - i < ads.length := by omega
    obtain ⟨dig, hdig⟩ : ∃ d, ads[ads.length - 1 - i]? = some d := ⟨_, List.getElem?_eq_getElem hlt⟩
    obtain ⟨dlt, td, hai⟩ := dig1 _ _ hdig
    have ei : ((ads.length : Int) - 1 - i) = ((ads.length - 1 - i : Nat) : Int) := by omega
    refine next_rev (i := ads.length - 1 - i) (by rw [← ei]; exact D.get M0) (D.get M2) hai fun h₄ i1 i2 => ⟨_, rfl, lot_name (as_name ?_)⟩
    replace D := D.upd U0 i2 i1 (fun _ p => RevA.tame p)
    refine s_local D.ns fun h₅ h1 h2 => ?_
    replace D := D.store h1 h2
    obtain ⟨x, hx⟩ : ∃ x, x = r * 2 ^ nb + dig := ⟨_, rfl⟩
    have hxb : x < b * 2 ^ nb := by
      rw [hx]
      have : (r + 1) * 2 ^ nb ≤ b * 2 ^ nb := Nat.mul_le_mul_right _ hr
      rw [Nat.add_mul] at this
      omega
    have hx200 : x < 2 ^ 8 := Nat.lt_of_lt_of_le hxb (Nat.le_trans (Nat.mul_le_mul hb' (Nat.pow_le_pow_right (by decide) hnb4)) (by decide))
    have hbr : Builtin.Int.intBits (r : Int) ≤ 8 := intBits_le (by omega)
    refine x_assignT <| e_call <| n_global (S.g.keeps D.st) X.f6.nm <| c_fn X.f6 <| a_e <| e_bin <| e_bin <| n_local h1 mr <| n_local h1 mn <| o_shl' (r := ((r * 2 ^ nb : Nat) : Int)) (by omega) (by omega) (shl_nat _ _) fun t6 => n_local h1 rfl <|
      o_add' (r := (x : Int)) (by rw [hx]; push_cast; rfl) fun t7 => a_e <| n_local h1 mb <| a_e <| n_local h1 mn <| a_end ⟨D.st, ?_⟩
    obtain ⟨tl, hlim⟩ := X.lim
    refine (div2n1n S (D.ok hg) hA' (le1 hn) X.f6 (by omega) (PyProof.noPylong_small (by omega)) hlim ?_).monoQ fun v h' g' qq => ?_
    · have : Builtin.Int.intBits (x : Int) ≤ 8 := intBits_le (by rw [Int.natAbs_natCast]; exact hx200)
      omega
    obtain ⟨G2, O2, xt, tq, tr', e2, hn2, hx2⟩ := qq
    subst e2
    replace D := D.call G2 O2.tabs
    refine as_pair hA' ⟨_, hx2, rfl, _, rfl⟩ fun h₆ kk => ?_
    replace D := D.more kk
    rw [Int.fdiv_eq_ediv_of_nonneg _ (by omega), Int.fmod_eq_emod_of_nonneg _ (by omega), ← Int.natCast_ediv, ← Int.natCast_emod]
    refine s_local D.ns fun h₅ h1 h2 => ?_
    replace D := D.store h1 h2
    refine s_local h1 fun h₅ h1 h2 => ?_
    replace D := D.store h1 h2
    refine x_expr (e_append (n_local h1 mq ?_))
    obtain ⟨n1, L1⟩ := D.isL M1
    refine ⟨_, _, _, rfl, L1, n_local h1 rfl ⟨_, _, ?_, L1, ?_⟩⟩
    · rw [d1]; show _ ≤ 2 ^ 24; omega
    replace D := D.updSeq (fun xs => xs.push (.int (x / b : Nat) tq)) U1
    refine ⟨(fun _ q => by cases q), x_nil (hQ1 _ _ ?_)⟩
    have hqlt : x / b < 2 ^ nb := Nat.div_lt_of_lt_mul hxb
    have hdrop : ads.drop (ads.length - (i + 1)) = dig :: ads.drop (ads.length - i) := by
      rw [show ads.length - (i + 1) = ads.length - 1 - i by omega, show ads.length - i = ads.length - 1 - i + 1 by omega]
      obtain ⟨hh, he⟩ := List.getElem?_eq_some_iff.mp hdig
      rw [List.drop_eq_getElem_cons hlt, he]
    rw [show ((ads.length - 1 - i : Nat) : Int) - 1 = (ads.length : Int) - 1 - ((i + 1 : Nat) : Int) by omega] at D
    refine ⟨_, x % b, tr', qs ++ [x / b], items.push (.int (x / b : Nat) tq), D, O2.bare, mb, mn, mq, rfl, Nat.mod_lt _ (by omega), ?_, by simp [ql], ?_⟩
    · refine ⟨by simp [d1], fun d hd => ?_, fun j d hd => ?_⟩
      · rcases List.mem_append.mp hd with hd | hd
        · exact d2 d hd
        · rw [List.mem_singleton.mp hd]; exact hqlt
      · by_cases hj : j < qs.length
        · rw [List.getElem?_append_left hj] at hd
          rw [Array.getElem?_push_lt (by omega), ← Array.getElem?_eq_getElem]
          exact d3 j d hd
        · rw [List.getElem?_append_right (by omega)] at hd
          have : j = qs.length := by
            refine Nat.le_antisymm (Nat.le_of_lt_succ (Nat.lt_of_not_le fun hle => ?_)) (by omega)
            rw [List.getElem?_eq_none (by simp; omega)] at hd
            cases hd
          subst this
          simp at hd
          subst hd
          exact ⟨tq, by rw [← d1]; simp⟩
    · rw [hdrop, val, heq, List.reverse_append, List.reverse_singleton, List.singleton_append, val]
      have h1 := Nat.div_add_mod x b
      rw [Nat.mul_comm] at h1
      rw [Nat.mul_add, Nat.add_mul, ← Nat.mul_assoc]
      have h2 : 2 ^ nb * r = r * 2 ^ nb := Nat.mul_comm _ _
      omega
  · rintro h₃ g₃ ⟨m, r, tr, qs, items, D, hg, mb, mn, mq, mr, hr, dd, ql, heq⟩
    refine end_rev hA' (l := la) (by have := D.get M0; rwa [show ((ads.length : Int) - 1 - (ads.length : Nat)) = -1 by omega] at this) fun h₄ i1 => ⟨rfl, ?_⟩
    replace D := D.lose R0 i1
    obtain ⟨n1, L1⟩ := D.isL M0
    refine x_expr <| e_reverse <| n_local D.ns mq ⟨_, _, _, rfl, L1, ?_, ?_⟩
    · have := dd.1
      rw [this, ql]; show _ ≤ 2 ^ 24; omega
    replace D := D.updSeq (fun xs => xs.reverse) U0
    refine ⟨(fun _ q => by cases q), ?_⟩
    have dd' : DigsAt items.reverse qs.reverse nb := by
      obtain ⟨d1, d2, d3⟩ := dd
      refine ⟨by simp [d1], fun d hd => d2 d (List.mem_reverse.mp hd), fun j d hd => ?_⟩
      have hj : j < qs.length := by
        have := (List.getElem?_eq_some_iff.mp hd).1
        simpa using this
      rw [List.getElem?_reverse hj] at hd
      obtain ⟨t, ht⟩ := d3 _ _ hd
      refine ⟨t, ?_⟩
      rw [Array.getElem?_reverse (by omega), d1]
      exact ht
    refine x_assign <| e_call <| n_global (S.g.keeps D.st) X.f9.nm <| c_fn X.f9 <| a_e <| n_local D.ns mq <| a_e <| n_local D.ns mn <| a_end ⟨D.st, ?_⟩
    refine (digits2int S (D.ok hg) hA' (le1 hn) X.f9 X.n9 X.c9 rfl rfl _ hnb1 (by omega) (D.isList M0) dd' ?_).monoQ fun v h' g' qq => ?_
    · rw [List.length_reverse, ql]
      exact len1
    obtain ⟨G3, O3, t9, e3⟩ := qq
    subst e3
    replace D := D.call G3 O3.tabs
    refine s_local D.ns fun h₅ h1 h2 => ?_
    replace D := D.store h1 h2
    refine x_ret ?_
    refine e_tuple <| a_e <| n_local h1 rfl <| a_e <| n_local h1 mr <| a_end ⟨by simp; decide, ?_⟩
    rw [Nat.sub_self, List.drop_zero, val1] at heq
    have hq : val nb qs.reverse = a / b := by
      rw [heq, Nat.mul_comm, Nat.mul_add_div (by omega), Nat.div_eq_of_lt hr, Nat.add_zero]
    have hr' : r = a % b := by
      rw [heq, Nat.mul_comm, Nat.mul_add_mod, Nat.mod_eq_of_lt hr]
    rw [hq, hr']
    have D' := D.push { cls := .type "tuple", data := .seq #[.int (a / b : Nat) t9, .int (a % b : Nat) tr] }
    exact hQ0 _ _ _ ⟨D'.grow, D'.ok O3.bare, _, t9, tr, rfl, D'.was M0, D'.getE M0⟩
end
end Mine
end

noncomputable section
open PySem PySem.W PySem.Calls PyProof.Rows
set_option Elab.async false
set_option maxRecDepth 100000
set_option linter.unusedVariables false
set_option pp.deepTerms false
set_option pp.deepTerms.threshold 6
set_option pp.maxSteps 2000
namespace Mine
section
variable {c : Cx} {F : Fix} {A : Around} {n : Nat} {E : PostV Value} {h : Heap} {g : Gens}
theorem int_divmod0 (X : Tx F) (O : Ok F h g) (hA : AOk A n) (hn : n ≤ 9) (a b : Nat) (t u : Tok) (hb : 1 ≤ b) (hb' : b ≤ 8) (ha : a < 2 ^ 18) :
    WP c A (call (.ref 77) [.int a t, .int b u]) (fun r h' g' => Grow F h h' ∧ Ok F h' g' ∧ ∃ x t u, r = .ref x ∧ h.get? x = none ∧ h'.get? x = some { cls := .type "tuple", data := .seq #[.int (a / b : Nat) t, .int (a % b : Nat) u] }) E h g := by
  have S := X.S
  refine WP.abs fun Q0 hQ0 => ?_
  refine call_fn (binds := [(Str.ofString "a", .int a t), (Str.ofString "b", .int b u)]) S O hA (le0 hn) X.f11 rfl (fun _ _ => ?_) ?_ ?_ fun L h₁ D hA' => of0 ?_
  · kernel_rfl
  · kernel_rfl
  · kernel_rfl
  refine x_if <| t_cmp <| n_local D.ns rfl <| e_int fun t1 => o_eq <| t_bool ?_
  rw [if_neg (by simp; omega)]
  refine x_if <| t_cmp <| n_local D.ns rfl <| e_int fun t1 => o_lt <| t_bool ?_
  rw [if_neg (by simp)]
  refine x_if <| t_cmp <| n_local D.ns rfl <| e_int fun t1 => o_lt <| t_bool ?_
  rw [if_neg (by simp)]
  refine x_ret <| e_call <| n_global (S.g.keeps D.st) X.f10.nm <| c_fn X.f10 <| a_e <| n_local D.ns rfl <| a_e <| n_local D.ns rfl <| a_end ⟨D.st, ?_⟩
  refine (divmod_pos X (D.ok O.bare) hA' (le1 hn) a b _ _ hb hb' ha).monoQ fun v h' g' qq => ?_
  obtain ⟨G1, O1, x, tq, tr, e1, hn1, I1⟩ := qq
  subst e1
  have D := D.callNew (P := TupA _) G1 O1.tabs hn1 ⟨_, I1, rfl⟩ (fun _ p => TupA.tame p)
  exact hQ0 _ _ _ ⟨D.grow, D.ok O1.bare, x, tq, tr, rfl, D.was M0, I1⟩
theorem int_divmod (X : Tx F) (O : Ok F h g) (hA : AOk A n) (hn : n ≤ 8) (a : Int) (b : Nat) (t u : Tok) (hb : 1 ≤ b) (hb' : b ≤ 8) (ha : a.natAbs < 2 ^ 17) :
    WP c A (call (.ref 77) [.int a t, .int b u]) (fun r h' g' => Grow F h h' ∧ Ok F h' g' ∧ ∃ x t u, r = .ref x ∧ h.get? x = none ∧ h'.get? x = some { cls := .type "tuple", data := .seq #[.int (a.fdiv b) t, .int (a.fmod b) u] }) E h g := by
  have hbn : ((b : Nat) : Int) ≠ 0 := by omega
  by_cases h0 : 0 ≤ a
  · obtain ⟨a, rfl⟩ := Int.eq_ofNat_of_zero_le h0
    rw [Int.fdiv_eq_ediv_of_nonneg _ (by omega), Int.fmod_eq_emod_of_nonneg _ (by omega), ← Int.natCast_ediv, ← Int.natCast_emod]
    exact int_divmod0 X O hA (le0 hn) a b t u hb hb' (by omega)
  have S := X.S
  refine WP.abs fun Q0 hQ0 => ?_
  refine call_fn (binds := [(Str.ofString "a", .int a t), (Str.ofString "b", .int b u)]) S O hA (le0 hn) X.f11 rfl (fun _ _ => ?_) ?_ ?_ fun L h₁ D hA' => of0 ?_
  · kernel_rfl
  · kernel_rfl
  · kernel_rfl
  refine x_if <| t_cmp <| n_local D.ns rfl <| e_int fun t1 => o_eq <| t_bool ?_
  rw [if_neg (by simp; omega)]
  refine x_if <| t_cmp <| n_local D.ns rfl <| e_int fun t1 => o_lt <| t_bool ?_
  rw [if_neg (by simp)]
  refine x_if <| t_cmp <| n_local D.ns rfl <| e_int fun t1 => o_lt <| t_bool ?_
  rw [if_pos (by simp; omega)]
  obtain ⟨k, hk⟩ : ∃ k : Nat, Builtin.bitNot a = (k : Int) := Int.eq_ofNat_of_zero_le (by unfold Builtin.bitNot; omega)
  have hk' : a = -(k : Int) - 1 := by unfold Builtin.bitNot at hk; omega
  refine x_assignT <| e_call <| n_global (S.g.keeps D.st) X.f11.nm <| c_fn X.f11 <| a_e <| e_un <| n_local D.ns rfl <| o_inv fun t2 => a_e <| n_local D.ns rfl <| a_end ⟨D.st, ?_⟩
  rw [hk]
  refine (int_divmod0 X (D.ok O.bare) hA' (le1 hn) k b _ _ hb hb' (by omega)).monoQ fun v h' g' qq => ?_
  obtain ⟨G1, O1, x, tq, tr, e1, hn1, I1⟩ := qq
  subst e1
  replace D := D.call G1 O1.tabs
  refine as_pair hA' ⟨_, I1, rfl, _, rfl⟩ fun h₆ kk => ?_
  replace D := D.more kk
  refine s_local D.ns fun h₅ h1 h2 => ?_
  replace D := D.store h1 h2
  refine s_local h1 fun h₅ h1 h2 => ?_
  replace D := D.store h1 h2
  refine x_ret ?_
  have hdm := Nat.div_add_mod k b
  have hmod := Nat.mod_lt k (show b > 0 by omega)
  have hu := (Int.ediv_emod_unique (a := a) (b := (b : Int)) (r := (b : Int) + Builtin.bitNot ((k % b : Nat) : Int)) (q := Builtin.bitNot ((k / b : Nat) : Int)) (by omega)).mpr (by
    unfold Builtin.bitNot
    have e : (b : Int) * ((k / b : Nat) : Int) = ((b * (k / b) : Nat) : Int) := by push_cast; rfl
    rw [Int.mul_sub, Int.mul_neg, e, hk']
    omega)
  have hq : Builtin.bitNot ((k / b : Nat) : Int) = a.fdiv b := by rw [Int.fdiv_eq_ediv_of_nonneg _ (by omega)]; exact hu.1.symm
  have hr : (b : Int) + Builtin.bitNot ((k % b : Nat) : Int) = a.fmod b := by rw [Int.fmod_eq_emod_of_nonneg _ (by omega)]; exact hu.2.symm
  refine e_tuple <| a_e <| e_un <| n_local h1 rfl <| o_inv fun t3 => a_e <| e_bin <| n_local h1 rfl <| e_un <| n_local h1 rfl <| o_inv fun t4 => o_add fun t5 => a_end ⟨by simp; decide, ?_⟩
  rw [hq, hr]
  have D' := D.push { cls := .type "tuple", data := .seq #[.int (a.fdiv b) t3, .int (a.fmod b) t5] }
  exact hQ0 _ _ _ ⟨D'.grow, D'.ok O1.bare, _, t3, t5, rfl, D'.was M0, D'.getE M0⟩
end
end Mine
end

noncomputable section
open PySem PySem.W PySem.Calls PyProof.Rows
set_option Elab.async false
set_option maxRecDepth 100000
set_option linter.unusedVariables false
set_option pp.deepTerms false
set_option pp.deepTerms.threshold 6
set_option pp.maxSteps 2000
namespace Mine
/- walks of a text by number -/
theorem draws_str {prog : Program} {w : World} {A : Around} (hh : A.handled = none) (it : Addr) (x : Str) (t : Tok) :
    Draws prog w A it [it] x.cps.size (fun i v => ∃ c u, x.cps[i]? = some c ∧ v = .str ⟨#[c]⟩ u) (fun i h => h.IsStrIter it (strIterType x) x t i) := by
  unfold strIterType
  cases x.cps.all (· < 128)
  · exact Draws.strWide hh it x t
  · exact Draws.strAscii hh it x t
section
variable {c : Cx} {F : Fix} {A : Around} {n : Nat} {E : PostV Value} {h : Heap} {g : Gens} {env : Env}
abbrev SiA (x : Str) (t : Tok) (i : Nat) (o : Obj) : Prop := o.cls = .type (strIterType x) ∧ o.data = .fields #[.str x t, .int i 0]
abbrev EnA (it : Addr) (i : Int) (o : Obj) : Prop := ∃ old, o = { cls := .type "enumerate", dict := none, data := .fields #[.none, .bool false, .ref it, rawInt i, .none, old], slots := #[] }
abbrev EnOutA (it : Addr) (i : Int) (a : Addr) (o : Obj) : Prop := ∃ old, o = { cls := .type "enumerate", dict := none, data := .fields #[rawInt a, .bool false, .ref it, rawInt i, .none, old], slots := #[] }
theorem SiA.tame {x : Str} {t : Tok} {i : Nat} {o : Obj} (y : SiA x t i o) : Tame o := fun vs q => by rw [y.2] at q; cases q; exact ⟨by rw [y.1]; simp, by simp⟩
theorem EnA.tame {it : Addr} {i : Int} {o : Obj} (y : EnA it i o) : Tame o := fun vs q => by obtain ⟨old, rfl⟩ := y; cases q; exact ⟨by simp, by simp⟩
theorem EnOutA.tame {it : Addr} {i : Int} {a : Addr} {o : Obj} (y : EnOutA it i a o) : Tame o := fun vs q => by obtain ⟨old, rfl⟩ := y; cases q; exact ⟨by simp, by simp⟩
theorem enum_of {x : Str} {t : Tok} {Q : PostV Value} (q : ∀ h', (∃ o, h'.get? (h.objs.size + 1) = some o ∧ EnA h.objs.size 0 o) → (∃ o, h'.get? h.objs.size = some o ∧ SiA x t 0 o) → (∀ b o, h.get? b = some o → h'.get? b = some o) → Q (.ref (h.objs.size + 1)) h' g) :
    WP c A (call (.type "enumerate") [.str x t]) Q E h g := fun _ => call_enumerate_str fun h' h1 h2 h3 h4 => ⟨rfl, rfl, q h' ⟨_, h1, _, rfl⟩ h2 h4⟩
theorem i_enum {e it : Addr} {i : Int} {Q : PostV Value} (he : ∃ o, h.get? e = some o ∧ EnA it i o) (q : Q (.ref e) h g) : WP c A (pyIter (.ref e)) Q E h g := by
  obtain ⟨o, h1, old, rfl⟩ := he
  exact fun _ => wpAny_pyIter_enum (i := i) (old := old) h1 ⟨rfl, rfl, q⟩
theorem next_enum {e it : Addr} {x : Str} {t : Tok} {i : Nat} {Q : PostV (Option Value)} (hA : A.handled = none) (he : ∃ o, h.get? e = some o ∧ EnA it i o) (hit : ∃ o, h.get? it = some o ∧ SiA x t i o) (hlt : i < x.cps.size) (hne : e ≠ it)
    (q : ∀ cp u tk h', x.cps[i]? = some cp → (∃ o, h'.get? e = some o ∧ EnOutA it ((i : Int) + 1) h.objs.size o) → (∃ o, h'.get? it = some o ∧ SiA x t (i + 1) o) → h'.get? h.objs.size = some { cls := .type "tuple", data := .seq #[.int i tk, .str ⟨#[cp]⟩ u] } →
      (∀ b o, b ≠ e → b ≠ it → h.get? b = some o → h'.get? b = some o) → Q (some (.ref h.objs.size)) h' g) : WP c A (pyNext (.ref e)) Q E h g := by
  obtain ⟨o, h1, old, rfl⟩ := he
  intro tk
  have D := draws_str (prog := PySem.Challenge.pw_ul0008_01) (w := c.w) (A := A.in1) hA it x t
  refine wpAny_pyNext_enum_itemD (s := ⟨h, g, c.d, tk + (c.b + 1), c.o⟩) D h1 hit hlt hne (by simpa using hne) fun y h' tk' p h2 h3 h4 h5 h6 => ?_
  obtain ⟨cp, u, hc, rfl⟩ := p
  exact ⟨rfl, rfl, q cp u tk' h' hc ⟨_, h2, _, rfl⟩ h3 h4 h6⟩
theorem end_enum {e it : Addr} {x : Str} {t : Tok} {i : Int} {Q : PostV (Option Value)} (hA : A.handled = none) (he : ∃ o, h.get? e = some o ∧ EnA it i o) (hit : ∃ o, h.get? it = some o ∧ SiA x t x.cps.size o)
    (q : ∀ h', Heap.ExtBut it h h' → Q none h' g) : WP c A (pyNext (.ref e)) Q E h g := by
  obtain ⟨o, h1, old, rfl⟩ := he
  intro tk
  have D := draws_str (prog := PySem.Challenge.pw_ul0008_01) (w := c.w) (A := A.in1) hA it x t
  exact wpAny_pyNext_enum_endD (s := ⟨h, g, c.d, tk + (c.b + 1), c.o⟩) D h1 hit fun h' h2 => ⟨rfl, rfl, q h' h2⟩
theorem lot_enum {elts k pos} {e it a : Addr} {i : Int} {Q : PostV Unit} (he : ∃ o, h.get? e = some o ∧ EnOutA it i a o) (q : ∀ h', (∃ o, h'.get? e = some o ∧ EnA it i o) → Heap.SameBut e h h' → Q () h' g) :
    WP c A (letOwnedTupleGo (.Tuple elts k pos) (.ref e) (.ref a)) Q E h g := by
  obtain ⟨o, h1, old, rfl⟩ := he
  exact fun _ => wpAny_letOwnedTupleGo_enum (item := old) h1 fun h' h2 h3 => ⟨rfl, rfl, q h' ⟨_, h2, _, rfl⟩ h3⟩
end

/- pieces of a generator -/
section
variable {c : Cx} {A : Around} {R : GenEnd} {Y : Protocol} {n : Nat} {s₀ : Shared} {cd : Code} {fs : List Frame} {env : Env}
  {K : Flow → Sem Fin} {H : Value → Sem Fin} {gd : Bool → Bool} {lv : List Value → List Value}
/-- the rest of a generator from a heap -/
def SG (c : Cx) (A : Around) (R : GenEnd) (Y : Protocol) (n : Nat) (s₀ : Shared) (cd : Code) (t : Sem Fin) (fs : List Frame) (h : Heap) (g : Gens) : Prop := ∀ tk : Nat, Seg c.M A R Y n s₀ cd t fs ⟨h, g, c.d, tk + (c.b + 1), c.o⟩
theorem SG.at {t : Sem Fin} {s : Shared} (x : SG c A R Y n s₀ cd t fs s.heap s.gens) (e1 : s.drawn = c.d ∧ c.b + 1 ≤ s.toks) (e2 : s.os = c.o) : Seg c.M A R Y n s₀ cd t fs s := by
  obtain ⟨h, g, d, tk, o⟩ := s
  obtain ⟨e1, e3⟩ := e1
  dsimp only at e1 e2 e3
  subst e1 e2
  obtain ⟨k, rfl⟩ : ∃ k, tk = k + (c.b + 1) := ⟨tk - (c.b + 1), by omega⟩
  exact x k
theorem sg_wrap {α : Type} {m : Sem α} {K : α → Sem Fin} {H : Value → Sem Fin} {gd lv} {h : Heap} {g : Gens} (x : WP c (A.over cd fs) m (fun a h' g' => SG c A R Y n s₀ cd (K a) fs h' g') F0 h g) : SG c A R Y n s₀ cd (m.wrap K H gd lv) fs h g :=
  fun _ => seg_wrap (wpAny_mono (x.step fun _ _ e1 e2 q => q.at e1 e2) (fun _ _ q => q) fun _ _ ⟨_, _, f⟩ => f.elim)
theorem sg_nil {h : Heap} {g : Gens} (x : SG c A R Y n s₀ cd (K .next) fs h g) : SG c A R Y n s₀ cd ((execs [] env).wrap K H gd lv) fs h g := fun tk => seg_execs_nil (x tk)
theorem sg_cons {st : Stmt} {rest : List Stmt} {h : Heap} {g : Gens} (x : SG c A R Y n s₀ cd ((exec st env).wrap (fun f => match f with | .next => (execs rest env).wrap K H gd lv | f => K f) H gd lv) fs h g) : SG c A R Y n s₀ cd ((execs (st :: rest) env).wrap K H gd lv) fs h g :=
  fun tk => seg_execs_cons (x tk)
/-- a whole block, no yield in it -/
theorem sg_execs {l : List Stmt} {h : Heap} {g : Gens} (x : WP c (A.over cd fs) (execs l env) (fun f h' g' => SG c A R Y n s₀ cd (K f) fs h' g') F0 h g) : SG c A R Y n s₀ cd ((execs l env).wrap K H gd lv) fs h g := sg_wrap x
theorem sg_stmt {st : Stmt} {rest : List Stmt} {h : Heap} {g : Gens} (x : WP c (A.over cd fs) (execs [st] env) (fun f h' g' => match f with | .next => SG c A R Y n s₀ cd ((execs rest env).wrap K H gd lv) fs h' g' | f => SG c A R Y n s₀ cd (K f) fs h' g') F0 h g) :
    SG c A R Y n s₀ cd ((execs (st :: rest) env).wrap K H gd lv) fs h g := by
  refine sg_cons (sg_wrap ?_)
  intro tk
  have y := x tk
  have e : execs [st] env = exec st env >>= fun (f : Flow) => match f with | Flow.next => (pure Flow.next : Sem Flow) | f => pure f := by
    rw [execs_cons]
    congr 1
  have e2 : (exec st env >>= fun (f : Flow) => match f with | Flow.next => (pure Flow.next : Sem Flow) | f => pure f) = exec st env := by
    have : (fun f : Flow => (match f with | Flow.next => (pure Flow.next : Sem Flow) | f => pure f)) = pure := by funext f; cases f <;> rfl
    rw [this]
    exact bind_pure _
  rw [e, e2] at y
  exact wpAny_mono y (fun f s' ⟨e1, e2, q⟩ => ⟨e1, e2, by cases f <;> exact q⟩) fun _ _ x => x
theorem sg_yield {e : Expr} {ypos pos : Pos} {rest : List Stmt} {h : Heap} {g : Gens} (hfs : splitAtGen fs = none) (hgd : gd false = false) (hfg : fs.any Frame.guarded = false)
    (x : WP c (A.over cd fs) (eval e env) (fun v h' g' => ∀ s' : Shared, s'.drawn = c.d → s'.os = c.o → s'.heap = h' → s'.gens = g' → ∀ kap : Resume → Shared → Prop,
      (∀ s'', Seg c.M A R Y n s'' cd ((execs rest env).wrap K H gd lv) fs s'' → kap (.send .none) s'') → Y n s₀ v s' kap) F0 h g)
    (hco : env.scope.isCoroutine = false := by rfl) (hi : interactive env = false := by rfl) : SG c A R Y (n + 1) s₀ cd ((execs (.Expr (.Yield (some e) ypos) pos :: rest) env).wrap K H gd lv) fs h g := by
  refine sg_cons fun tk => seg_Expr_Yield hfs hgd hfg (wpAny_mono (x tk) (fun v s' ⟨e1, e2, q⟩ kap hk => ?_) fun _ _ ⟨_, _, f⟩ => f.elim) hco hi
  exact q s' e1 e2 rfl rfl kap fun s'' hs => hk .none s'' hs
theorem sg_for {target iter : Expr} {body : List Stmt} {pos : Pos} {rest : List Stmt} {h : Heap} {g : Gens}
    (x : WP c (A.over cd fs) (eval iter env) (fun xv h₁ g₁ => WP c (A.over cd fs) (pyIter xv) (fun it h₂ g₂ => ∀ p, SG c A R Y n s₀ (.forLoop target it body [] env) (c.M.den (.forLoop target it body [] env))
      (.ret (fun r => ((match r with | .ok f => (.pure f : Sem Flow) | .error e => .raise e).onRaise fun (x : Value) => do
        if (← field x 1) == Value.none then unsupported "frame.own-activation:exception-without-traceback"
        setFlight x env.frame).wrap (fun (f : Flow) => match f with | .next => (execs rest env).wrap K H gd lv | f => K f) H gd lv) none (gd false) (lv []) cd p [] :: fs) h₂ g₂) F0 h₁ g₁) F0 h g)
    (hs : ∀ x, foldedSetIterable iter env x = pure x := by intro _; rfl) :
    SG c A R Y n s₀ cd ((execs (.For target iter body [] pos :: rest) env).wrap K H gd lv) fs h g := by
  refine sg_cons ?_
  rw [exec_For]
  simp only [hs, Sem.bind_eq_wrap', Sem.wrap_wrap]
  refine sg_wrap (WP_standAt ?_)
  refine sg_wrap (x.monoQ fun xv h₁ g₁ q => ?_)
  refine sg_wrap (WP_pure ?_)
  refine sg_wrap (WP_standAt ?_)
  refine sg_wrap (WP_holding (q.monoQ fun it h₂ g₂ q => ?_))
  exact fun tk => seg_call fun p => q p tk
theorem sg_turn {target it body} {h : Heap} {g : Gens}
    (x : WP c (A.over (.forLoop target it body [] env) fs) (pyNext it) (fun o h₁ g₁ => match o with
      | none => SG c A R Y n s₀ (.block [] env) (c.M.den (.block [] env)) fs h₁ g₁
      | some v => WP c (A.over (.forLoop target it body [] env) fs) (letOwnedTupleGo target it v) (fun _ h₂ g₂ => WP c (A.over (.forLoop target it body [] env) fs) (assign target env v) (fun _ h₃ g₃ =>
          ∀ K' H', K' .next = .pure (.again (.forLoop target it body [] env)) → SG c A R Y n s₀ (.forLoop target it body [] env) ((execs body env).wrap K' H' id id) fs h₃ g₃) F0 h₂ g₂) F0 h₁ g₁) F0 h g) :
    SG c A R Y n s₀ (.forLoop target it body [] env) (c.M.den (.forLoop target it body [] env)) fs h g := by
  intro tk
  show Seg _ A R Y n s₀ _ ((forTurn target it body [] env).onRaise (fun x => do noteFrame x env; theTreesLotGoes x)) fs _
  revert tk
  change SG c A R Y n s₀ _ ((forTurn target it body [] env).onRaise (fun x => do noteFrame x env; theTreesLotGoes x)) fs h g
  unfold forTurn
  rw [Sem.onRaise_eq_wrap]
  simp only [Sem.bind_eq_wrap', Sem.wrap_wrap, Sem.onRaise_eq_wrap]
  refine sg_wrap (WP_standAt ?_)
  refine sg_wrap (x.monoQ fun o h₁ g₁ q => ?_)
  cases o with
  | none => exact fun tk => seg_again rfl (q tk)
  | some v =>
    refine sg_wrap (WP_pure ?_)
    show SG c A R Y n s₀ _ (Sem.wrap Sem.pure _ id id (Sem.wrap _ Sem.raise id id (letOwnedTupleGo target it v))) fs h₁ g₁
    rw [Sem.wrap_wrap]
    refine sg_wrap (q.monoQ fun _ h₂ g₂ q => ?_)
    rw [Sem.wrap_wrap]
    refine sg_wrap (q.monoQ fun _ h₃ g₃ q => ?_)
    rw [Sem.wrap_wrap]
    exact q _ _ rfl
end
end Mine
end

noncomputable section
open PySem PySem.W PySem.Calls PyProof.Rows
set_option Elab.async false
set_option maxRecDepth 100000
set_option linter.unusedVariables false
set_option pp.deepTerms false
set_option pp.deepTerms.threshold 6
set_option pp.maxSteps 2000
namespace Mine
/-- a text by its numbers -/
abbrev T (l : List Nat) : Str := ⟨l.toArray⟩
theorem T_eq (s : Str) : T s.cps.toList = s := by cases s; rfl
theorem T_append (a b : List Nat) : T a ++ T b = T (a ++ b) := by
  show (⟨a.toArray ++ b.toArray⟩ : Str) = _
  simp [T]
theorem T_len (l : List Nat) : (T l).length = l.length := by simp [T, Str.length]
/-- what the generator gives -/
def esc : List Nat → Nat → Bool → List (Nat × List Nat)
  | [], i, b => if b then [(i - 1, [92])] else []
  | ch :: r, i, b => if b then (i, [92, ch]) :: esc r (i + 1) false else if ch = 92 then esc r (i + 1) true else (i, [ch]) :: esc r (i + 1) false

section
variable {c : Cx} {F : Fix} {A : Around} {n : Nat} {E : PostV Value} {h : Heap} {g : Gens} {env : Env}
theorem str_eq {x y : Str} {t u : Tok} {Q : PostV Value} (q : Q (.bool (x == y)) h g) : WP c A (compareOp .Eq (.str x t) (.str y u)) Q E h g := fun _ => PyProof.Rows.eq_str ⟨rfl, rfl, q⟩
theorem str_ne {x y : Str} {t u : Tok} {Q : PostV Value} (q : Q (.bool (x != y)) h g) : WP c A (compareOp .NotEq (.str x t) (.str y u)) Q E h g := fun _ => PyProof.Rows.ne_str ⟨rfl, rfl, q⟩
theorem str_add {x y : Str} {t u : Tok} {Q : PostV Value} (hsz : x.length + y.length ≤ sizeLine) (q : ∀ t, Q (.str (x ++ y) t) h g) : WP c A (binaryOp .Add (.str x t) (.str y u)) Q E h g := fun _ => PyProof.Rows.add_str (fun _ _ => ⟨rfl, rfl, q _⟩) hsz
theorem str_notin {x y : Str} {t u : Tok} {Q : PostV Value} (q : Q (.bool (!(!(Builtin.Str.occurrences x y 0 x.length 1).isEmpty))) h g) : WP c A (compareOp .NotIn (.str y u) (.str x t)) Q E h g := fun _ => PyProof.Rows.notIn_str ⟨rfl, rfl, q⟩
theorem str_len {x : Str} {t : Tok} {Q : PostV Value} (hfit : (x.length : Int) < 2 ^ 63) (q : ∀ t, Q (.int x.length t) h g) : WP c A (call (.builtin "len") [.str x t]) Q E h g := fun _ => PyProof.Rows.len_str (by omega) ⟨rfl, rfl, q _⟩
theorem AOk.any (hh : A.handled = none) : AOk A (A.depth + A.units) := ⟨hh, by omega, by omega⟩

abbrev DictA (m : Str → Option Value) (o : Obj) : Prop := ∃ es ep, o.data = .dict es ep ∧ StrKeys es ∧ ∀ name, nsFind es name = m name
theorem DictA.tame {m : Str → Option Value} {o : Obj} (x : DictA m o) : Tame o := let ⟨_, _, e, _⟩ := x; tame_dict e
theorem ns_of {a : Addr} {m : Str → Option Value} (x : ∃ o, h.get? a = some o ∧ DictA m o) : h.Ns a m := let ⟨o, h1, es, ep, r⟩ := x; ⟨o, es, ep, h1, r⟩
theorem of_ns {a : Addr} {m : Str → Option Value} (x : h.Ns a m) : ∃ o, h.get? a = some o ∧ DictA m o := let ⟨o, es, ep, h1, r⟩ := x; ⟨o, h1, es, ep, r⟩
abbrev Hold (cs : List Cell) (h : Heap) : Prop := ∀ p ∈ cs, ∃ o, h.get? p.1 = some o ∧ p.2 o
/-- a frame is taken up again -/
theorem Lg.resume (hF : F.Sep) {L : Addr} {m : Str → Option Value} {cs : List Cell} (hb : ∀ b o, F.H.get? b = some o → h.get? b = some o) (ht : Tabs F h) (hn : h.Ns L m) (ho : Hold cs h) (htm : ∀ p ∈ cs, ∀ o, p.2 o → Tame o)
    (hnd : (L :: cs.map (·.1)).Nodup) (hH : ∀ a ∈ L :: cs.map (·.1), F.H.get? a = none) : Lg F (baseBut F h (L :: cs.map (·.1))) L m cs h where
  base b o e := hideAll_get _ (hb b o e) fun q => by
    rcases List.mem_append.mp q with q | q
    · rw [hF.apart b q] at e; cases e
    · rw [hH b q] at e; cases e
  keep b o e := of_hideAll _ e
  tabs := ht
  ns := hn
  off := hideAll_none _ (List.mem_append_right _ (.head _))
  own p hp := by
    refine ⟨ho p hp, hideAll_none _ (List.mem_append_right _ (.tail _ (List.mem_map_of_mem hp))), fun q => ?_, htm p hp⟩
    rw [List.nodup_cons] at hnd
    exact hnd.1 (q ▸ List.mem_map_of_mem (f := fun x : Cell => x.1) hp)
  nd := (List.nodup_cons.mp hnd).2
theorem sg_if {A : Around} {R : GenEnd} {Y : Protocol} {s₀ : Shared} {cd : Code} {fs : List Frame} {K : Flow → Sem Fin} {H : Value → Sem Fin} {gd : Bool → Bool} {lv : List Value → List Value} {test : Expr} {body orelse rest : List Stmt} {pos : Pos}
    (x : WP c (A.over cd fs) (isTrue test env (eval test env)) (fun b h' g' => SG c A R Y n s₀ cd ((execs (if b then body else orelse) env).wrap (fun f => match f with | .next => (execs rest env).wrap K H gd lv | f => K f) H gd lv) fs h' g') F0 h g) :
    SG c A R Y n s₀ cd ((execs (.If test body orelse pos :: rest) env).wrap K H gd lv) fs h g := by
  refine sg_cons ?_
  rw [arm_exec_If]
  simp only [Sem.bind_eq_wrap', Sem.wrap_wrap]
  refine sg_wrap (WP_standAt ?_)
  refine sg_wrap (x.monoQ fun b h₁ g₁ q => ?_)
  cases b <;> exact q
end
end Mine
end

noncomputable section
open PySem PySem.W PySem.Calls PyProof.Rows
set_option Elab.async false
set_option maxRecDepth 100000
set_option linter.unusedVariables false
set_option pp.deepTerms false
set_option pp.deepTerms.threshold 6
set_option pp.maxSteps 2000
namespace Mine
def forOf (i j : Nat) : Expr × List Stmt := match (recAt i).body[j]? with
  | some (.For t _ b _ _) => (t, b)
  | _ => (.Constant .none 0 ⟨0, 0, 0, 0⟩, [])
/-- the generator's own objects -/
structure GP where
  all : List (Nat × List Nat)
  l : List Nat
  t : Tok
  Lg : Addr
  e : Addr
  it : Addr
abbrev FrA (p : GP) (i : Nat) (b : Bool) (o : Obj) : Prop := ∃ m, DictA m o ∧ m (Str.ofString "addr") = some (.str (T p.l) p.t) ∧ m (Str.ofString "escape") = some (.bool b) ∧ ∃ tp, m (Str.ofString "pos") = some (.int ((i - 1 : Nat) : Int) tp)
abbrev GP.prs (p : GP) (i : Nat) (b : Bool) : List Cell := [(p.Lg, FrA p i b), (p.e, EnA p.it i), (p.it, SiA (T p.l) p.t i)]
abbrev GP.as (p : GP) : List Addr := [p.Lg, p.e, p.it]
structure GP.Ok (p : GP) (F : Fix) : Prop where
  h1 : F.H.get? p.Lg = none
  h2 : F.H.get? p.e = none
  h3 : F.H.get? p.it = none
  nd : p.as.Nodup
/-- a state in which the generator may be woken -/
structure Rdy (c : Cx) (F : Fix) (cs : List Cell) (s : Shared) : Prop where
  d : s.drawn = c.d ∧ c.b + 1 ≤ s.toks
  o : s.os = c.o
  base : ∀ b o, F.H.get? b = some o → s.heap.get? b = some o
  tabs : Tabs F s.heap
  hold : Hold cs s.heap
/-- what a piece of the generator leaves -/
structure Left (c : Cx) (F : Fix) (p : GP) (s₀ s : Shared) : Prop where
  d : s.drawn = c.d
  o : s.os = c.o
  gens : s.gens = s₀.gens
  keep : ∀ b o, b ∉ F.ns.map (·.P) → b ∉ p.as → s₀.heap.get? b = some o → s.heap.get? b = some o
  base : ∀ b o, F.H.get? b = some o → s.heap.get? b = some o
  tabs : Tabs F s.heap
def ItemAt (h : Heap) (ta : Addr) (x : Nat × List Nat) : Prop := ∃ tk tk', h.get? ta = some { cls := .type "tuple", data := .seq #[.int x.1 tk, .str (T x.2) tk'] }
def gY (c : Cx) (F : Fix) (p : GP) : Protocol := fun n s₀ v s' kap => Left c F p s₀ s' ∧ (∃ x ta, p.all[p.all.length - 1 - n]? = some x ∧ v = .ref ta ∧ ItemAt s'.heap ta x) ∧
  ∃ cs : List Cell, (cs.map (·.1)).Sublist p.as ∧ (∀ q ∈ cs, ∀ o, q.2 o → Tame o) ∧ Hold cs s'.heap ∧ ∀ s'', Rdy c F cs s'' → kap (.send .none) s''
def gR (c : Cx) (F : Fix) (p : GP) : GenEnd := fun n s₀ r s₁ => r = .ok (.ret .none) ∧ n = 0 ∧ Left c F p s₀ s₁
theorem FrA.tame {p : GP} {i : Nat} {b : Bool} {o : Obj} (x : FrA p i b o) : Tame o := let ⟨_, d, _⟩ := x; d.tame
theorem prs_tame (p : GP) (i : Nat) (b : Bool) : ∀ q ∈ p.prs i b, ∀ o, q.2 o → Tame o := fun q hq => by
  rcases List.mem_cons.mp hq with rfl | hq
  · exact fun _ => FrA.tame
  rcases List.mem_cons.mp hq with rfl | hq
  · exact fun _ => EnA.tame
  · cases List.mem_singleton.mp hq
    exact fun _ => SiA.tame
theorem suf_get {α : Type} {x : α} {r all : List α} (h : x :: r <:+ all) : all[all.length - 1 - r.length]? = some x := by
  obtain ⟨pre, rfl⟩ := h
  rw [List.length_append, List.length_cons, show pre.length + (r.length + 1) - 1 - r.length = pre.length by omega, List.getElem?_append_right (Nat.le_refl _), Nat.sub_self]
  rfl
section
variable {c : Cx} {F : Fix} {A : Around}
theorem Lg.upd2 {gg h h' : Heap} {L : Addr} {m : Str → Option Value} {cs : List Cell} {e it : Addr} {P P' P2 P2' : Obj → Prop} (D : Lg F gg L m ((e, P) :: (it, P') :: cs) h) (k : ∀ b o, b ≠ e → b ≠ it → h.get? b = some o → h'.get? b = some o)
    (he : ∃ o, h'.get? e = some o ∧ P2 o) (hit : ∃ o, h'.get? it = some o ∧ P2' o) (t1 : ∀ o, P2 o → Tame o) (t2 : ∀ o, P2' o → Tame o) : Lg F gg L m ((e, P2) :: (it, P2') :: cs) h' := by
  obtain ⟨⟨o1, a1, a2⟩, a3, a4, a5⟩ := D.own _ M0
  obtain ⟨⟨o2, b1, b2⟩, b3, b4, b5⟩ := D.own _ M1
  refine ⟨D.base, fun b o e => k b o (fun q => by rw [q, a3] at e; cases e) (fun q => by rw [q, b3] at e; cases e) (D.keep b o e), D.tabs.mono fun b o hn e => k b o (fun q => ?_) (fun q => ?_) e, ?_, D.off, fun p hp => ?_, D.nd⟩
  · rw [q, a1] at e; cases e; exact hn (a5 _ a2)
  · rw [q, b1] at e; cases e; exact hn (b5 _ b2)
  · obtain ⟨o, es, ep, h1, r⟩ := D.ns
    exact ⟨o, es, ep, k _ _ (Ne.symm a4) (Ne.symm b4) h1, r⟩
  · have nd := D.nd
    rw [List.map_cons, List.map_cons, List.nodup_cons, List.nodup_cons] at nd
    rcases List.mem_cons.mp hp with rfl | hp
    · exact ⟨he, a3, a4, t1⟩
    rcases List.mem_cons.mp hp with rfl | hp
    · exact ⟨hit, b3, b4, t2⟩
    obtain ⟨⟨o, e1, e2⟩, r⟩ := D.own p (.tail _ (.tail _ hp))
    have hm := List.mem_map_of_mem (f := fun x : Cell => x.1) hp
    exact ⟨⟨o, k _ _ (fun q => nd.1 (by rw [← q]; exact .tail _ hm)) (fun q => nd.2.1 (by rw [← q]; exact hm)) e1, e2⟩, r⟩
theorem Lg.adopt' {gg h h' : Heap} {L : Addr} {m m' : Str → Option Value} {cs cs' : List Cell} (D : Lg F gg L m cs h) (D' : Lg F gg L m' cs' h') (hm : cs'.map (·.1) = cs.map (·.1)) {a : Addr} {P : Obj → Prop} (ha : h.get? a = none) (ho : ∃ o, h'.get? a = some o ∧ P o) (ht : ∀ o, P o → Tame o) :
    Lg F gg L m' ((a, P) :: cs') h' := by
  obtain ⟨f1, f2, f3⟩ := D.fresh_off ha
  refine ⟨D'.base, D'.keep, D'.tabs, D'.ns, D'.off, fun p hp => ?_, ?_⟩
  · rcases List.mem_cons.mp hp with rfl | hp
    · exact ⟨ho, f1, f2, ht⟩
    · exact D'.own p hp
  · rw [List.map_cons, List.nodup_cons, hm]
    exact ⟨f3, D'.nd |> fun x => by rw [hm] at x; exact x⟩

theorem gen_loop (S : St F) (p : GP) (hp : p.Ok F) {env : Env} {fs : List Frame} (henv : ∃ nm, env = envOf nm (recAt 1).scope p.Lg 21 (.ref 20)) (hfs : splitAtGen fs = none) (hfg : fs.any Frame.guarded = false)
    (hh : (A.over (.forLoop (forOf 1 2).1 (.ref p.e) (forOf 1 2).2 [] env) fs).handled = none) (hlen : p.l.length ≤ 100000)
    (done : ∀ s₀ m b tp h g, Lg F (baseBut F s₀.heap p.as) p.Lg m [] h → s₀.gens = g → m (Str.ofString "escape") = some (.bool b) → m (Str.ofString "pos") = some (.int ((p.l.length - 1 : Nat) : Int) tp) → esc [] p.l.length b <:+ p.all →
      SG c A (gR c F p) (gY c F p) (esc [] p.l.length b).length s₀ (.block [] env) (c.M.den (.block [] env)) fs h g) :
    ∀ (r : List Nat) (i : Nat) (b : Bool) (s₀ : Shared) (m : Str → Option Value) (tp : Tok) (h : Heap) (g : Gens), p.l.drop i = r → i ≤ p.l.length → esc r i b <:+ p.all →
      Lg F (baseBut F s₀.heap p.as) p.Lg m [(p.e, EnA p.it i), (p.it, SiA (T p.l) p.t i)] h → s₀.gens = g → m (Str.ofString "addr") = some (.str (T p.l) p.t) → m (Str.ofString "escape") = some (.bool b) → m (Str.ofString "pos") = some (.int ((i - 1 : Nat) : Int) tp) →
      SG c A (gR c F p) (gY c F p) (esc r i b).length s₀ (.forLoop (forOf 1 2).1 (.ref p.e) (forOf 1 2).2 [] env) (c.M.den (.forLoop (forOf 1 2).1 (.ref p.e) (forOf 1 2).2 [] env)) fs h g
  | [], i, b, s₀, m, tp, h, g, hr, hi, hsuf, D, hg, ma, me, mp => by
    have hil : i = p.l.length := by
      have := congrArg List.length hr
      simp at this
      omega
    subst hil
    refine sg_turn (end_enum hh (D.get M0) (by rw [show (T p.l).cps.size = p.l.length by simp]; exact D.get M1) fun h' i1 => ?_)
    exact done s₀ m b tp h' g ((D.lose R1 i1).drop (List.nil_sublist _)) hg me mp hsuf
  | ch :: r, i, b, s₀, m, tp, h, g, hr, hi, hsuf, D, hg, ma, me, mp => by
    have hlt : i < p.l.length := by
      have := congrArg List.length hr
      simp at this
      omega
    have hch : p.l[i]? = some ch := by
      have h1 := List.drop_eq_getElem_cons hlt
      rw [hr] at h1
      rw [List.getElem?_eq_getElem hlt]
      exact congrArg some (List.cons.inj h1).1.symm
    have hr' : p.l.drop (i + 1) = r := by
      have h1 := List.drop_eq_getElem_cons hlt
      rw [hr] at h1
      exact (List.cons.inj h1).2.symm
    have hne : p.e ≠ p.it := by have := hp.nd; simp [GP.as] at this; exact this.2
    obtain ⟨nm, rfl⟩ := henv
    have hszT : (T p.l).cps.size = p.l.length := by simp
    refine sg_turn (next_enum hh (D.get M0) (D.get M1) (by rw [hszT]; exact hlt) hne fun cp u tk h' hcp he hit ht hk => ?_)
    have : cp = ch := by simpa [hch] using hcp.symm
    subst this
    have D' := D.upd2 hk he hit (fun _ => EnOutA.tame) (fun _ => SiA.tame)
    replace D' := D.adopt' D' rfl Lg.get_size (P := TupA _) ⟨_, ht, rfl⟩ (fun _ => TupA.tame)
    generalize h.objs.size = ta at D' he ht
    refine lot_enum he fun h₁ h1 h2 => ?_
    replace D' := D'.upd U1 h2 h1 (fun _ => EnA.tame)
    obtain ⟨_, ht2, rfl⟩ := D'.get M0
    refine as_pair (AOk.any hh) ⟨_, ht2, rfl, _, rfl⟩ fun h₂ kk => ?_
    replace D' := D'.more kk
    refine s_local D'.ns fun h₃ j1 j2 => ?_
    replace D' := D'.store j1 j2
    refine s_local D'.ns fun h₄ j1 j2 => ?_
    replace D' := (D'.store j1 j2).drop (List.sublist_cons_self ..)
    intro K' H' hK
    refine sg_if (t_plain (n_local D'.ns me (t_bool ?_)))
    have next : ∀ (s₁ : Shared) (m : Str → Option Value) (tp : Tok) (b : Bool) (h : Heap) (g : Gens), esc r (i + 1) b <:+ p.all → Lg F (baseBut F s₁.heap p.as) p.Lg m [(p.e, EnA p.it ((i : Int) + 1)), (p.it, SiA (T p.l) p.t (i + 1))] h → s₁.gens = g →
        m (Str.ofString "addr") = some (.str (T p.l) p.t) → m (Str.ofString "escape") = some (.bool b) → m (Str.ofString "pos") = some (.int (i : Int) tp) → SG c A (gR c F p) (gY c F p) (esc r (i + 1) b).length s₁ (.forLoop (forOf 1 2).1 (.ref p.e) (forOf 1 2).2 [] (envOf nm (recAt 1).scope p.Lg 21 (.ref 20))) (K' .next) fs h g :=
      fun s₁ m tp b h g hs D hg h1 h2 h3 => by
        rw [hK]
        exact fun tk => seg_again rfl (gen_loop S p hp ⟨nm, rfl⟩ hfs hfg hh hlen done r (i + 1) b s₁ m tp h g hr' hlt hs D hg h1 h2 h3 tk)
    have give : ∀ (x : Nat × List Nat) (b' : Bool) (m : Str → Option Value) (tp : Tok) (h : Heap) (s' : Shared) (rest : List (Nat × List Nat)) (kap : Resume → Shared → Prop) (t : Sem Fin) (t1 t2 : Tok), (x :: rest) <:+ p.all → Lg F (baseBut F s₀.heap p.as) p.Lg m [(p.e, EnA p.it ((i : Int) + 1)), (p.it, SiA (T p.l) p.t (i + 1))] h →
        m (Str.ofString "addr") = some (.str (T p.l) p.t) → m (Str.ofString "escape") = some (.bool b') → m (Str.ofString "pos") = some (.int (i : Int) tp) → s'.drawn = c.d → s'.os = c.o → s'.heap = h.push { cls := .type "tuple", data := .seq #[.int x.1 t1, .str (T x.2) t2] } → s'.gens = g →
        (∀ s'', Seg c.M A (gR c F p) (gY c F p) rest.length s'' (.forLoop (forOf 1 2).1 (.ref p.e) (forOf 1 2).2 [] (envOf nm (recAt 1).scope p.Lg 21 (.ref 20))) t fs s'' → kap (.send .none) s'') →
        (∀ (s'' : Shared) (m : Str → Option Value) (tp : Tok), Lg F (baseBut F s''.heap p.as) p.Lg m [(p.e, EnA p.it ((i : Int) + 1)), (p.it, SiA (T p.l) p.t (i + 1))] s''.heap → m (Str.ofString "addr") = some (.str (T p.l) p.t) → m (Str.ofString "escape") = some (.bool b') → m (Str.ofString "pos") = some (.int (i : Int) tp) →
          SG c A (gR c F p) (gY c F p) rest.length s'' (.forLoop (forOf 1 2).1 (.ref p.e) (forOf 1 2).2 [] (envOf nm (recAt 1).scope p.Lg 21 (.ref 20))) t fs s''.heap s''.gens) →
        gY c F p rest.length s₀ (.ref h.objs.size) s' kap := fun x b' m tp h s' rest kap t t1 t2 hs D h1 h2 h3 e1 e2 e3 e4 hk next => by
      have D2 := D.push { cls := .type "tuple", data := .seq #[.int x.1 t1, .str (T x.2) t2] }
      refine ⟨⟨e1, e2, e4.trans hg.symm, fun b o hb ha e => ?_, fun b o e => by rw [e3]; exact D2.st b o e, by rw [e3]; exact D2.tabs⟩, ⟨x, _, suf_get hs, rfl, ⟨t1, t2, by rw [e3]; exact D2.getE M0⟩⟩, p.prs (i + 1) b', List.Sublist.refl _, prs_tame _ _ _, ?_, fun s'' R => hk s'' ?_⟩
      · rw [e3]
        exact D2.keep b o (hideAll_get _ e fun q => (List.mem_append.mp q).elim hb ha)
      · rw [e3]
        intro q hq
        rcases List.mem_cons.mp hq with rfl | hq
        · obtain ⟨o, o1, o2⟩ := of_ns D2.ns
          exact ⟨o, o1, m, o2, h1, h2, tp, by simpa using h3⟩
        · exact (D2.own q (.tail _ hq)).1
      · obtain ⟨o, o1, m', o2, k1, k2, tp', k3⟩ := R.hold _ (.head _)
        refine SG.at (next s'' m' tp' (Lg.resume (cs := [(p.e, EnA p.it ((i : Int) + 1)), (p.it, SiA (T p.l) p.t (i + 1))]) S.sep R.base R.tabs (ns_of ⟨o, o1, o2⟩) (fun q hq => R.hold q (.tail _ hq)) ?_ hp.nd ?_) k1 k2 (by simpa using k3)) R.d R.o
        · intro q hq
          rcases List.mem_cons.mp hq with rfl | hq
          · exact fun _ => EnA.tame
          · cases List.mem_singleton.mp hq
            exact fun _ => SiA.tame
        · intro a ha
          rcases List.mem_cons.mp ha with rfl | ha
          · exact hp.h1
          rcases List.mem_cons.mp ha with rfl | ha
          · exact hp.h2
          · rw [List.mem_singleton.mp ha]; exact hp.h3
    cases b with
    | true =>
      refine sg_yield hfs rfl hfg ?_
      refine e_tuple <| a_e <| n_local D'.ns rfl <| a_e <| e_bin <| e_str fun t1 => n_local D'.ns rfl <| str_add (show (Str.ofString "\\").length + 1 ≤ sizeLine by decide +kernel) fun t2 => a_end ⟨(show 2 ≤ sizeLine by decide), fun s' e1 e2 e3 e4 kap hk => ?_⟩
      refine give (i, [92, cp]) true _ tk h₄ s' (esc r (i + 1) false) kap _ tk t2 hsuf D' ma me rfl e1 e2 e3 e4 hk (fun s'' m tp D h1 h2 h3 => ?_)
      refine sg_execs <| x_assign <| e_bool <| s_local D.ns fun h5 j1 j2 => x_nil ?_
      exact sg_nil (next s'' _ tp false h5 _ ((List.suffix_cons _ _).trans hsuf) (D.store j1 j2) rfl h1 rfl h3)
    | false =>
      refine sg_if <| t_cmp <| n_local D'.ns rfl <| e_str fun t1 => str_eq <| t_bool ?_
      by_cases hc : cp = 92
      · subst hc
        refine sg_execs <| x_assign <| e_bool <| s_local D'.ns fun h5 j1 j2 => x_nil ?_
        exact sg_nil (sg_nil (next s₀ _ tk true h5 _ hsuf (D'.store j1 j2) hg ma rfl rfl))
      · have hsf : esc (cp :: r) i false = (i, [cp]) :: esc r (i + 1) false := by rw [esc, if_neg Bool.false_ne_true, if_neg hc]
        rw [hsf] at hsuf ⊢
        have hne2 : ((⟨#[cp]⟩ : Str) == Str.ofString "\\") = false := by
          cases hb : ((⟨#[cp]⟩ : Str) == Str.ofString "\\") with
          | false => rfl
          | true =>
            have e := eq_of_beq hb
            have e2 : (⟨#[cp]⟩ : Str).cps = #[92] := by rw [e]; decide +kernel
            simp at e2
            exact absurd e2 hc
        rw [hne2]
        refine sg_yield hfs rfl hfg ?_
        refine e_tuple <| a_e <| n_local D'.ns rfl <| a_e <| n_local D'.ns rfl <| a_end ⟨(show 2 ≤ sizeLine by decide), fun s' e1 e2 e3 e4 kap hk => ?_⟩
        refine give (i, [cp]) false _ tk h₄ s' (esc r (i + 1) false) kap _ tk u hsuf D' ma me rfl e1 e2 e3 e4 hk (fun s'' m tp D h1 h2 h3 => ?_)
        exact sg_nil (sg_nil (sg_nil (next s'' _ tp false s''.heap _ ((List.suffix_cons _ _).trans hsuf) D rfl h1 h2 h3)))
end
end Mine
end

noncomputable section
open PySem PySem.W PySem.Calls PyProof.Rows
set_option Elab.async false
set_option maxRecDepth 100000
set_option linter.unusedVariables false
set_option pp.deepTerms false
set_option pp.deepTerms.threshold 6
set_option pp.maxSteps 2000
namespace Mine
section
variable {c : Cx} {F : Fix} {A : Around}
theorem hide_none {h : Heap} {l : List Addr} {b : Addr} (e : h.get? b = none) : (hideAll h l).get? b = none := by
  cases q : (hideAll h l).get? b with
  | none => rfl
  | some o => rw [of_hideAll _ q] at e; cases e
/-- more is hidden -/
theorem Lg.hide {h₀ h : Heap} {L : Addr} {m : Str → Option Value} {cs : List Cell} {as as' : List Addr} (hF : F.Sep) (D : Lg F (baseBut F h₀ as) L m cs h) (hsub : ∀ a ∈ as, a ∈ as') (hH : ∀ a ∈ as', F.H.get? a = none) : Lg F (baseBut F h₀ as') L m cs h where
  base b o e := by
    have := of_hideAll _ (D.base b o e)
    refine hideAll_get _ this fun q => ?_
    rcases List.mem_append.mp q with q | q
    · rw [hF.apart b q] at e; cases e
    · rw [hH b q] at e; cases e
  keep b o e := D.keep b o (by
    refine hideAll_get _ (of_hideAll _ e) fun q => ?_
    have : (baseBut F h₀ as').get? b = none := hideAll_none _ (by
      rcases List.mem_append.mp q with q | q
      · exact List.mem_append_left _ q
      · exact List.mem_append_right _ (hsub _ q))
    rw [this] at e; cases e)
  tabs := D.tabs
  ns := D.ns
  off := by
    have := D.off
    by_cases q : L ∈ F.ns.map (·.P) ++ as'
    · exact hideAll_none _ q
    · have q' : L ∉ F.ns.map (·.P) ++ as := fun r => q (by
        rcases List.mem_append.mp r with r | r
        · exact List.mem_append_left _ r
        · exact List.mem_append_right _ (hsub _ r))
      rw [hideAll_get? _ _ _ q'] at this
      exact hide_none this
  own p hp := by
    obtain ⟨h1, h2, h3⟩ := D.own p hp
    refine ⟨h1, ?_, h3⟩
    by_cases q : p.1 ∈ F.ns.map (·.P) ++ as'
    · exact hideAll_none _ q
    · have q' : p.1 ∉ F.ns.map (·.P) ++ as := fun r => q (by
        rcases List.mem_append.mp r with r | r
        · exact List.mem_append_left _ r
        · exact List.mem_append_right _ (hsub _ r))
      rw [hideAll_get? _ _ _ q'] at h2
      exact hide_none h2
  nd := D.nd
abbrev Fr0A (l : List Nat) (t : Tok) (o : Obj) : Prop := ∃ m, DictA m o ∧ m (Str.ofString "addr") = some (.str (T l) t)
theorem gen_fresh (S : St F) {nm : Str} {ps : Arguments} {bd : List Stmt} {sc : Scope} {pos : Pos} (hrec : recAt 1 = ⟨nm, ps, bd, sc, pos⟩) (l : List Nat) (t : Tok) (La : Addr) (hlen : l.length ≤ 100000) (hA : A.handled = none) (hH : F.H.get? La = none) (s : Shared) (R : Rdy c F [(La, Fr0A l t)] s) :
    ∃ e it, (GP.mk (esc l 0 false) l t La e it).Ok F ∧ s.heap.get? e = none ∧ s.heap.get? it = none ∧
      Seg c.M A (gR c F ⟨esc l 0 false, l, t, La, e, it⟩) (gY c F ⟨esc l 0 false, l, t, La, e, it⟩) (esc l 0 false).length s (.func bd (envOf nm sc La 21 (.ref 20))) (c.M.den (.func bd (envOf nm sc La 21 (.ref 20)))) [] s := by
  obtain ⟨o, o1, m, o2, ma⟩ := R.hold _ M0
  have hla := Heap.lt_size o1
  have hok : (GP.mk (esc l 0 false) l t La (s.heap.objs.size + 1) s.heap.objs.size).Ok F := by
    refine ⟨hH, ?_, ?_, ?_⟩
    · cases e : F.H.get? (s.heap.objs.size + 1) with
      | none => rfl
      | some o => exact absurd (Nat.lt_of_succ_lt (Heap.lt_size (R.base _ _ e))) (Nat.lt_irrefl _)
    · cases e : F.H.get? s.heap.objs.size with
      | none => rfl
      | some o => exact absurd (Heap.lt_size (R.base _ _ e)) (Nat.lt_irrefl _)
    · have h1 : (La : Nat) < s.heap.objs.size := hla
      have h2 : (La : Nat) ≠ s.heap.objs.size + 1 := Nat.ne_of_lt (Nat.lt_succ_of_lt h1)
      have h3 : (La : Nat) ≠ s.heap.objs.size := Nat.ne_of_lt h1
      have h4 : s.heap.objs.size + 1 ≠ s.heap.objs.size := Nat.succ_ne_self _
      exact List.nodup_cons.mpr ⟨fun q => (List.mem_cons.mp q).elim h2 fun q => h3 (List.mem_singleton.mp q), List.nodup_cons.mpr ⟨fun q => h4 (List.mem_singleton.mp q), List.nodup_cons.mpr ⟨fun q => (nomatch q), List.nodup_nil⟩⟩⟩
  refine ⟨s.heap.objs.size + 1, s.heap.objs.size, hok, ?_, Lg.get_size, ?_⟩
  · cases e : s.heap.get? (s.heap.objs.size + 1) with
    | none => rfl
    | some o => exact absurd (Nat.lt_of_succ_lt (Heap.lt_size e)) (Nat.lt_irrefl _)
  generalize hp : GP.mk (esc l 0 false) l t La (s.heap.objs.size + 1) s.heap.objs.size = p at hok ⊢
  have D : Lg F (baseBut F s.heap [La]) La m [] s.heap := Lg.resume (cs := []) S.sep R.base R.tabs (ns_of ⟨o, o1, o2⟩) (fun q hq => nomatch hq) (fun q hq => nomatch hq) (by simp) (fun a ha => by cases List.mem_singleton.mp ha; exact hH)
  cases hrec
  refine seg_func ?_
  refine SG.at (s := s) ?_ R.d R.o
  refine sg_stmt (x_assign <| e_int fun t1 => s_local D.ns fun h₁ j1 j2 => x_nil ?_)
  replace D := D.store j1 j2
  refine sg_stmt (x_assign <| e_bool <| s_local D.ns fun h₂ j3 j4 => x_nil ?_)
  have hs2 : h₂.objs.size = s.heap.objs.size := j4.1.trans j2.1
  replace D := D.store j3 j4
  refine sg_for (e_call <| n_blt S D.st boot_enumerate <| c_type <| a_e <| n_local D.ns ma <| a_end <| enum_of fun h₃ he hit hk => i_enum he fun pp => ?_)
  rw [hs2] at he hit ⊢
  have hH2 : ∀ a ∈ p.as, F.H.get? a = none := by
    intro a ha
    rcases List.mem_cons.mp ha with rfl | ha
    · exact hok.h1
    rcases List.mem_cons.mp ha with rfl | ha
    · exact hok.h2
    · rw [List.mem_singleton.mp ha]; exact hok.h3
  have hg : ∀ a, a ∈ [s.heap.objs.size + 1, s.heap.objs.size] → h₂.get? a = none := by
    intro a ha
    cases e : h₂.get? a with
    | none => rfl
    | some o =>
      have := Heap.lt_size e
      rcases List.mem_cons.mp ha with rfl | ha
      · rw [hs2] at this; exact absurd (Nat.lt_of_succ_lt this) (Nat.lt_irrefl _)
      · rw [List.mem_singleton.mp ha, hs2] at this; exact absurd this (Nat.lt_irrefl _)
  have D1 := D.more hk
  replace D1 := D.adopt D1 (a := s.heap.objs.size) (P := SiA (T l) t 0) (hg _ (by simp)) hit (fun _ => SiA.tame)
  have D2 : Lg F (baseBut F s.heap p.as) La (fun y => if y = Str.ofString "escape" then some (Value.bool false) else if y = Str.ofString "pos" then some (Value.int 0 t1) else m y) [(s.heap.objs.size + 1, EnA s.heap.objs.size 0), (s.heap.objs.size, SiA (T l) t 0)] h₃ := by
    have e0 := hg (s.heap.objs.size + 1) (by simp)
    obtain ⟨f1, f2, f3⟩ := D.fresh_off e0
    have D2 : Lg F (baseBut F s.heap [La]) La (fun y => if y = Str.ofString "escape" then some (Value.bool false) else if y = Str.ofString "pos" then some (Value.int 0 t1) else m y) [(s.heap.objs.size + 1, EnA s.heap.objs.size 0), (s.heap.objs.size, SiA (T l) t 0)] h₃ := by
      refine ⟨D1.base, D1.keep, D1.tabs, D1.ns, D1.off, fun q hq => ?_, ?_⟩
      · rcases List.mem_cons.mp hq with rfl | hq
        · exact ⟨he, f1, f2, fun _ => EnA.tame⟩
        · exact D1.own q hq
      · rw [List.map_cons, List.nodup_cons]
        exact ⟨fun q => Nat.succ_ne_self _ (List.mem_singleton.mp q), D1.nd⟩
    exact D2.hide S.sep (fun a ha => by subst hp; cases List.mem_singleton.mp ha; exact .head _) hH2
  have pl : p.l = l := by subst hp; rfl
  have pa : p.all = esc l 0 false := by subst hp; rfl
  have pL : p.Lg = La := by subst hp; rfl
  have pe : p.e = s.heap.objs.size + 1 := by subst hp; rfl
  have pi : p.it = s.heap.objs.size := by subst hp; rfl
  have pt : p.t = t := by subst hp; rfl
  clear hp
  subst pl pt pL
  rw [← pe, ← pi] at D2
  rw [← pe]
  refine gen_loop S p hok ⟨_, rfl⟩ rfl rfl ?_ hlen ?_ p.l 0 false s _ t1 h₃ _ rfl (Nat.zero_le _) (by rw [pa]; exact List.suffix_refl _) D2 rfl ma rfl rfl
  · exact hA
  intro s₀ m b tp h g D hg me mp hsuf
  have leave : ∀ {cd : Code} {s₁ : Shared} {m : Str → Option Value} {h : Heap} {g : Gens}, Lg F (baseBut F s₁.heap p.as) p.Lg m [] h → s₁.gens = g → ∀ tk, Seg c.M A (gR c F p) (gY c F p) 0 s₁ cd (leafOf (.ok (.ret .none))) [] ⟨h, g, c.d, tk + (c.b + 1), c.o⟩ :=
    fun {cd s₁ m h g} D hg tk => seg_end _ ⟨rfl, rfl, rfl, rfl, hg.symm, fun b o hb ha e => D.keep b o (hideAll_get _ e fun q => (List.mem_append.mp q).elim hb ha), D.st, D.tabs⟩
  intro tk
  show Seg _ _ _ _ _ _ _ (leafOf (.ok .next)) _ _
  refine seg_leaf (.ok .next) ?_
  revert tk
  show SG c A (gR c F p) (gY c F p) _ s₀ _ (Sem.wrap _ _ _ _ (execs _ _)) [] h g
  refine sg_if (t_plain (n_local D.ns me (t_bool ?_)))
  cases b with
  | false =>
    exact fun tk => leave D hg tk
  | true =>
    refine sg_yield rfl rfl rfl ?_
    refine e_tuple <| a_e <| n_local D.ns mp <| a_e <| e_str fun t2 => a_end ⟨(show 2 ≤ sizeLine by decide), fun s' e1 e2 e3 e4 kap hk => ?_⟩
    have D2 := D.push { cls := .type "tuple", data := .seq #[.int ((p.l.length - 1 : Nat) : Int) tp, .str (Str.ofString "\\") t2] }
    refine ⟨⟨e1, e2, e4.trans hg.symm, fun b o hb ha e => ?_, fun b o e => by rw [e3]; exact D2.st b o e, by rw [e3]; exact D2.tabs⟩, ⟨_, _, suf_get hsuf, rfl, tp, t2, by rw [e3]; exact D2.getE M0⟩, [(p.Lg, fun o => ∃ m, DictA m o)], ?_, ?_, ?_, fun s'' R => hk s'' ?_⟩
    · rw [e3]
      exact D2.keep b o (hideAll_get _ e fun q => (List.mem_append.mp q).elim hb ha)
    · exact List.Sublist.cons_cons _ (List.nil_sublist _)
    · intro q hq
      cases List.mem_singleton.mp hq
      exact fun _ d => let ⟨_, d⟩ := d; DictA.tame d
    · rw [e3]
      intro q hq
      cases List.mem_singleton.mp hq
      obtain ⟨o, o1, o2⟩ := of_ns D2.ns
      exact ⟨o, o1, _, o2⟩
    · obtain ⟨o, o1, m', o2⟩ := R.hold _ (.head _)
      have D3 : Lg F (baseBut F s''.heap [p.Lg]) p.Lg m' [] s''.heap := Lg.resume (cs := []) S.sep R.base R.tabs (ns_of ⟨o, o1, o2⟩) (fun q hq => nomatch hq) (fun q hq => nomatch hq) (by simp) (fun a ha => by cases List.mem_singleton.mp ha; exact hok.h1)
      have D4 := D3.hide S.sep (as' := p.as) (fun a ha => by cases List.mem_singleton.mp ha; exact .head _) hH2
      exact SG.at (fun tk => leave D4 rfl tk) R.d R.o
end
end Mine
end

noncomputable section
open PySem PySem.W PySem.Calls PyProof.Rows
set_option Elab.async false
set_option maxRecDepth 100000
set_option linter.unusedVariables false
set_option pp.deepTerms false
set_option pp.deepTerms.threshold 6
set_option pp.maxSteps 2000
namespace Mine
section
variable {prog : Program} {w : World} {A : Around} {E : Value → Shared → Prop} {s : Shared}
/-- the next value of a generator that is a def of the text; what is left is bare -/
theorem gen_next {a : Addr} {g n : Nat} {gs : GenState} {P : Nat → Shared → Shared → Prop} {Y : Protocol} {Q : Option Value → Shared → Prop} (hh : A.handled = none)
    (hl : s.heap.NoLimit) (hroom : A.depth < recursionLimit) (hg : s.heap.IsGen a g) (hgs : s.gens[g]? = some gs)
    (hgo : gs.Goes (model prog w) A.in1 (fun n s₀ r s₁ => r = .ok (.ret .none) ∧ P n s₀ s₁) Y n (.send .none) (s.setGen g .running))
    (hY : ∀ v s₁ gs', gs'.bare = true → Y (n - 1) (s.setGen g .running) v s₁ (fun r' s'' => match n with
        | 0 => False
        | m + 1 => gs'.Goes (model prog w) A.in1 (fun n s₀ r s₁ => r = .ok (.ret .none) ∧ P n s₀ s₁) Y m r' s'') → Q (some v) (s₁.setGen g gs'))
    (hP : ∀ s₁, P n (s.setGen g .running) s₁ → ∀ h', (∀ b o, s₁.heap.get? b = some o → h'.get? b = some o) → Q none { s₁.setGen g .finished with heap := h' }) :
    wpAny (model prog w) A (pyNext (.ref a)) Q E s := by
  unfold pyNext
  refine wpAny_bind (wpAny_attempt (wpAny_callSpecial?_slot (name := Str.ofString "__next__") hg.typeIs slot_gen_next (wpAny_call_entry slot_gen_next hg.typeIs entry_gen_next ?_ (args_gen_next _))))
  show wpAny _ A.in1 (Builtin.Generator.genWake (.ref a) (.send .none)) _ _ s
  unfold Builtin.Generator.genWake
  refine wpAny_bind (wpAny_holding (wpAny_genNumber hg (wpAny_bind (wpAny_genState hgs ?_))))
  have hf : gs ≠ .running ∧ gs ≠ .finished := by
    constructor <;> (rintro rfl; exact hgo.elim)
  have room : wpAny (model prog w) A.in1 roomToWake (fun _ s' => s' = s) (fun _ _ => False) s := wpAny_roomToWake hl hroom rfl
  have after : wpAny (model prog w) A.in1 (Sem.resume g (.send .none) [] (fun r => (pure r : Sem GenResult))) (fun r s' => (∃ v, r = .yielded v ∧ Q (some v) s') ∨ (r = .returned .none ∧ ∀ h', (∀ b o, s'.heap.get? b = some o → h'.get? b = some o) → Q none { s' with heap := h' })) (fun _ _ => False) s := by
    refine wpAny_resumeQ hgs hgo (fun x s₁ hx => ?_) (fun v s₁ gs' hb hv => wpAny_pure (.inl ⟨v, rfl, hY v s₁ gs' hb hv⟩))
    obtain ⟨rfl, hp⟩ := hx
    exact wpAny_pure (.inr ⟨rfl, hP s₁ hp⟩)
  have exc : ∀ s' : Shared, wpAny (model prog w) A.in1 (newExc (.type "StopIteration") []) (fun v s₁ => ∃ a h', v = .ref a ∧ s₁ = { s' with heap := h' } ∧ (∀ b o, s'.heap.get? b = some o → h'.get? b = some o) ∧ s₁.TypeIs v "StopIteration") (fun _ _ => False) s' := by
    intro s'
    simp only [newExc, newTuple]
    refine wpAny_bind (wpAny_newObj_type ?_ (by size_fits))
    refine wpAny_bind (m := firstArgMember _ _) (wpAny_of_eq (a := Value.none) (by first | rfl | (simp only [firstArgMember]; rfl)) ?_)
    refine wpAny_newObj_type ?_ (by size_fits)
    exact ⟨_, _, rfl, rfl, fun b o hb => Heap.get?_push_of_some _ (Heap.get?_push_of_some _ hb), ⟨_, Heap.get?_push_size _ rfl, rfl⟩⟩
  have go : ∀ gs : GenState, gs ≠ .running ∧ gs ≠ .finished → gs.status = .fresh ∨ gs.status = .suspended := fun gs h => by
    cases gs with
    | running => exact absurd rfl h.1
    | finished => exact absurd rfl h.2
    | fresh c => exact .inl rfl
    | suspended k l c p fs cl => exact .inr rfl
  rcases go gs hf with e | e <;> rw [e]
  all_goals
    refine wpAny_bind (wpAny_mono room (fun _ s' e => ?_) fun _ _ f => f.elim)
    subst e
    show wpAny _ A.in1 (Sem.resume g (.send .none) [] (fun r => (pure r : Sem GenResult)) >>= _) _ _ _
    refine wpAny_bind (wpAny_mono after (fun r s' q => ?_) fun _ _ f => f.elim)
    rcases q with ⟨v, rfl, q⟩ | ⟨rfl, q⟩
    · exact wpAny_pure ⟨v, rfl, wpAny_pure q⟩
    · refine wpAny_bind (wpAny_mono (exc s') (fun v s₁ ⟨a, h', e0, e1, k, T⟩ => ?_) fun _ _ f => f.elim)
      subst e0 e1
      simp only [raiseNew]
      refine wpAny_bind (wpAny_bind (wpAny_handled ?_))
      rw [show A.in1.handled = none from hh]
      refine wpAny_throw ?_
      exact wpAny_bind (wpAny_isInstance (T := "StopIteration") (b := true) T isSubtype_stop (wpAny_pure (q h' k)))
end
end Mine
end

noncomputable section
open PySem PySem.W PySem.Calls PyProof.Rows
set_option Elab.async false
set_option maxRecDepth 100000
set_option linter.unusedVariables false
set_option pp.deepTerms false
set_option pp.deepTerms.threshold 6
set_option pp.maxSteps 2000
namespace Mine
/-- the state of a generator between two values -/
def GW (c : Cx) (F : Fix) (A : Around) (gg : Heap) (L : Addr) (ks : List Addr) (γ : Nat) (l : List Nat) (t : Tok) (La : Addr) (rest : List (Nat × List Nat)) (g : Gens) (pcs : List Cell) : Prop :=
  AllBare g ∧ ∃ gs, g[γ]? = some gs ∧
    ((gs = .fresh (.func (recAt 1).body (envOf (recAt 1).name (recAt 1).scope La 21 (.ref 20))) ∧ pcs = [(La, Fr0A l t)] ∧ rest = esc l 0 false) ∨
      ∃ p : GP, p.Ok F ∧ rest <:+ p.all ∧ (pcs.map (·.1)).Sublist p.as ∧ (∀ a ∈ p.as, gg.get? a = none ∧ a ≠ L ∧ a ∉ ks) ∧ (∀ q ∈ pcs, ∀ o, q.2 o → Tame o) ∧
        ∀ s, Rdy c F pcs s → gs.Goes c.M A.in1 (gR c F p) (gY c F p) rest.length (.send .none) s)
theorem allBare_set {a : Array GenState} {i : Nat} {y : GenState} (h : AllBare a) (hy : y.bare = true) : AllBare (a.setIfInBounds i y) := fun z hz => by
  rcases Array.mem_or_eq_of_mem_setIfInBounds hz with hz | rfl
  · exact h z hz
  · exact hy
theorem get_set {a : Array GenState} {i : Nat} {x y : GenState} (h : a[i]? = some x) : (a.setIfInBounds i y)[i]? = some y := by
  have hlt := (Array.getElem?_eq_some_iff.mp h).1
  simp [Array.getElem?_setIfInBounds_self_of_lt hlt]
section
variable {c : Cx} {F : Fix} {A : Around} {n : Nat} {h : Heap} {g : Gens} {gg : Heap} {L : Addr} {m : Str → Option Value} {γ : Nat} {l : List Nat} {t : Tok} {La ga : Addr} {rest : List (Nat × List Nat)} {pcs cs : List Cell}
/-- what the next value of a generator leaves -/
def GNext (c : Cx) (F : Fix) (A : Around) (gg : Heap) (L : Addr) (m : Str → Option Value) (cs : List Cell) (γ : Nat) (l : List Nat) (t : Tok) (La : Addr) (rest : List (Nat × List Nat)) : PostV (Option Value) := fun o h' g' => match rest with
  | x :: rest' => ∃ ta pcs', o = some (.ref ta) ∧ ItemAt h' ta x ∧ Lg F gg L m (pcs' ++ cs) h' ∧ GW c F A gg L (cs.map (·.1)) γ l t La rest' g' pcs'
  | [] => o = none ∧ Lg F gg L m cs h' ∧ AllBare g'
theorem gw_step (tk : Nat) (S : St F) (hA : AOk A n) (hn : n ≤ 50) (D : Lg F gg L m (pcs ++ cs) h) (htab : ∀ b ∈ F.ns.map (·.P), gg.get? b = none) (hb : AllBare g) {gs : GenState} (hgs : g[γ]? = some gs) (hga : gg.IsGen ga γ)
    (p : GP) (hp : p.Ok F) (hsuf : rest <:+ p.all) (hsub : (pcs.map (·.1)).Sublist p.as) (hap : ∀ a ∈ p.as, gg.get? a = none ∧ a ≠ L ∧ a ∉ cs.map (·.1))
    (go : gs.Goes c.M A.in1 (gR c F p) (gY c F p) rest.length (.send .none) ((⟨h, g, c.d, tk + (c.b + 1), c.o⟩ : Shared).setGen γ .running)) :
    wpAny c.M A (pyNext (.ref ga)) (fun o s' => s'.drawn = c.d ∧ s'.os = c.o ∧ GNext c F A gg L m cs γ l t La rest o s'.heap s'.gens) (fun e s' => s'.drawn = c.d ∧ s'.os = c.o ∧ F0 e s'.heap s'.gens) ⟨h, g, c.d, tk + (c.b + 1), c.o⟩ := by
  have T := D.tabs_off htab
  have step : ∀ {s₁ : Shared} {cs' : List Cell}, Left c F p ((⟨h, g, c.d, tk + (c.b + 1), c.o⟩ : Shared).setGen γ .running) s₁ → (cs'.map (·.1)).Sublist p.as → (∀ q ∈ cs', ∀ o, q.2 o → Tame o) → Hold cs' s₁.heap → Lg F gg L m (cs' ++ cs) s₁.heap := by
    intro s₁ cs' X h1 h2 h3
    have keep : ∀ b o, (b ∉ F.ns.map (·.P)) → b ∉ p.as → h.get? b = some o → s₁.heap.get? b = some o := X.keep
    refine ⟨D.base, fun b o e => keep b o (fun q => by rw [htab b q] at e; cases e) (fun q => by rw [(hap b q).1] at e; cases e) (D.keep b o e), X.tabs, ?_, D.off, fun q hq => ?_, ?_⟩
    · obtain ⟨o, es, ep, e, r⟩ := D.ns
      exact ⟨o, es, ep, keep _ _ (fun q => (T _ q).2.1 rfl) (fun q => (hap _ q).2.1 rfl) e, r⟩
    · rcases List.mem_append.mp hq with hq | hq
      · have ha := hap q.1 (h1.subset (List.mem_map_of_mem hq))
        exact ⟨h3 q hq, ha.1, ha.2.1, h2 q hq⟩
      · obtain ⟨⟨o, e1, e2⟩, r⟩ := D.own q (List.mem_append_right _ hq)
        refine ⟨⟨o, keep _ _ (fun x => (T _ x).2.2 (List.mem_map_of_mem (f := fun x : Cell => x.1) (List.mem_append_right _ hq))) (fun x => (hap _ x).2.2 (List.mem_map_of_mem (f := fun x : Cell => x.1) hq)) e1, e2⟩, r⟩
    · have nd := D.nd
      rw [List.map_append, List.nodup_append] at nd ⊢
      exact ⟨h1.nodup hp.nd, nd.2.1, fun a ha b hb e => (hap a (h1.subset ha)).2.2 (by rw [e]; exact hb)⟩
  refine gen_next (P := fun n s₀ s₁ => n = 0 ∧ Left c F p s₀ s₁) hA.h (S.nolimit.keeps D.st) (hA.room (by omega)) (hga.keeps D.keep) hgs go (fun v s₁ gs' hbare hv => ?_) (fun s₁ hv h' hk => ?_)
  · obtain ⟨X, ⟨x, ta, hx, rfl, hit⟩, cs', h1, h2, h3, hkap⟩ := hv
    cases rest with
    | nil => exact (hkap { s₁ with toks := c.b + 1 } ⟨⟨X.d, Nat.le_refl _⟩, X.o, X.base, X.tabs, h3⟩).elim
    | cons y rest' =>
      have hxy : x = y := by
        have := suf_get hsuf
        rw [List.length_cons, Nat.add_sub_cancel] at hx
        rw [this] at hx
        exact (Option.some.inj hx).symm
      subst hxy
      refine ⟨X.d, X.o, ta, cs', rfl, hit, step (s₁ := s₁) X h1 h2 h3, ?_, gs', ?_, .inr ⟨p, hp, (List.suffix_cons _ _).trans hsuf, h1, hap, h2, fun s R => hkap s R⟩⟩
      · show AllBare (s₁.gens.setIfInBounds γ gs')
        rw [X.gens]
        exact allBare_set (allBare_set hb rfl) hbare
      · show (s₁.gens.setIfInBounds γ gs')[γ]? = some gs'
        rw [X.gens]
        exact get_set (get_set hgs)
  · obtain ⟨h0, X⟩ := hv
    cases rest with
    | cons y r => simp at h0
    | nil =>
      refine ⟨X.d, X.o, rfl, ((step (s₁ := s₁) (cs' := []) X (List.nil_sublist _) (fun q hq => nomatch hq) (fun q hq => nomatch hq)).more hk), ?_⟩
      show AllBare (s₁.gens.setIfInBounds γ .finished)
      rw [X.gens]
      exact allBare_set (allBare_set hb rfl) rfl

theorem gw_next (S : St F) (hA : AOk A n) (hn : n ≤ 50) (hlen : l.length ≤ 100000) (D : Lg F gg L m (pcs ++ cs) h) (htab : ∀ b ∈ F.ns.map (·.P), gg.get? b = none) (W : GW c F A gg L (cs.map (·.1)) γ l t La rest g pcs) (hga : gg.IsGen ga γ) :
    WP c A (pyNext (.ref ga)) (GNext c F A gg L m cs γ l t La rest) F0 h g := by
  intro tk
  refine absP fun Y hY => ?_
  obtain ⟨hb, gs, hgs, W⟩ := W
  rcases W with ⟨rfl, rfl, rfl⟩ | ⟨p, hp, hsuf, hsub, hap, htm, hgo⟩
  · have hd := D.nd
    rw [List.map_append, List.nodup_append] at hd
    obtain ⟨ho, a3, a4, a5⟩ := D.own _ (List.mem_append_left _ M0)
    have R : Rdy c F [(La, Fr0A l t)] ((⟨h, g, c.d, tk + (c.b + 1), c.o⟩ : Shared).setGen γ .running) := ⟨⟨rfl, Nat.le_add_left _ _⟩, rfl, D.st, D.tabs, fun q hq => (D.own q (List.mem_append_left _ hq)).1⟩
    obtain ⟨e, it, hok, he, hit, hseg⟩ := gen_fresh (A := A.in1) S (l := l) (hrec := rfl) t La hlen hA.h (by
      cases q : F.H.get? La with
      | none => rfl
      | some o => rw [D.base _ _ q] at a3; cases a3) _ R
    have f1 := D.fresh_off (a := e) he
    have f2 := D.fresh_off (a := it) hit
    refine hY ?_
    refine gw_step tk S hA hn D htab hb hgs hga _ hok (List.suffix_refl _) (List.Sublist.cons_cons _ (List.nil_sublist _)) (fun a ha => ?_) ⟨rfl, hseg⟩
    rw [List.map_append] at f1 f2
    rcases List.mem_cons.mp ha with rfl | ha
    · exact ⟨a3, a4, fun q => hd.2.2 _ (List.mem_singleton.mpr rfl) _ q rfl⟩
    rcases List.mem_cons.mp ha with rfl | ha
    · exact ⟨f1.1, f1.2.1, fun q => f1.2.2 (List.mem_append_right _ q)⟩
    · cases List.mem_singleton.mp ha
      exact ⟨f2.1, f2.2.1, fun q => f2.2.2 (List.mem_append_right _ q)⟩
  · refine hY ?_
    exact gw_step tk S hA hn D htab hb hgs hga p hp hsuf hsub hap (hgo _ ⟨⟨rfl, Nat.le_add_left _ _⟩, rfl, D.st, D.tabs, fun q hq => (D.own q (List.mem_append_left _ hq)).1⟩)
end
end Mine
end

noncomputable section
open PySem PySem.W PySem.Calls PyProof.Rows
set_option Elab.async false
set_option maxRecDepth 100000
set_option linter.unusedVariables false
set_option pp.deepTerms false
set_option pp.deepTerms.threshold 6
set_option pp.maxSteps 2000
namespace Mine
section
variable {c : Cx} {F : Fix} {A A' : Around} {n : Nat} {E : PostV Value} {h : Heap} {g : Gens} {gg : Heap} {L : Addr} {m : Str → Option Value} {cs : List Cell}
/-- all that stands off the frame becomes its base -/
theorem Lg.rebase (hF : F.Sep) (D : Lg F gg L m cs h) : Lg F (hideAll h (F.ns.map (·.P) ++ L :: cs.map (·.1))) L m cs h where
  base b o e := hideAll_get _ (D.st b o e) fun q => by
    rcases List.mem_append.mp q with q | q
    · rw [hF.apart b q] at e; cases e
    rcases List.mem_cons.mp q with rfl | q
    · have := D.base _ _ e; rw [D.off] at this; cases this
    · obtain ⟨p, hp, rfl⟩ := List.mem_map.mp q
      have := D.base _ _ e; rw [(D.own p hp).2.1] at this; cases this
  keep b o e := of_hideAll _ e
  tabs := D.tabs
  ns := D.ns
  off := hideAll_none _ (List.mem_append_right _ (.head _))
  own p hp := let ⟨h1, h2, h3, h4⟩ := D.own p hp; ⟨h1, hideAll_none _ (List.mem_append_right _ (.tail _ (List.mem_map_of_mem hp))), h3, h4⟩
  nd := D.nd
theorem Lg.rebase_sub (D : Lg F gg L m cs h) (htab : ∀ b ∈ F.ns.map (·.P), gg.get? b = none) {b : Addr} {o : Obj} (e : gg.get? b = some o) : (hideAll h (F.ns.map (·.P) ++ L :: cs.map (·.1))).get? b = some o :=
  hideAll_get _ (D.keep b o e) fun q => by
    rcases List.mem_append.mp q with q | q
    · rw [htab b q] at e; cases e
    rcases List.mem_cons.mp q with rfl | q
    · rw [D.off] at e; cases e
    · obtain ⟨p, hp, rfl⟩ := List.mem_map.mp q
      rw [(D.own p hp).2.1] at e; cases e
theorem call_gen (S : St F) (hf : FnAt F.H F.mg 1 21 (.ref 20)) (D : Lg F gg L m cs h) (htab : ∀ b ∈ F.ns.map (·.P), gg.get? b = none) (hA : AOk A n) (hn : n ≤ 50) (hb : AllBare g) {l : List Nat} {t : Tok} {Q : PostV Value}
    {nm : Str} {ps : Arguments} {bd : List Stmt} {sc : Scope} {pos : Pos} (hrec : recAt 1 = ⟨nm, ps, bd, sc, pos⟩)
    (hbind : ∀ pm doc, bindArgs (docDef nm ps bd sc pm (.ref 20) doc) ⟨[.str (T l) t], []⟩ = pure [(Str.ofString "addr", .str (T l) t)])
    (hloc : sc.names.lookup (Str.ofString "addr") = some .local) (hcell : (sc.names.all fun x => x.2 != .cell) = true)
    (q : ∀ gg' La ga h' gn, (∀ b o, gg.get? b = some o → gg'.get? b = some o) → (∀ b ∈ F.ns.map (·.P), gg'.get? b = none) → gg'.IsGen ga g.size → Lg F gg' L m ([(La, Fr0A l t)] ++ cs) h' →
      GW c F A' gg' L (cs.map (·.1)) g.size l t La (esc l 0 false) (g.push gn) [(La, Fr0A l t)] → Q (.ref ga) h' (g.push gn))
    (hco : sc.isCoroutine = false := by rfl) (hgen : sc.isGenerator = true := by rfl) (hk : sc.kind = .function := by rfl) :
    WP c A (call (.ref 21) [.str (T l) t]) Q E h g := by
  intro tk
  obtain ⟨o, pm, doc, h1, h2, h3⟩ := hf.ob
  have hrec' := hrec
  rw [hrec] at h2 h3
  refine wpAny_call (codeAny_call_generator (s := ⟨h, g, c.d, tk + (c.b + 1), c.o⟩) (hA.room (by omega)) (D.st _ _ h1) h2 hco hgen rfl (h3.keeps D.st) ?_)
  rw [hbind]
  refine wpAny_pure ?_
  refine wpAny_newFunctionEnv (fun y hy e => ?_) (fun y hy => ?_) (fun h₀ hns hsb => ⟨(S.nolimit.keeps D.st).fresh _ hsb, ?_⟩) hk
  · have := List.all_eq_true.mp hcell y hy
    rw [e] at this; cases this
  · cases List.mem_singleton.mp hy
    exact hloc
  have hk₀ : ∀ b o, h.get? b = some o → h₀.get? b = some o := fun b o e => hsb.extBut b o (Nat.ne_of_lt (Heap.lt_size e)) (Heap.get?_push_of_some _ e)
  have D1 := D.adopt (D.more hk₀) (a := h.objs.size) (P := Fr0A l t) Lg.get_size (by
    obtain ⟨o, o1, o2⟩ := of_ns hns
    exact ⟨o, o1, _, o2, rfl⟩) (fun _ d => let ⟨_, d, _⟩ := d; DictA.tame d)
  have f := D1.fresh_off Lg.get_size
  have D2 := D1.more (h' := h₀.push { cls := .type "generator", data := .fields #[.int g.size 0, .str nm (tk + (c.b + 1) + 1), .str nm (tk + (c.b + 1) + 1 + 1)] }) (fun _ _ e => Heap.get?_push_of_some _ e)
  refine ⟨rfl, rfl, ?_⟩
  have hT : h₀.objs.size ∉ F.ns.map (·.P) := fun q => by
    obtain ⟨n, hn, e⟩ := List.mem_map.mp q
    obtain ⟨ps, p1, _⟩ := D1.tabs n hn
    rw [e] at p1
    exact Nat.lt_irrefl _ (Heap.lt_size p1)
  have X := q (hideAll (h₀.push { cls := .type "generator", data := .fields #[.int g.size 0, .str nm (tk + (c.b + 1) + 1), .str nm (tk + (c.b + 1) + 1 + 1)] }) (F.ns.map (·.P) ++ L :: ((h.objs.size, Fr0A l t) :: cs).map (·.1))) h.objs.size h₀.objs.size _ (.fresh (.func bd (envOf nm sc h.objs.size 21 (.ref 20))))
    (fun b o e => D2.rebase_sub htab e) (fun b hb => hideAll_none _ (List.mem_append_left _ hb)) ⟨_, _, _, hideAll_get _ (Heap.get?_push_size _ rfl) fun q => ?_, rfl, rfl, rfl⟩ (D2.rebase S.sep) ?_
  · exact X
  · rcases List.mem_append.mp q with q | q
    · exact hT q
    rcases List.mem_cons.mp q with q | q
    · exact f.2.1 q
    · exact f.2.2 q
  · cases hrec
    exact ⟨AllBare.push hb rfl, _, Array.getElem?_push_size .., .inl ⟨rfl, rfl, rfl⟩⟩
end
end Mine
end

noncomputable section
open PySem PySem.W PySem.Calls PyProof.Rows
set_option Elab.async false
set_option maxRecDepth 100000
set_option linter.unusedVariables false
set_option maxHeartbeats 2000000
set_option pp.deepTerms false
set_option pp.deepTerms.threshold 6
set_option pp.maxSteps 2000
namespace Mine
def chk : List (Nat × List Nat) → Int → Bool
  | [], n => n == 0
  | (_, s) :: r, n => if s = [40] then chk r (n + 1) else if s = [41] then (if n - 1 < 0 then false else chk r (n - 1)) else chk r n
structure SS where
  start : Nat
  op : Option Nat
  res : List Str
def sstep (y : Str) (s : SS) (it : Nat × List Nat) : SS :=
  if it.2 = [34] then (match s.op with
    | none => { s with op := some it.1 }
    | some o => ⟨it.1 + 1, none, if s.start = o then s.res else s.res ++ [Txt.slice y (some (s.start : Int)) (some (o : Int))]⟩) else s
def srun (y : Str) (its : List (Nat × List Nat)) : SS := its.foldl (sstep y) ⟨0, none, []⟩
def stripS (y : Str) : Str :=
  if (Builtin.Str.occurrences y (Str.ofString "\"") 0 y.length 1).isEmpty then y else
    let s := srun y (esc y.cps.toList 0 false)
    Txt.join (Str.ofString "") (if s.start < y.length then s.res ++ [Txt.slice y (some (s.start : Int)) none] else s.res)
section
variable {c : Cx} {F : Fix} {A : Around} {n : Nat} {E : PostV Value} {h : Heap} {g : Gens} {env : Env}
theorem i_gen {a : Addr} {γ : Nat} {Q : PostV Value} (hg : h.IsGen a γ) (q : Q (.ref a) h g) : WP c A (pyIter (.ref a)) Q E h g := fun _ => wpAny_pyIter_gen hg ⟨rfl, rfl, q⟩
theorem lot_gen {elts k pos} {a ta : Addr} {γ : Nat} {Q : PostV Unit} (hg : h.IsGen a γ) (q : Q () h g) : WP c A (letOwnedTupleGo (.Tuple elts k pos) (.ref a) (.ref ta)) Q E h g := by
  intro tk
  obtain ⟨o, nm, qn, ho, hc, hd, _⟩ := hg
  unfold letOwnedTupleGo
  refine wpAny_bind (wpAny_load ho ?_)
  rw [hc, hd]
  show wpAny _ _ (if (["enumerate", "zip", "dict_itemiterator", "dict_reverseitemiterator", "odict_iterator", "itertools.zip_longest", "itertools.pairwise"].contains "generator" && _) = true then _ else _) _ _ _
  rw [if_neg (by simp)]
  exact wpAny_pure ⟨rfl, rfl, q⟩
theorem cp_eq (x : List Nat) (k : Nat) : ((T x) == (⟨#[k]⟩ : Str)) = decide (x = [k]) := by
  cases hb : ((T x) == (⟨#[k]⟩ : Str)) with
  | true =>
    have e := congrArg Str.cps (eq_of_beq hb)
    simp at e
    simp [e]
  | false =>
    have : ¬ x = [k] := fun e => by
      subst e
      exact absurd hb (by simp)
    simp [this]
theorem q34 : Str.ofString "\"" = ⟨#[34]⟩ := by decide +kernel
theorem q40 : Str.ofString "(" = ⟨#[40]⟩ := by decide +kernel
theorem q41 : Str.ofString ")" = ⟨#[41]⟩ := by decide +kernel
theorem o_isnone {v : Value} {Q : PostV Value} (q : Q (.bool (v == .none)) h g) : WP c A (compareOp .Is v .none) Q E h g := fun _ => is_none ⟨rfl, rfl, q⟩
theorem o_ne {a b : Int} {t u : Tok} {Q : PostV Value} (q : Q (.bool (a != b)) h g) : WP c A (compareOp .NotEq (.int a t) (.int b u)) Q E h g := fun _ => P.ne_int ⟨rfl, rfl, q⟩
theorem Up.app {a : Addr} {P P' : Obj → Prop} {cs cs' : List Cell} (u : Up a P P' cs cs') : ∀ pcs : List Cell, Up a P P' (pcs ++ cs) (pcs ++ cs')
  | [] => u
  | _ :: r => .there (Up.app u r)
theorem c_bltF {id : String} {pos : Pos} {first : List Value} {e : Expr} {es : List Expr} {Q : PostV Value}
    (x : WP c A (spliced (backTo pos (starEach (e :: es) env))) (fun vs h₁ g₁ => WP c A (call (.builtin id) (first ++ vs)) Q E h₁ g₁) E h g)
    (he : starEach (e :: es) env = (false, eval e env) :: starEach es env := by rfl) (hp : (backTo pos (starEach es env)).any (·.1) = false := by rfl) : WP c A (callWith pos (.builtin id) first (backTo pos (starEach (e :: es) env)) []) Q E h g := by
  rw [back_cons he] at x ⊢
  exact cw_builtin (by simpa using hp) x
theorem e_smeth {o : Expr} {name : Str} {apos pos : Pos} {args : List Expr} {id : String} {Q : PostV Value}
    (slot : Slot "str" name id) (hty : typeOf (.builtin id) = pure (.type "method_descriptor"))
    (x : WP c A (eval o env) (fun ov h₁ g₁ => ∃ y t, ov = .str y t ∧ WP c A (callWith pos (.builtin id) [.str y t] (backTo pos (starEach args env)) []) Q E h₁ g₁) E h g)
    (hbase : attributeBase o name env (eval o env) = eval o env := by rfl)
    (hfew : ((backTo pos (starEach args env)).all (fun x => !x.1) && (backToKw pos (keywordEach [] env)).all (fun x => x.1.isSome)
      && decide (args.length + ([] : List Keyword).length + (if ([] : List Keyword).isEmpty then 0 else 1) < 30)) = true := by rfl)
    (hline : (apos.endLine == pos.line) = true := by rfl) :
    WP c A (eval (.Call (.Attribute o name apos) args [] pos) env) Q E h g :=
  e_meth F.plainAttrs_str slot hty (x.monoQ fun v h' g' ⟨y, t, e, q⟩ => by
    subst e
    exact ⟨fun s' e => typeIs_str s' y t, fun a e => by (cases e), q⟩) hbase hfew hline
theorem str_join {D : Addr} {items : Array Value} {ys : List Str} {x : Str} {t : Tok} {Q : PostV Value} (hl : h.IsList D items) (hi : StrsAre items.toList ys) (hok : (ys.map (·.length)).sum + ys.length * x.length ≤ 16777216)
    (q : ∀ t, Q (.str (Txt.join x ys) t) h g) : WP c A (call (.builtin "str.join") [.str x t, .ref D]) Q E h g := fun _ => PyProof.Rows.join_list hl hi hok fun _ _ => ⟨rfl, rfl, q _⟩
theorem sum_le (k : Nat) : ∀ ys : List Str, (∀ z ∈ ys, z.length ≤ k) → (ys.map (·.length)).sum ≤ ys.length * k
  | [], _ => by simp
  | y :: ys, h => by
    have h1 := h y (.head _)
    have h2 := sum_le k ys fun z hz => h z (.tail _ hz)
    simp only [List.map_cons, List.sum_cons, List.length_cons, Nat.add_mul]
    omega
theorem esc_len : ∀ (l : List Nat) (i : Nat) (b : Bool), (esc l i b).length ≤ l.length + 1
  | [], i, b => by unfold esc; split <;> simp
  | ch :: r, i, b => by
    unfold esc
    have h1 := esc_len r (i + 1) false
    have h2 := esc_len r (i + 1) true
    split
    · simp; omega
    · split
      · simp; omega
      · simp; omega
theorem srun_succ (y : Str) (its : List (Nat × List Nat)) {i : Nat} {x : Nat × List Nat} (hx : its[i]? = some x) : srun y (its.take (i + 1)) = sstep y (srun y (its.take i)) x := by
  unfold srun
  rw [List.take_add_one, hx, List.foldl_append]
  rfl
theorem strsAre_push {vs : List Value} {ys : List Str} (h : StrsAre vs ys) (y : Str) (t : Tok) : StrsAre (vs ++ [.str y t]) (ys ++ [y]) := by
  induction h with
  | nil => exact .cons y t .nil
  | cons y' t' _ ih => exact .cons y' t' ih
inductive J8 (c : Cx) (F : Fix) (A2 : Around) (gg : Heap) (L lr γ : Addr) (l : List Nat) (t : Tok) (La : Addr) (its : List (Nat × List Nat)) (i : Nat) (h : Heap) (g : Gens) : Prop
  | mk (m : Str → Option Value) (pcs : List Cell) (items : Array Value) (ts top : Tok) (D : Lg F gg L m (pcs ++ [(lr, PlA items)]) h) (W : GW c F A2 gg L [lr] γ l t La (its.drop i) g pcs) (ma : m (Str.ofString "addr") = some (.str (T l) t)) (mr : m (Str.ofString "result") = some (.ref lr))
    (ms : m (Str.ofString "start") = some (.int (srun (T l) (its.take i)).start ts)) (mo : m (Str.ofString "open_pos") = some (match (srun (T l) (its.take i)).op with | none => .none | some o => .int o top)) (hstr : StrsAre items.toList (srun (T l) (its.take i)).res)
    (hrl : (srun (T l) (its.take i)).res.length ≤ i) (hrz : ∀ z ∈ (srun (T l) (its.take i)).res, z.length ≤ (T l).length) : J8 c F A2 gg L lr γ l t La its i h g
theorem strip_q (X : Tx F) (O : Ok F h g) (hA : AOk A n) (hn : n ≤ 20) (l : List Nat) (t : Tok) (hlen : l.length ≤ 1000) :
    WP c A (call (.ref 28) [.str (T l) t]) (fun r h' g' => Grow F h h' ∧ Ok F h' g' ∧ ∃ t, r = .str (stripS (T l)) t) E h g := by
  have S := X.S
  refine WP.abs fun Q0 hQ0 => ?_
  refine call_fn (binds := [(Str.ofString "addr", .str (T l) t)]) S O hA (le0 hn) X.f2 rfl (fun _ _ => ?_) ?_ ?_ fun L h₁ D hA' => of0 ?_
  · kernel_rfl
  · kernel_rfl
  · kernel_rfl
  generalize Around.deeper A _ = A2 at hA' ⊢
  refine x_if <| t_cmp <| e_str fun t1 => n_local D.ns rfl <| str_notin <| t_bool ?_
  rw [Bool.not_not]
  by_cases hq : (Builtin.Str.occurrences (T l) (Str.ofString "\"") 0 (T l).length 1).isEmpty = true
  · rw [if_pos hq]
    refine x_ret (n_local D.ns rfl (hQ0 _ _ _ ⟨D.grow, D.ok O.bare, t, ?_⟩))
    unfold stripS
    rw [if_pos hq]
  rw [if_neg hq]
  have hstrip : stripS (T l) = Txt.join (Str.ofString "") (if (srun (T l) (esc l 0 false)).start < (T l).length then (srun (T l) (esc l 0 false)).res ++ [Txt.slice (T l) (some ((srun (T l) (esc l 0 false)).start : Int)) none] else (srun (T l) (esc l 0 false)).res) := by
    unfold stripS
    rw [if_neg hq]
  refine x_nil <| x_assign <| e_int fun t2 => s_local D.ns fun h₂ j1 j2 => ?_
  replace D := D.store j1 j2
  refine x_assign <| e_none <| s_local j1 fun h₂ j1 j2 => ?_
  replace D := D.store j1 j2
  refine x_assign <| e_list <| a_end ⟨Nat.zero_le _, ?_⟩
  replace D := D.newList #[]
  generalize h₂.objs.size = lr at D
  refine s_local D.ns fun h₃ j1 j2 => ?_
  replace D := D.store j1 j2
  obtain ⟨its, hits⟩ : ∃ its, its = esc l 0 false := ⟨_, rfl⟩
  have hitl : its.length ≤ 1001 := by rw [hits]; have := esc_len l 0 false; omega
  refine x_for <| e_call <| n_global (S.g.keeps D.st) X.f1.nm <| c_fn X.f1 <| a_e <| n_local j1 rfl <| a_end ⟨D.st, ?_⟩
  refine call_gen (A' := A2) S X.f1 D base_off hA' (le1 hn) O.bare rfl ?_ rfl ?_ fun gg La ga h₄ gn hsub htab hgen D W => ?_
  · intro _ _; kernel_rfl
  · kernel_rfl
  obtain ⟨γ, hγ⟩ : ∃ γ, γ = g.size := ⟨_, rfl⟩
  rw [← hγ] at hgen W
  refine i_gen (hgen.keeps D.keep) ?_
  rw [← hits] at W hstrip
  refine fl_abs (N := its.length) (J8 c F A2 gg L lr γ l t La its) ?_ ?_ ?_
  · exact ⟨_, _, _, t2, t2, D, W, rfl, rfl, rfl, rfl, .nil, by simp [srun], by simp [srun]⟩
  · rintro i h₅ g₅ hi Q1 hQ1 _ ⟨m, pcs, items, ts, top, D, W, ma, mr, ms, mo, hstr, hrl, hrz⟩
    refine (gw_next S hA' (le1 hn) (by omega) D htab W hgen).monoQ fun o h' g' q => ?_
    rw [List.drop_eq_getElem_cons hi] at q
    obtain ⟨ta, pcs', rfl, ⟨tk, tk', ht⟩, D, W⟩ := q
    obtain ⟨x, hx⟩ : ∃ x, x = its[i] := ⟨_, rfl⟩
    have hx' : its[i]? = some x := by rw [hx]; exact List.getElem?_eq_getElem hi
    rw [← hx] at ht
    refine ⟨_, rfl, lot_gen (hgen.keeps D.keep) (as_pair hA' ⟨_, ht, rfl, _, rfl⟩ fun h₆ kk => ?_)⟩
    replace D := D.more kk
    refine s_local D.ns fun h₇ j1 j2 => ?_
    replace D := D.store j1 j2
    refine s_local j1 fun h₇ j1 j2 => ?_
    replace D := D.store j1 j2
    have hsucc := srun_succ (T l) its hx'
    refine x_if <| t_cmp <| n_local j1 rfl <| e_str fun t3 => str_eq <| t_bool ?_
    rw [q34, cp_eq]
    by_cases h34 : x.2 = [34]
    · rw [if_pos (by simp [h34])]
      have hss : srun (T l) (its.take (i + 1)) = match (srun (T l) (its.take i)).op with
          | none => { srun (T l) (its.take i) with op := some x.1 }
          | some o => ⟨x.1 + 1, none, if (srun (T l) (its.take i)).start = o then (srun (T l) (its.take i)).res else (srun (T l) (its.take i)).res ++ [Txt.slice (T l) (some ((srun (T l) (its.take i)).start : Int)) (some (o : Int))]⟩ := by
        rw [hsucc, sstep, if_pos h34]
      cases hop : (srun (T l) (its.take i)).op with
      | none =>
        rw [hop] at mo hss
        dsimp only at mo hss
        refine x_if <| t_cmp <| n_local j1 mo <| e_none <| o_isnone <| t_bool ?_
        rw [if_pos (show (Value.none == Value.none) = true by rfl)]
        refine x_assign <| n_local j1 rfl <| s_local j1 fun h₈ j1 j2 => x_nil <| x_nil <| x_nil ?_
        replace D := D.store j1 j2
        exact hQ1 _ _ ⟨_, pcs', items, ts, tk, D, W, ma, mr, by rw [hss]; exact ms, by rw [hss]; rfl, by rw [hss]; exact hstr, by rw [hss]; exact Nat.le_succ_of_le hrl, by rw [hss]; exact hrz⟩
      | some o =>
        rw [hop] at mo hss
        dsimp only at mo hss
        refine x_if <| t_cmp <| n_local D.ns mo <| e_none <| o_isnone <| t_bool ?_
        rw [if_neg (show ¬ (Value.int (o : Int) top == Value.none) = true from Bool.false_ne_true)]
        refine x_if <| t_cmp <| n_local D.ns ms <| n_local D.ns mo <| o_ne <| t_bool ?_
        by_cases hso : (srun (T l) (its.take i)).start = o
        · rw [if_neg (by simp [hso])]
          rw [if_pos hso] at hss
          refine x_nil <| x_assign <| e_bin <| n_local D.ns rfl <| e_int fun t5 => o_add' (r := ((x.1 + 1 : Nat) : Int)) (by push_cast; rfl) fun t6 => s_local D.ns fun h₈ j1 j2 => ?_
          replace D := D.store j1 j2
          refine x_assign <| e_none <| s_local j1 fun h₉ j1 j2 => x_nil <| x_nil <| x_nil ?_
          replace D := D.store j1 j2
          exact hQ1 _ _ ⟨_, pcs', items, t6, t6, D, W, ma, mr, by rw [hss]; rfl, by rw [hss]; rfl, by rw [hss]; exact hstr, by rw [hss]; exact Nat.le_succ_of_le hrl, by rw [hss]; exact hrz⟩
        · rw [if_pos (by simp; omega)]
          rw [if_neg hso] at hss
          have hml : ∀ {pcs : List Cell} {m : Str → Option Value} {h : Heap}, Lg F gg L m (pcs ++ [(lr, PlA items)]) h → ∃ n, IsL h lr items n := fun D => D.isL (List.mem_append_right _ (.head _))
          obtain ⟨n1, L1⟩ := hml D
          refine x_expr <| e_append <| n_local D.ns mr ⟨_, _, _, rfl, L1, ?_⟩
          refine e_sub <| n_local D.ns ma <| e_slice <| p_some <| n_local D.ns ms <| p_some <| n_local D.ns mo ?_
          have D5 := D.anyPush { cls := .type "slice", data := .fields #[.int (srun (T l) (its.take i)).start ts, .int o top, .none] }
          refine sb_sslice (.int _ _) (.int _ _) (Heap.IsSliceOf.new ..) (by rw [T_len]; show _ ≤ 2 ^ 24; omega) fun t7 => ?_
          obtain ⟨n2, L2⟩ := hml D5
          have hisz : items.size ≤ 1001 := by
            have : items.toList.length = (srun (T l) (its.take i)).res.length := hstr.len_eq
            rw [Array.length_toList] at this
            omega
          refine ⟨_, _, (show _ ≤ 2 ^ 24 by omega), L2, (fun _ q => by cases q), ?_⟩
          replace D := D5.updSeq (fun xs => xs.push (.str (Txt.slice (T l) (some ((srun (T l) (its.take i)).start : Int)) (some (o : Int))) t7)) (Up.app U0 pcs')
          refine x_nil <| x_assign <| e_bin <| n_local D.ns rfl <| e_int fun t5 => o_add' (r := ((x.1 + 1 : Nat) : Int)) (by push_cast; rfl) fun t6 => s_local D.ns fun h₈ j1 j2 => ?_
          replace D := D.store j1 j2
          refine x_assign <| e_none <| s_local j1 fun h₉ j1 j2 => x_nil <| x_nil <| x_nil ?_
          replace D := D.store j1 j2
          refine hQ1 _ _ ⟨_, pcs', _, t6, t6, D, W, ma, mr, by rw [hss]; rfl, by rw [hss]; rfl, ?_, ?_, ?_⟩
          · rw [hss, Array.toList_push]
            exact strsAre_push hstr _ _
          · rw [hss, List.length_append]
            exact Nat.succ_le_succ hrl
          · rw [hss]
            intro z hz
            rcases List.mem_append.mp hz with hz | hz
            · exact hrz z hz
            · rw [List.mem_singleton.mp hz]
              exact Txt.slice_le _ _ _
    · rw [if_neg (by simp [h34])]
      have hs : srun (T l) (its.take (i + 1)) = srun (T l) (its.take i) := by rw [hsucc, sstep, if_neg h34]
      refine x_nil <| x_nil <| hQ1 _ _ ⟨_, pcs', items, ts, top, D, W, ma, mr, by rw [hs]; exact ms, by rw [hs]; exact mo, by rw [hs]; exact hstr, by rw [hs]; omega, by rw [hs]; exact hrz⟩
  · rintro h₅ g₅ ⟨m, pcs, items, ts, top, D, W, ma, mr, ms, mo, hstr, hrl, hrz⟩
    refine (gw_next S hA' (le1 hn) (by omega) D htab W hgen).monoQ fun o h' g' q => ?_
    rw [List.drop_length] at q
    obtain ⟨rfl, D, hbg⟩ := q
    rw [List.take_length] at ms mo hstr hrl hrz
    refine ⟨rfl, ?_⟩
    have grow : ∀ {h' : Heap} {m : Str → Option Value} {cs : List Cell}, Lg F gg L m cs h' → Grow F h h' := fun D => ⟨fun b o hb e => D.keep b o (hsub b o (hideAll_get _ e hb))⟩
    have hisz : items.size ≤ 1001 := by
      have : items.toList.length = (srun (T l) its).res.length := hstr.len_eq
      rw [Array.length_toList] at this
      omega
    have hTl : (T l).length ≤ 1000 := by rw [T_len]; exact hlen
    have hok : ∀ ys : List Str, ys.length ≤ 1002 → (∀ z ∈ ys, z.length ≤ (T l).length) → (ys.map (·.length)).sum + ys.length * (Str.ofString "").length ≤ 16777216 := fun ys h1 h2 => by
      have h3 := sum_le 1000 ys fun z hz => Nat.le_trans (h2 z hz) hTl
      have h4 : (Str.ofString "").length = 0 := by decide +kernel
      rw [h4]
      have h5 : ys.length * 1000 ≤ 1002 * 1000 := Nat.mul_le_mul_right _ h1
      omega
    refine x_if <| t_cmp <| n_local D.ns ms <| e_call <| n_blt S D.st boot_len <| c_blt <| a_e <| n_local D.ns ma <| a_end <| str_len (by omega) fun t6 => o_lt <| t_bool ?_
    by_cases hlt : (srun (T l) its).start < (T l).length
    · rw [if_pos (by simpa using hlt)]
      rw [if_pos hlt] at hstrip
      obtain ⟨n1, L1⟩ := D.isL M0
      refine x_expr <| e_append <| n_local D.ns mr ⟨_, _, _, rfl, L1, ?_⟩
      refine e_sub <| n_local D.ns ma <| e_slice <| p_some <| n_local D.ns ms <| p_none ?_
      have D5 := D.anyPush { cls := .type "slice", data := .fields #[.int (srun (T l) its).start ts, .none, .none] }
      refine sb_sslice (.int _ _) .none (Heap.IsSliceOf.new ..) (show _ ≤ 2 ^ 24 by omega) fun t7 => ?_
      obtain ⟨n2, L2⟩ := D5.isL M0
      refine ⟨_, _, (show _ ≤ 2 ^ 24 by omega), L2, (fun _ q => by cases q), x_nil ?_⟩
      replace D := D5.updSeq (fun xs => xs.push (.str (Txt.slice (T l) (some ((srun (T l) its).start : Int)) none) t7)) U0
      refine x_ret <| e_smeth PySem.F.slot_str_join PySem.F.type_str_join <| e_str fun t8 => ⟨_, _, rfl, c_bltF <| a_e <| n_local D.ns mr <| a_end <| str_join (D.isList M0) (by rw [Array.toList_push]; exact strsAre_push hstr _ _) (hok _ (by simp; omega) fun z hz => ?_) fun t9 => hQ0 _ _ _ ⟨grow D, D.ok hbg, t9, by rw [hstrip]⟩⟩
      rcases List.mem_append.mp hz with hz | hz
      · exact hrz z hz
      · rw [List.mem_singleton.mp hz]
        exact Txt.slice_le _ _ _
    · rw [if_neg (by simpa using hlt)]
      rw [if_neg hlt] at hstrip
      refine x_nil <| x_ret <| e_smeth PySem.F.slot_str_join PySem.F.type_str_join <| e_str fun t8 => ⟨_, _, rfl, c_bltF <| a_e <| n_local D.ns mr <| a_end <| str_join (D.isList M0) hstr (hok _ (by omega) hrz) fun t9 => hQ0 _ _ _ ⟨grow D, D.ok hbg, t9, by rw [hstrip]⟩⟩
end
end Mine
end

noncomputable section
open PySem PySem.W PySem.Calls PyProof.Rows
set_option Elab.async false
set_option maxRecDepth 100000
set_option linter.unusedVariables false
set_option maxHeartbeats 2000000
set_option pp.deepTerms false
set_option pp.deepTerms.threshold 6
set_option pp.maxSteps 2000
namespace Mine
def chkS (y : Str) : Bool := chk (esc (stripS y).cps.toList 0 false) 0
section
variable {c : Cx} {F : Fix} {A : Around} {n : Nat} {E : PostV Value} {h : Heap} {g : Gens} {env : Env}
theorem ld_local {x : Str} {m : Str → Option Value} {v : Value} {Q : PostV Value} (hn : h.Ns env.locals m) (hv : m x = some v) (q : Q v h g)
    (hk : env.scope.kind = .function := by rfl) (hl : env.kindOf x = some .local := by rfl) : WP c A (loadName env x) Q E h g := fun _ => wpAny_loadName_local hk hl hn hv ⟨rfl, rfl, q⟩
theorem oi_add {a b r : Int} {t u : Tok} {Q : PostV Value} (hr : a + b = r) (q : ∀ t, Q (.int r t) h g) : WP c A (inplaceOp .Add (.int a t) (.int b u)) Q E h g := fun _ => PySem.P.iadd_int ⟨rfl, rfl, hr ▸ q _⟩
theorem oi_sub {a b r : Int} {t u : Tok} {Q : PostV Value} (hr : a - b = r) (q : ∀ t, Q (.int r t) h g) : WP c A (inplaceOp .Sub (.int a t) (.int b u)) Q E h g := fun _ => PySem.P.isub_int ⟨rfl, rfl, hr ▸ q _⟩

inductive J9 (c : Cx) (F : Fix) (A2 : Around) (gg : Heap) (L γ : Addr) (k : List Nat) (t1 : Tok) (La : Addr) (its : List (Nat × List Nat)) (i : Nat) (h : Heap) (g : Gens) : Prop
  | mk (m : Str → Option Value) (pcs : List Cell) (o : Int) (to : Tok) (D : Lg F gg L m (pcs ++ []) h) (W : GW c F A2 gg L [] γ k t1 La (its.drop i) g pcs) (mo : m (Str.ofString "opens") = some (.int o to)) (hc : chk its 0 = chk (its.drop i) o) : J9 c F A2 gg L γ k t1 La its i h g
theorem check_q (X : Tx F) (O : Ok F h g) (hA : AOk A n) (hn : n ≤ 10) (l : List Nat) (t : Tok) (hlen : l.length ≤ 1000) (hst : (stripS (T l)).length ≤ 1000) :
    WP c A (call (.ref 35) [.str (T l) t]) (fun r h' g' => Grow F h h' ∧ Ok F h' g' ∧ r = .bool (chkS (T l))) E h g := by
  have S := X.S
  refine WP.abs fun Q0 hQ0 => ?_
  refine call_fn (binds := [(Str.ofString "addr", .str (T l) t)]) S O hA (le0 hn) X.f3 rfl (fun _ _ => ?_) ?_ ?_ fun L h₁ D hA' => of0 ?_
  · kernel_rfl
  · kernel_rfl
  · kernel_rfl
  generalize Around.deeper A _ = A2 at hA' ⊢
  refine x_assign <| e_call <| n_global (S.g.keeps D.st) X.f2.nm <| c_fn X.f2 <| a_e <| n_local D.ns rfl <| a_end ⟨D.st, ?_⟩
  refine (strip_q X (D.ok O.bare) hA' (le1 hn) l t hlen).monoQ fun v h' g' qq => ?_
  obtain ⟨G1, O1, t1, e1⟩ := qq
  subst e1
  replace D := D.call G1 O1.tabs
  refine s_local D.ns fun h₂ j1 j2 => ?_
  replace D := D.store j1 j2
  refine x_assign <| e_int fun t2 => s_local j1 fun h₂ j1 j2 => ?_
  replace D := D.store j1 j2
  obtain ⟨k, hk⟩ : ∃ k, k = (stripS (T l)).cps.toList := ⟨_, rfl⟩
  have hkT : stripS (T l) = T k := by rw [hk, T_eq]
  have hkl : k.length ≤ 1000 := by rw [← T_len, ← hkT]; exact hst
  have hres : chkS (T l) = chk (esc k 0 false) 0 := by unfold chkS; rw [hk]
  rw [hkT] at D j1
  obtain ⟨its, hits⟩ : ∃ its, its = esc k 0 false := ⟨_, rfl⟩
  refine x_for <| e_call <| n_global (S.g.keeps D.st) X.f1.nm <| c_fn X.f1 <| a_e <| n_local j1 rfl <| a_end ⟨D.st, ?_⟩
  refine call_gen (A' := A2) S X.f1 D base_off hA' (le1 hn) O1.bare rfl ?_ rfl ?_ fun gg La ga h₄ gn hsub htab hgen D W => ?_
  · intro _ _; kernel_rfl
  · kernel_rfl
  obtain ⟨γ, hγ⟩ : ∃ γ, γ = g'.size := ⟨_, rfl⟩
  rw [← hγ] at hgen W
  rw [← hits] at W hres
  have grow : ∀ {h' : Heap} {m : Str → Option Value} {cs : List Cell}, Lg F gg L m cs h' → Grow F h h' := fun D => ⟨fun b o hb e => D.keep b o (hsub b o (hideAll_get _ e hb))⟩
  refine i_gen (hgen.keeps D.keep) ?_
  refine fl_abs (N := its.length) (J9 c F A2 gg L γ k t1 La its) ?_ ?_ ?_
  · exact ⟨_, _, 0, t2, D, W, rfl, rfl⟩
  · rintro i h₅ g₅ hi Q1 hQ1 hR1 ⟨m, pcs, o, to, D, W, mo, hc⟩
    refine (gw_next S hA' (le1 hn) (by omega) D htab W hgen).monoQ fun o h' g' q => ?_
    rw [List.drop_eq_getElem_cons hi] at q hc
    obtain ⟨ta, pcs', rfl, ⟨tk, tk', ht⟩, D, W⟩ := q
    generalize its[i] = x at ht hc
    refine ⟨_, rfl, lot_gen (hgen.keeps D.keep) (as_pair hA' ⟨_, ht, rfl, _, rfl⟩ fun h₆ kk => ?_)⟩
    replace D := D.more kk
    refine s_local D.ns fun h₇ j1 j2 => ?_
    replace D := D.store j1 j2
    refine s_local j1 fun h₇ j1 j2 => ?_
    replace D := D.store j1 j2
    refine x_if <| t_cmp <| n_local j1 rfl <| e_str fun t3 => str_eq <| t_bool ?_
    rw [q40, cp_eq]
    rw [chk] at hc
    by_cases h40 : x.2 = [40]
    · rw [if_pos (by simp [h40])]
      rw [if_pos h40] at hc
      refine x_aug <| ld_local j1 mo <| e_int fun t5 => oi_add rfl fun t6 => s_local j1 fun h₈ j1 j2 => x_nil <| x_nil ?_
      replace D := D.store j1 j2
      exact hQ1 _ _ ⟨_, pcs', _, t6, D, W, rfl, hc⟩
    rw [if_neg (by simp [h40])]
    rw [if_neg h40] at hc
    refine x_if <| t_cmp <| n_local D.ns rfl <| e_str fun t3 => str_eq <| t_bool ?_
    rw [q41, cp_eq]
    by_cases h41 : x.2 = [41]
    · rw [if_pos (by simp [h41])]
      rw [if_pos h41] at hc
      refine x_aug <| ld_local D.ns mo <| e_int fun t5 => oi_sub rfl fun t6 => s_local D.ns fun h₈ j1 j2 => ?_
      replace D := D.store j1 j2
      refine x_if <| t_cmp <| n_local j1 rfl <| e_int fun t7 => o_lt <| t_bool ?_
      by_cases hneg : o - 1 < 0
      · rw [if_pos (by simpa using hneg)]
        rw [if_pos hneg] at hc
        refine x_ret <| e_bool <| hR1 _ _ _ <| hQ0 _ _ _ ⟨grow D, D.ok W.1, ?_⟩
        rw [hres, hc]
      · rw [if_neg (by simpa using hneg)]
        rw [if_neg hneg] at hc
        exact x_nil <| x_nil <| x_nil <| x_nil <| hQ1 _ _ ⟨_, pcs', _, t6, D, W, rfl, hc⟩
    · rw [if_neg (by simp [h41])]
      rw [if_neg h41] at hc
      refine x_nil <| x_nil <| x_nil <| hQ1 _ _ ⟨_, pcs', o, to, D, W, mo, hc⟩
  · rintro h₅ g₅ ⟨m, pcs, o, to, D, W, mo, hc⟩
    refine (gw_next S hA' (le1 hn) (by omega) D htab W hgen).monoQ fun o' h' g' q => ?_
    rw [List.drop_length] at q hc
    obtain ⟨rfl, D, hbg⟩ := q
    refine ⟨rfl, x_ret <| e_cmp <| n_local D.ns mo <| e_int fun t7 => o_eq <| hQ0 _ _ _ ⟨grow D, D.ok hbg, ?_⟩⟩
    rw [hres, hc, chk]
end
end Mine
end

noncomputable section
open PySem PySem.W PySem.Calls PyProof.Rows
set_option Elab.async false
set_option maxRecDepth 100000
set_option linter.unusedVariables false
set_option maxHeartbeats 2000000
set_option pp.deepTerms false
set_option pp.deepTerms.threshold 6
set_option pp.maxSteps 2000
namespace Mine
/-- a piece of the ring: host, kind, port -/
structure Pc where
  host : List Nat
  kind : Nat
  port : Int
deriving DecidableEq
def PcAt (h : Heap) (v : Value) (x : Pc) : Prop := ∃ a t u w, v = .ref a ∧ IsTup h a #[.str (T x.host) t, .int x.kind u, .int x.port w]
def pcText (op cl : Nat) (x : Pc) : List Nat := (if x.kind = 1 then List.replicate op 41 else List.replicate cl 40) ++ (if x.host = [] then [] else 34 :: x.host ++ [34])
def ltext (op cl : Nat) (ps : List Pc) : List Nat := ps.flatMap (pcText op cl)
/-- a list of pieces -/
def PcsAt (h : Heap) (vs : List Value) (ps : List Pc) : Prop := vs.length = ps.length ∧ ∀ (i : Nat) (x : Pc), ps[i]? = some x → ∃ v, vs[i]? = some v ∧ PcAt h v x
theorem tup_up {h h' : Heap} {a : Addr} {its : Array Value} (x : IsTup h a its) (k : ∀ o, h.get? a = some o → (∃ xs n, o.data = .seq xs n) → h'.get? a = some o) : IsTup h' a its := let ⟨o, e, hc, n, hd⟩ := x; ⟨o, k o e ⟨_, _, hd⟩, hc, n, hd⟩
theorem rep_fold (k : Nat) : ∀ (n : Nat) (acc : Array Nat), ((List.replicate n (#[k] : Array Nat)).foldl (· ++ ·) acc) = acc ++ (List.replicate n k).toArray
  | 0, acc => by simp
  | n + 1, acc => by
    rw [List.replicate_succ, List.foldl_cons, rep_fold k n, List.replicate_succ, Array.append_assoc]
    congr 1
    apply Array.ext'
    simp
theorem mul_T (k n : Nat) : Txt.mul ⟨#[k]⟩ (n : Int) = T (List.replicate n k) := by
  unfold Txt.mul
  split
  · have : n = 0 := by omega
    subst this
    rfl
  · split
    · rename_i h
      have : n = 1 := by
        simp [Str.length] at h
        omega
      subst this
      rfl
    · rw [rep_fold]
      simp
theorem pcText_len {op cl : Nat} {x : Pc} (hop : op ≤ 8) (hcl : cl ≤ 8) (hh : x.host.length ≤ 8) : (pcText op cl x).length ≤ 18 := by
  unfold pcText
  rw [List.length_append]
  have h1 : (if x.kind = 1 then List.replicate op 41 else List.replicate cl 40).length ≤ 8 := by split <;> simpa
  have h2 : (if x.host = [] then [] else 34 :: x.host ++ [34]).length ≤ 10 := by
    split
    · simp
    · simp; omega
  omega
theorem ltext_len {op cl : Nat} (hop : op ≤ 8) (hcl : cl ≤ 8) : ∀ ps : List Pc, (∀ x ∈ ps, x.host.length ≤ 8) → (ltext op cl ps).length ≤ ps.length * 18
  | [], _ => by simp [ltext]
  | x :: ps, h => by
    have h1 := pcText_len hop hcl (h x (.head _))
    have h2 := ltext_len hop hcl ps fun y hy => h y (.tail _ hy)
    unfold ltext at h2 ⊢
    rw [List.flatMap_cons, List.length_append, List.length_cons]
    omega
theorem ltext_succ (op cl : Nat) (ps : List Pc) {i : Nat} {x : Pc} (hx : ps[i]? = some x) : ltext op cl (ps.take (i + 1)) = ltext op cl (ps.take i) ++ pcText op cl x := by
  unfold ltext
  rw [List.take_add_one, hx, List.flatMap_append]
  simp
section
variable {c : Cx} {F : Fix} {A : Around} {n : Nat} {E : PostV Value} {h : Heap} {g : Gens} {env : Env}
theorem str_mul {k : Nat} {m : Nat} {t u : Tok} {Q : PostV Value} (hm : m ≤ 1000) (q : ∀ t, Q (.str (T (List.replicate m k)) t) h g) : WP c A (binaryOp .Mult (.str ⟨#[k]⟩ t) (.int m u)) Q E h g := fun _ =>
  PySem.SB.mul (mulOk_of 1 1000 (Nat.le_refl _) (by omega) (by omega) (by omega) (by omega)) fun _ _ => ⟨rfl, rfl, by rw [mul_T]; exact q _⟩
inductive J1 (F : Fix) (gg : Heap) (L it l : Addr) (op cl : Nat) (t u : Tok) (ps : List Pc) (i : Nat) (h₃ : Heap) (g₃ : Gens) : Prop
  | mk (m : Str → Option Value) (tt : Tok) (D : Lg F gg L m [(it, LitA l i)] h₃) (hb : AllBare g₃) (mo : m (Str.ofString "opening") = some (.int op t)) (mc : m (Str.ofString "closing") = some (.int cl u)) (mt : m (Str.ofString "text") = some (.str (T (ltext op cl (ps.take i))) tt)) : J1 F gg L it l op cl t u ps i h₃ g₃
theorem law_text_q (X : Tx F) (hf : FnAt F.H F.mg 20 142 (.ref 141)) (O : Ok F h g) (hA : AOk A n) (hn : n ≤ 20) {l : Addr} {vs : Array Value} (ps : List Pc) (op cl : Nat) (t u : Tok) (hl : h.IsList l vs) (hp : PcsAt h vs.toList ps) (hop : op ≤ 8) (hcl : cl ≤ 8) (hlen : ps.length ≤ 8) (hh : ∀ x ∈ ps, x.host.length ≤ 8) :
    WP c A (call (.ref 142) [.ref l, .int op t, .int cl u]) (fun r h' g' => Grow F h h' ∧ Ok F h' g' ∧ ∃ t, r = .str (T (ltext op cl ps)) t) E h g := by
  have S := X.S
  refine WP.abs fun Q0 hQ0 => ?_
  refine call_fn (binds := [(Str.ofString "pieces", .ref l), (Str.ofString "opening", .int op t), (Str.ofString "closing", .int cl u)]) S O hA (le0 hn) hf rfl (fun _ _ => ?_) ?_ ?_ fun L h₁ D hA' => of0 ?_
  · kernel_rfl
  · kernel_rfl
  · kernel_rfl
  have gl := base_list (as := []) O hl (by simp)
  rw [← baseOf_eq] at gl
  have gp : ∀ {v x}, PcAt h v x → PcAt (baseOf F h) v x := fun ⟨a, t, u, w, e, ht⟩ => ⟨a, t, u, w, e, tup_up ht fun o h1 ⟨xs, n, h2⟩ => by
    rw [baseOf_eq]
    exact base_get O h1 (fun vs q => by rw [h2] at q; cases q) (by simp)⟩
  refine x_assign <| e_str fun t1 => s_local D.ns fun h₂ j1 j2 => ?_
  replace D := D.store j1 j2
  refine x_for <| n_local j1 rfl <| i_list (l_keeps gl D.keep) ?_
  have D := D.add (P := LitA l 0) (h' := h₂.push { cls := .type "list_iterator", data := .fields #[.ref l, .int 0 0] }) (fun _ _ e => Heap.get?_push_of_some _ e) Lg.get_size ⟨_, Heap.get?_push_size _ rfl, rfl, rfl⟩ fun _ p => p.tame
  generalize h₂.objs.size = it at D
  have hvl : vs.size = ps.length := by have := hp.1; simpa using this
  refine fl_abs (N := ps.length) (J1 F (baseOf F h) L it l op cl t u ps) ?_ ?_ ?_
  · exact ⟨_, t1, D, O.bare, rfl, rfl, rfl⟩
  · rintro i h₃ g₃ hi Q1 hQ1 _ ⟨m, tt, D, hb, mo, mc, mt⟩
    obtain ⟨x, hx⟩ : ∃ x, ps[i]? = some x := ⟨_, List.getElem?_eq_getElem hi⟩
    have hxm : x ∈ ps := List.mem_of_getElem? hx
    obtain ⟨v, hv, a, th, tk, tp, rfl, ha⟩ := hp.2 i x hx
    have hv' : vs[i]? = some (.ref a) := by rw [← Array.getElem?_toList]; exact hv
    have ga := (gp ⟨a, th, tk, tp, rfl, ha⟩ : PcAt (baseOf F h) (.ref a) x)
    obtain ⟨a', th, tk, tp, e, ga⟩ := ga
    cases e
    refine next_list (D.get M0) (l_keeps gl D.keep) hv' fun h₄ i1 i2 => ⟨_, rfl, ?_⟩
    replace D := D.upd U0 i2 i1 (fun _ p => LitA.tame p)
    refine lot_list (D.get M0) (as_triple hA' (ga.keeps D.keep) fun h₅ kk => ?_)
    replace D := D.more kk
    refine s_local D.ns fun h₆ j1 j2 => ?_
    replace D := D.store j1 j2
    refine s_local j1 fun h₆ j1 j2 => ?_
    replace D := D.store j1 j2
    refine s_local j1 fun h₆ j1 j2 => ?_
    replace D := D.store j1 j2
    have hlt : (ltext op cl (ps.take i)).length ≤ 144 := by
      have := ltext_len hop hcl (ps.take i) fun y hy => hh y (List.mem_of_mem_take hy)
      rw [List.length_take] at this
      omega
    have hhx := hh x hxm
    have hsucc := ltext_succ op cl ps hx
    obtain ⟨br, hbr⟩ : ∃ br, br = (if x.kind = 1 then List.replicate op 41 else List.replicate cl 40) := ⟨_, rfl⟩
    have hbl : br.length ≤ 8 := by rw [hbr]; split <;> simpa
    refine x_assign <| e_bin <| n_local j1 mt ?_
    refine WP.monoQ (Q := fun v h' g' => h' = h₆ ∧ g' = g₃ ∧ ∃ t, v = .str (T br) t) ?_ (fun v h' g' ⟨e1, e2, t5, e3⟩ => ?_)
    · refine e_ifexp <| t_cmp <| n_local j1 rfl <| e_int fun t2 => o_eq <| t_bool ?_
      by_cases hk : x.kind = 1
      · rw [if_pos (by simp [hk])]
        rw [if_pos hk] at hbr
        refine e_bin <| e_str fun t3 => n_local j1 mo ?_
        rw [q41]
        exact str_mul (by omega) fun t4 => ⟨rfl, rfl, t4, by rw [hbr]⟩
      · rw [if_neg (by simp; omega)]
        rw [if_neg hk] at hbr
        refine e_bin <| e_str fun t3 => n_local j1 mc ?_
        rw [q40]
        exact str_mul (by omega) fun t4 => ⟨rfl, rfl, t4, by rw [hbr]⟩
    subst e1 e2 e3
    refine str_add (by rw [T_len, T_len]; show _ ≤ 2 ^ 24; omega) fun t6 => ?_
    rw [T_append]
    refine s_local j1 fun h₇ j1 j2 => ?_
    replace D := D.store j1 j2
    refine x_if <| t_cmp <| n_local j1 rfl <| e_str fun t2 => str_ne <| t_bool ?_
    by_cases hho : x.host = []
    · rw [if_neg (by rw [hho]; decide +kernel)]
      refine x_nil <| x_nil <| hQ1 _ _ ⟨_, t6, D, hb, mo, mc, ?_⟩
      rw [hsucc, pcText, if_pos hho, ← hbr, List.append_nil]
      rfl
    · have hne : (T x.host != Str.ofString "") = true := by
        cases hbq : (T x.host != Str.ofString "") with
        | true => rfl
        | false =>
          have e1 : T x.host = Str.ofString "" := by simpa using hbq
          have e2 : (T x.host).cps = #[] := by rw [e1]; decide +kernel
          simp at e2
          exact absurd e2 hho
      rw [hne, if_pos rfl]
      refine x_assign <| e_bin <| e_bin <| e_bin <| n_local j1 rfl <| e_str fun t7 => str_add (by rw [T_len, List.length_append, q34]; show _ + 1 ≤ 2 ^ 24; omega) fun t8 => n_local j1 rfl ?_
      rw [q34]
      refine str_add (by rw [show (T (ltext op cl (ps.take i) ++ br) ++ (⟨#[34]⟩ : Str)) = T ((ltext op cl (ps.take i) ++ br) ++ [34]) from T_append _ [34], T_len, T_len, List.length_append, List.length_append]; show _ + 1 + _ ≤ 2 ^ 24; omega) fun t9 => e_str fun t10 => ?_
      rw [show (T (ltext op cl (ps.take i) ++ br) ++ (⟨#[34]⟩ : Str)) = T ((ltext op cl (ps.take i) ++ br) ++ [34]) from T_append _ [34], T_append]
      refine str_add (by rw [T_len, List.length_append, List.length_append, List.length_append]; show _ + 1 + _ + 1 ≤ 2 ^ 24; omega) fun t11 => s_local j1 fun h₈ j1 j2 => x_nil <| x_nil <| hQ1 _ _ ⟨_, t11, D.store j1 j2, hb, mo, mc, ?_⟩
      rw [hsucc, pcText, if_neg hho, ← hbr]
      refine congrArg some ?_
      show Value.str (T _ ++ T [34]) t11 = _
      rw [T_append]
      simp
  · rintro h₃ g₃ ⟨m, tt, D, hb, mo, mc, mt⟩
    refine end_list hA' (D.get M0) (l_keeps gl D.keep) (by simp [hvl]) fun h₄ i1 => ⟨rfl, ?_⟩
    replace D := D.lose R0 i1
    rw [List.take_length] at mt
    exact x_ret (n_local D.ns mt (hQ0 _ _ _ ⟨D.grow, D.ok hb, tt, rfl⟩))
end
end Mine
end

noncomputable section
open PySem PySem.W PySem.Calls PyProof.Rows
set_option Elab.async false
set_option maxRecDepth 100000
set_option linter.unusedVariables false
set_option maxHeartbeats 2000000
set_option pp.deepTerms false
set_option pp.deepTerms.threshold 6
set_option pp.maxSteps 2000
namespace Mine
section
variable {c : Cx} {F : Fix} {A : Around} {n : Nat} {E : PostV Value} {h : Heap} {g : Gens} {env : Env}
/-- a text with its token; nothing else is changed -/
def TE (c : Cx) (A : Around) (t : Sem Value) (y : Str) (P : Nat → Nat → Nat → Prop) (h : Heap) (g : Gens) : Prop :=
  ∀ tk, c.b + 1 ≤ tk → wpAny c.M A t (fun v s' => ∃ u tk', v = .str y u ∧ s' = ⟨h, g, c.d, tk', c.o⟩ ∧ tk ≤ tk' ∧ P tk u tk') (fun _ _ => False) ⟨h, g, c.d, tk, c.o⟩
abbrev Frs (tk u tk' : Nat) : Prop := tk ≤ u ∧ u < tk'
theorem te_name {x : Str} {pos : Pos} {m : Str → Option Value} {y : Str} {u : Tok} (hn : h.Ns env.locals m) (hv : m x = some (.str y u)) 
    (hk : env.scope.kind = .function := by rfl) (hl : env.kindOf x = some .local := by rfl) (hd : (x == ("__debug__" : Str)) = false := by rfl) : TE c A (eval (.Name x pos) env) y (fun _ v _ => v = u) h g :=
  fun tk _ => wpAny_Name (wpAny_loadName_local hk hl hn hv ⟨u, tk, rfl, rfl, Nat.le_refl _, rfl⟩) hd
theorem te_str {x : Str} {k pos} : TE c A (eval (.Constant (.str x) k pos) env) x Frs h g := fun tk _ => Calls.Constant_str ⟨tk, tk + 1, rfl, rfl, Nat.le_succ _, Nat.le_refl _, Nat.lt_succ_self _⟩
theorem te_add {l r : Expr} {pos : Pos} {x y : Str} {P1 P2 : Nat → Nat → Nat → Prop} (h1 : TE c A (eval l env) x P1 h g) (h2 : TE c A (eval r env) y P2 h g) (hx : (x.length == 0) = false) (hy : (y.length == 0) = false) (hsz : (x ++ y).length ≤ sizeLine) :
    TE c A (eval (.BinOp l .Add r pos) env) (x ++ y) Frs h g := by
  intro tk htk
  refine wpAny_BinOp (wpAny_mono (h1 tk htk) (fun v s' ⟨u, tk', e1, e2, e3, _⟩ => ?_) fun _ _ f => f.elim)
  subst e1 e2
  refine wpAny_mono (h2 tk' (Nat.le_trans htk e3)) (fun v s' ⟨u', tk2, e1, e2, e4, _⟩ => ?_) fun _ _ f => f.elim
  subst e1 e2
  refine PySem.P.add_str ?_
  rw [hx, hy]
  exact ⟨hsz, tk2, tk2 + 1, rfl, rfl, by omega, by omega, by omega⟩
inductive RepA (c : Cx) (A : Around) (a b : Expr) (env : Env) (Q : PostV Value) (ov : Value) (h₁ : Heap) (g₁ : Gens) : Prop
  | mk (y : Str) (t : Tok) (z1 z2 : Str) (P1 P2 : Nat → Nat → Nat → Prop) (e0 : ov = .str y t) (ha : TE c A (eval a env) z1 P1 h₁ g₁) (hb : TE c A (eval b env) z2 P2 h₁ g₁) (hp1 : ∀ t u t', P1 t u t' → t ≤ u ∧ u < t')
    (hp2 : (∀ t v t', P2 t v t' → t ≤ v) ∨ (∀ t v t', P2 t v t' → 1 ≤ v ∧ v ≤ c.b)) (hne : (z1 == z2) = false) (hsz : y.length + (y.length + 1) * z2.length ≤ 16777216) (q : ∀ t, Q (.str (Txt.replace y z1 z2) t) h₁ g₁) : RepA c A a b env Q ov h₁ g₁
theorem e_replace {o a b : Expr} {apos pos : Pos} {Q : PostV Value}
    (x : WP c A (eval o env) (fun ov h₁ g₁ => RepA c A a b env Q ov h₁ g₁) E h g)
    (hbase : attributeBase o (Str.ofString "replace") env (eval o env) = eval o env := by rfl)
    (hfew : ((backTo pos (starEach [a, b] env)).all (fun x => !x.1) && (backToKw pos (keywordEach [] env)).all (fun x => x.1.isSome)
      && decide ([a, b].length + ([] : List Keyword).length + (if ([] : List Keyword).isEmpty then 0 else 1) < 30)) = true := by rfl)
    (hline : (apos.endLine == pos.line) = true := by rfl) (hst : backTo pos (starEach [a, b] env) = [(false, eval a env), (false, eval b env)] := by rfl) :
    WP c A (eval (.Call (.Attribute o (Str.ofString "replace") apos) [a, b] [] pos) env) Q E h g := by
  intro tk
  refine wpAny_Call_method hbase hfew hline PySem.F.plainAttrs_str PySem.F.slot_str_replace PySem.F.type_str_replace (x.step fun ov s' e1 e2 qq => ?_)
  obtain ⟨y, t, z1, z2, P1, P2, e0, ha, hb, hp1, hp2, hne, hsz, q⟩ := qq
  subst e0
  refine ⟨typeIs_str s' y t, fun a e => by (cases e), ?_⟩
  obtain ⟨h₁, g₁, d₁, tk₁, o₁⟩ := s'
  obtain ⟨e1, e3⟩ := e1
  dsimp only at e1 e2 e3 ha hb q ⊢
  subst e1 e2
  rw [hst]
  refine Calls.callWith_builtin rfl (Calls.evalArgs_plain (Calls.spliced_cons ?_))
  refine wpAny_mono (ha tk₁ e3) (fun v s' qq => ?_) fun _ _ f => f.elim
  obtain ⟨u, tk2, e4, e5, e6, e7⟩ := qq
  subst e4 e5
  refine Calls.spliced_cons (wpAny_mono (hb tk2 (Nat.le_trans e3 e6)) (fun v s' qq => ?_) fun _ _ f => f.elim)
  obtain ⟨u', tk3, e8, e9, e10, e11⟩ := qq
  subst e8 e9
  refine Calls.spliced_nil ?_
  have k1 := hp1 _ _ _ e7
  have k2 : (u' : Nat) ≠ 0 ∧ (u : Nat) ≠ u' := by
    rcases hp2 with k2 | k2
    · have k3 : tk2 ≤ (u' : Nat) := k2 _ _ _ e11
      exact ⟨Nat.pos_iff_ne_zero.mp (Nat.lt_of_lt_of_le (Nat.lt_of_le_of_lt (Nat.zero_le _) k1.2) k3), Nat.ne_of_lt (Nat.lt_of_lt_of_le k1.2 k3)⟩
    · have k3 : 1 ≤ (u' : Nat) ∧ (u' : Nat) ≤ c.b := k2 _ _ _ e11
      exact ⟨Nat.pos_iff_ne_zero.mp k3.1, Nat.ne_of_gt (Nat.lt_of_lt_of_le (Nat.lt_of_le_of_lt k3.2 (Nat.lt_succ_self _)) (Nat.le_trans e3 k1.1))⟩
  exact SC.replace (Nat.pos_iff_ne_zero.mp (Nat.lt_of_lt_of_le (Nat.succ_pos _) (Nat.le_trans e3 k1.1))) k2.1 k2.2 hne hsz fun t' k => ⟨rfl, rfl, q t'⟩
end
end Mine
end

noncomputable section
open PySem PySem.W PySem.Calls PyProof.Rows
set_option Elab.async false
set_option maxRecDepth 100000
set_option linter.unusedVariables false
set_option maxHeartbeats 2000000
set_option pp.deepTerms false
set_option pp.deepTerms.threshold 6
set_option pp.maxSteps 2000
namespace Mine
def spoilS (r mk : Str) (way : Nat) : Str × Str :=
  if way = 0 then (Str.ofString "another code", Str.ofString "227" ++ Txt.slice r (some 3) none)
  else if way = 1 then (Str.ofString "no number", Txt.replace r (mk ++ Str.ofString ")") ((Str.ofString "x" ++ mk) ++ Str.ofString ")"))
  else (Str.ofString "another shape", if way = 2 then Txt.replace r (Str.ofString "(") (Str.ofString "<") else if way = 3 then Txt.replace r (Str.ofString ")") (Str.ofString ">") else if way = 4 then Txt.replace r (mk ++ Str.ofString ")") (Str.ofString ")") else Txt.replace r (Str.ofString "h") mk)
theorem len41 (m : Nat) : (T [m] ++ Str.ofString ")").length = 2 := by rw [q41, show (⟨#[41]⟩ : Str) = T [41] from rfl, T_append, T_len]; rfl
theorem len_x (m : Nat) : ((Str.ofString "x" ++ T [m]) ++ Str.ofString ")").length = 3 := by
  rw [q41, show (⟨#[41]⟩ : Str) = T [41] from rfl, show Str.ofString "x" = T [120] by decide +kernel, T_append, T_append, T_len]; rfl
theorem ne_len {x y : Str} (h : x.length ≠ y.length) : (x == y) = false := by
  cases hb : (x == y) with
  | false => rfl
  | true => exact absurd (congrArg Str.length (eq_of_beq hb)) h
theorem lt4 {i : Nat} (h : i < 4) : i = 0 ∨ i = 1 ∨ i = 2 ∨ i = 3 := (by decide : ∀ i, i < 4 → i = 0 ∨ i = 1 ∨ i = 2 ∨ i = 3) i h
theorem way2 {way : Nat} (h : way ≤ 5) (h0 : ¬ way = 0) (h1 : ¬ way = 1) : way = 2 ∨ way = 3 ∨ way = 4 ∨ way = 5 := (by decide : ∀ way, way < 6 → ¬ way = 0 → ¬ way = 1 → way = 2 ∨ way = 3 ∨ way = 4 ∨ way = 5) way (Nat.lt_succ_of_le h) h0 h1
section
variable {c : Cx} {F : Fix} {A : Around} {n : Nat} {E : PostV Value} {h : Heap} {g : Gens} {env : Env}
theorem law_spoiled_q (X : Tx F) (hf : FnAt F.H F.mg 19 135 (.ref 134)) (O : Ok F h g) (hA : AOk A n) (hn : n ≤ 20) (r : Str) (m way : Nat) (tr tm tw : Tok) (hr : r.length ≤ 100) (hm : m ≠ 104) (hw : way ≤ 5) (ht : 1 ≤ tm ∧ tm ≤ c.b) :
    WP c A (call (.ref 135) [.str r tr, .str (T [m]) tm, .int way tw]) (fun v h' g' => Grow F h h' ∧ Ok F h' g' ∧ ∃ a t u, v = .ref a ∧ h.get? a = none ∧ h'.get? a = some { cls := .type "tuple", data := .seq #[.str (spoilS r (T [m]) way).1 t, .str (spoilS r (T [m]) way).2 u] }) E h g := by
  have S := X.S
  refine WP.abs fun Q0 hQ0 => ?_
  refine call_fn (binds := [(Str.ofString "reply", .str r tr), (Str.ofString "mark", .str (T [m]) tm), (Str.ofString "way", .int way tw)]) S O hA (le0 hn) hf rfl (fun _ _ => ?_) ?_ ?_ fun L h₁ D hA' => of0 ?_
  · kernel_rfl
  · kernel_rfl
  · kernel_rfl
  generalize Around.deeper A _ = A2 at hA' ⊢
  have l1 : ∀ k : Nat, ((⟨#[k]⟩ : Str).length == 0) = false := fun _ => rfl
  have lm : ((T [m]).length == 0) = false := rfl
  have l41 : ((Str.ofString ")").length == 0) = false := by rw [q41]; rfl
  have q120 : Str.ofString "x" = ⟨#[120]⟩ := by decide +kernel
  have lx : ((Str.ofString "x").length == 0) = false := by rw [q120]; rfl
  have lxm : ((Str.ofString "x" ++ T [m]).length == 0) = false := by rw [q120, show (⟨#[120]⟩ : Str) = T [120] from rfl, T_append]; rfl
  have sz2 : (T [m] ++ Str.ofString ")").length ≤ sizeLine := by rw [len41]; show 2 ≤ 2 ^ 24; decide
  have sz3 : ((Str.ofString "x" ++ T [m]) ++ Str.ofString ")").length ≤ sizeLine := by rw [len_x]; show 3 ≤ 2 ^ 24; decide
  have sz4 : (Str.ofString "x" ++ T [m]).length ≤ sizeLine := by rw [q120, show (⟨#[120]⟩ : Str) = T [120] from rfl, T_append, T_len]; show 2 ≤ 2 ^ 24; decide
  refine x_if <| t_cmp <| n_local D.ns rfl <| e_int fun t1 => o_eq <| t_bool ?_
  by_cases h0 : way = 0
  · rw [if_pos (by simp [h0])]
    refine x_ret <| e_tuple <| a_e <| e_str fun t2 => a_e <| e_bin <| e_str fun t3 => e_sub <| n_local D.ns rfl <| e_slice <| p_some <| e_int fun t4 => p_none ?_
    have D5 := D.anyPush { cls := .type "slice", data := .fields #[.int 3 t4, .none, .none] }
    refine sb_sslice (.int _ _) .none (Heap.IsSliceOf.new ..) (show _ ≤ 2 ^ 24 by omega) fun t7 => str_add ?_ fun t8 => a_end ⟨(show 2 ≤ sizeLine by decide), ?_⟩
    · have h1 := Txt.slice_le r (some 3) none
      have h2 : (Str.ofString "227").length = 3 := by decide +kernel
      show _ + (Txt.slice r (some 3) none).length ≤ 2 ^ 24
      omega
    have D6 := D5.push { cls := .type "tuple", data := .seq #[.str (Str.ofString "another code") t2, .str (Str.ofString "227" ++ Txt.slice r (some 3) none) t8] }
    exact hQ0 _ _ _ ⟨D6.grow, D6.ok O.bare, _, t2, t8, rfl, D6.was M0, by rw [spoilS, if_pos h0]; exact D6.getE M0⟩
  rw [if_neg (by simp [h0])]
  refine x_nil <| x_if <| t_cmp <| n_local D.ns rfl <| e_int fun t1 => o_eq <| t_bool ?_
  by_cases h1 : way = 1
  · rw [if_pos (by simp [h1])]
    refine x_ret <| e_tuple <| a_e <| e_str fun t2 => a_e <| e_replace <| n_local D.ns rfl ⟨_, _, _, _, _, _, rfl, te_add (te_name D.ns rfl) te_str lm l41 sz2, te_add (te_add te_str (te_name D.ns rfl) lx lm sz4) te_str lxm l41 sz3, fun _ _ _ x => x, .inl fun _ _ _ x => x.1, ?_, ?_, fun t8 => a_end ⟨(show 2 ≤ sizeLine by decide), ?_⟩⟩
    · exact ne_len (by rw [len41, len_x]; decide)
    · rw [len_x]; omega
    have D6 := D.push { cls := .type "tuple", data := .seq #[.str (Str.ofString "no number") t2, .str (Txt.replace r (T [m] ++ Str.ofString ")") ((Str.ofString "x" ++ T [m]) ++ Str.ofString ")")) t8] }
    exact hQ0 _ _ _ ⟨D6.grow, D6.ok O.bare, _, t2, t8, rfl, D6.was M0, by rw [spoilS, if_neg h0, if_pos h1]; exact D6.getE M0⟩
  rw [if_neg (by simp; omega)]
  refine x_nil <| x_assign ?_
  refine e_list ?_
  refine a_e <| e_replace <| n_local D.ns rfl ⟨_, _, _, _, _, _, rfl, te_str, te_str, fun _ _ _ x => x, .inl fun _ _ _ x => x.1, by decide +kernel, ?_, fun t8 => ?_⟩
  · have h2 : (Str.ofString "<").length = 1 := by decide +kernel
    rw [h2]; omega
  refine a_e <| e_replace <| n_local D.ns rfl ⟨_, _, _, _, _, _, rfl, te_str, te_str, fun _ _ _ x => x, .inl fun _ _ _ x => x.1, by decide +kernel, ?_, fun t9 => ?_⟩
  · have h2 : (Str.ofString ">").length = 1 := by decide +kernel
    rw [h2]; omega
  refine a_e <| e_replace <| n_local D.ns rfl ⟨_, _, _, _, _, _, rfl, te_add (te_name D.ns rfl) te_str lm l41 sz2, te_str, fun _ _ _ x => x, .inl fun _ _ _ x => x.1, ?_, ?_, fun t10 => ?_⟩
  · exact ne_len (by rw [len41, q41]; decide)
  · have h2 : (Str.ofString ")").length = 1 := by decide +kernel
    rw [h2]; omega
  refine a_e <| e_replace <| n_local D.ns rfl ⟨_, _, _, _, _, _, rfl, te_str, te_name D.ns rfl, fun _ _ _ x => x, .inr fun _ v _ x => by rw [x]; exact ht, ?_, ?_, fun t11 => a_end ⟨(show 4 ≤ sizeLine by decide), ?_⟩⟩
  · rw [show Str.ofString "h" = T [104] by decide +kernel]
    have := cp_eq [104] m
    rw [show (⟨#[m]⟩ : Str) = T [m] from rfl] at this
    rw [this]
    simp
    omega
  · show _ + _ * 1 ≤ _; omega
  replace D := D.newList #[.str (Txt.replace r (Str.ofString "(") (Str.ofString "<")) t8, .str (Txt.replace r (Str.ofString ")") (Str.ofString ">")) t9, .str (Txt.replace r (T [m] ++ Str.ofString ")") (Str.ofString ")")) t10, .str (Txt.replace r (Str.ofString "h") (T [m])) t11]
  refine s_local D.ns fun h₂ j1 j2 => ?_
  replace D := D.store j1 j2
  refine x_ret <| e_tuple <| a_e <| e_str fun t12 => a_e <| e_sub <| n_local j1 rfl <| e_bin <| n_local j1 rfl <| e_int fun t13 => o_sub' (r := ((way - 2 : Nat) : Int)) (by omega) fun t14 => ?_
  obtain ⟨z, tz, hz1, hz2⟩ : ∃ z tz, z = (spoilS r (T [m]) way).2 ∧ (#[.str (Txt.replace r (Str.ofString "(") (Str.ofString "<")) t8, .str (Txt.replace r (Str.ofString ")") (Str.ofString ">")) t9, .str (Txt.replace r (T [m] ++ Str.ofString ")") (Str.ofString ")")) t10, .str (Txt.replace r (Str.ofString "h") (T [m])) t11] : Array Value)[((way - 2 : Nat) : Int).toNat]? = some (.str z tz) := by
    have hc := way2 hw h0 h1
    rcases hc with rfl | rfl | rfl | rfl
    · exact ⟨_, t8, rfl, rfl⟩
    · exact ⟨_, t9, rfl, rfl⟩
    · exact ⟨_, t10, rfl, rfl⟩
    · exact ⟨_, t11, rfl, rfl⟩
  have h1' : (spoilS r (T [m]) way).1 = Str.ofString "another shape" := by rw [spoilS, if_neg h0, if_neg h1]
  refine sb_list (D.isList M0) (by omega) (by omega) hz2 <| a_end ⟨(show 2 ≤ sizeLine by decide), ?_⟩
  have D6 := D.push { cls := .type "tuple", data := .seq #[.str (Str.ofString "another shape") t12, .str z tz] }
  exact hQ0 _ _ _ ⟨D6.grow, D6.ok O.bare, _, t12, tz, rfl, D6.was M0, by rw [h1', ← hz1]; exact D6.getE M0⟩
end
end Mine
end

noncomputable section
open PySem PySem.W PySem.Calls PyProof.Rows
set_option Elab.async false
set_option maxRecDepth 100000
set_option linter.unusedVariables false
set_option maxHeartbeats 2000000
set_option pp.deepTerms false
set_option pp.deepTerms.threshold 6
set_option pp.maxSteps 2000
namespace Mine
/- the same logic, for contexts with the claim's caller below -/
def hasC (l : List Code) : Prop := l.any Code.isCaller = true
theorem hasC_cons {c : Code} {l : List Code} (h : hasC l) : hasC (c :: l) := by unfold hasC at *; rw [List.any_cons, h, Bool.or_true]
def wpC {α : Type} (M : Model) (A : Around) (t : Sem α) (Q : α → Shared → Prop) (E : Value → Shared → Prop) (s : Shared) : Prop :=
  ∀ Γ p, Γ.In A → hasC (Γ.code :: Γ.below.map (·.1)) → Sem.wp M Γ t (fun a _ s' => Q a s') (fun e _ s' => E e s') p s
def codeC (M : Model) (A : Around) (c : Code) (R : Result → Shared → Prop) (s : Shared) : Prop :=
  ∀ Γ p, Γ.code = c → Γ.Below A → hasC (Γ.below.map (·.1)) → wpCode M Γ R p s
section
variable {α β : Type} {M : Model} {A : Around} {E : Value → Shared → Prop} {s : Shared}
theorem wpC_of {t : Sem α} {Q : α → Shared → Prop} (h : wpAny M A t Q E s) : wpC M A t Q E s := fun Γ p hΓ _ => h Γ p hΓ
theorem codeC_of {c : Code} {R : Result → Shared → Prop} (h : codeAny M A c R s) : codeC M A c R s := fun Γ p hc hΓ _ => h Γ p hc hΓ
theorem wpC_mono {t : Sem α} {Q Q' : α → Shared → Prop} {E' : Value → Shared → Prop} (h : wpC M A t Q E s) (hQ : ∀ a s, Q a s → Q' a s) (hE : ∀ e s, E e s → E' e s) : wpC M A t Q' E' s :=
  fun Γ p hΓ hC => Sem.wp_mono M Γ t (fun a _ s => hQ a s) (fun e _ s => hE e s) p s (h Γ p hΓ hC)
theorem wpC_pure {a : α} {Q : α → Shared → Prop} (h : Q a s) : wpC M A (pure a) Q E s := wpC_of (wpAny_pure h)
theorem wpC_bind {m : Sem α} {f : α → Sem β} {Q : β → Shared → Prop} (h : wpC M A m (fun a s' => wpC M A (f a) Q E s') E s) : wpC M A (m >>= f) Q E s := fun Γ p hΓ hC => by
  rw [Sem.wp_bind']
  exact Sem.wp_mono M Γ m (fun a p' s' h' => h' Γ p' hΓ hC) (fun _ _ _ h' => h') p s (h Γ p hΓ hC)
theorem wpC_onRaise {m : Sem α} {k : Value → Sem Unit} {Q : α → Shared → Prop}
    (h : wpC M A m Q (fun e s' => wpC M A (k e) (fun _ s'' => E e s'') E s') s) : wpC M A (m.onRaise k) Q E s := fun Γ p hΓ hC => by
  rw [Sem.wp_onRaise]
  exact Sem.wp_mono M Γ m (fun _ _ _ h' => h') (fun e p' s' h' => h' Γ p' hΓ hC) p s (h Γ p hΓ hC)
theorem wpC_holding {vs : List Value} {m : Sem α} {Q : α → Shared → Prop} (h : wpC M A m Q E s) : wpC M A (holding vs m) Q E s := fun Γ p hΓ hC => by rw [Sem.wp_holding]; exact h Γ p hΓ hC
theorem wpC_standAt {p : Pos} {Q : Unit → Shared → Prop} (h : Q () s) : wpC M A (standAt p) Q E s := wpC_of (wpAny_standAt h)
theorem wpC_point {Q : Unit → Shared → Prop} (h : Q () s) : wpC M A point Q E s := wpC_of (wpAny_point h)
theorem wpC_attempt {m : Sem α} {Q : Except Value α → Shared → Prop} (h : wpC M A m (fun a => Q (.ok a)) (fun e => Q (.error e)) s) : wpC M A m.attempt Q E s := fun Γ p hΓ hC => by rw [Sem.wp_attempt]; exact h Γ p hΓ hC
theorem wpC_run {c : Code} {h : Option Value} {Q : Flow → Shared → Prop} (hc : codeC M (A.mark h) c (fun r s' => match r with | .ok f => Q f s' | .error e => E e s') s) (hnb : h ≠ some byPass := by intro x; cases x) :
    wpC M A (run c h) Q E s := fun Γ p hΓ hC => by rw [Sem.wp_run]; exact hc _ p rfl (hΓ.enter c h p hnb) (by exact hC)
theorem wpC_runValue {c : Code} {Q : Value → Shared → Prop} (hc : codeC M A c (fun r s' => match r with | .ok (.ret v) => Q v s' | .ok _ => False | .error e => E e s') s) :
    wpC M A (runValue c) Q E s := fun Γ p hΓ hC => by rw [Sem.wp_runValue]; exact hc _ p rfl (hΓ.enter c none p (by intro x; cases x)) (by exact hC)
theorem wpC_call {f : Value} {pos : List Value} {kw : List (Str × Value)} {Q : Value → Shared → Prop}
    (hc : codeC M A (.call f ⟨pos, kw⟩) (fun r s' => match r with | .ok (.ret v) => Q v s' | .ok _ => False | .error e => E e s') s) : wpC M A (call f pos kw) Q E s := wpC_runValue hc
theorem codeC_mono {c : Code} {R R' : Result → Shared → Prop} (h : codeC M A c R s) (hR : ∀ r s, R r s → R' r s) : codeC M A c R' s := fun Γ p hc hΓ hC => wpCode_mono hR (h Γ p hc hΓ hC)
theorem codeC_of_tree {c : Code} {R : Result → Shared → Prop}
    (h : wpC M (A.under c) (M.den c) (fun fin s' => match fin with | .done f => R (.ok f) s' | .again c' => c'.quiet = true ∧ codeC M A c' R s') (fun e s' => R (.error e) s') s) : codeC M A c R s := fun Γ p hc hΓ hC => by
  rw [wpCode_iff_wp, hc]
  refine Sem.wp_mono M Γ _ (fun fin p' s' h' => ?_) (fun _ _ _ h' => h') p s (h Γ p (hc ▸ hΓ.in) (hasC_cons hC))
  cases fin with
  | done f => exact h'
  | again c' => exact ⟨h'.1, h'.2 (Γ.goto c') p' rfl (hΓ.goto c') hC⟩
theorem codeC_loop {c : Code} {R : Result → Shared → Prop} (hq : c.quiet = true) (I : Nat → Shared → Prop)
    (turn : ∀ n s, I n s → wpC M (A.under c) (M.den c)
      (fun fin s' => match fin with | .done f => R (.ok f) s' | .again c' => (c' = c ∧ ∃ m, m < n ∧ I m s') ∨ (c'.quiet = true ∧ codeC M A c' R s')) (fun e s' => R (.error e) s') s)
    (n : Nat) (h : I n s) : codeC M A c R s := by
  induction n using Nat.strongRecOn generalizing s with
  | ind n ih =>
    refine codeC_of_tree (wpC_mono (turn n s h) (fun fin s' hf => ?_) fun _ _ h' => h')
    cases fin with
    | done f => exact hf
    | again c' =>
      rcases hf with ⟨rfl, m, hm, hI⟩ | hf
      · exact ⟨hq, ih m hm hI⟩
      · exact hf
/-- the stack tells of the caller -/
theorem wpC_stack {Q : List (Code × Pos) → Shared → Prop} (h : ∀ st : List (Code × Pos), hasC (st.map (·.1)) → Q st s) : wpC M A stack Q E s := fun Γ p hΓ hC => by
  show Q ((Γ.code, p) :: Γ.below) s
  exact h _ hC
theorem wpC_mark {own : List String} {e : Value} {Q : Unit → Shared → Prop} (h : Q () s) : wpC M A (markTheRefusal own e) Q E s := by
  unfold markTheRefusal
  refine wpC_bind (wpC_stack fun st hst => ?_)
  have : pythonCodeMadeTheCall own (st.map (·.1)) = false := by
    unfold pythonCodeMadeTheCall
    simp only [Bool.and_eq_false_iff, Bool.not_eq_false']
    refine .inl (.inl ?_)
    unfold hasC at hst
    refine Eq.trans ?_ hst
    congr 1
  rw [this]
  exact wpC_pure h
end
section
variable {prog : Program} {w : World} {A : Around} {E : Value → Shared → Prop} {R : Result → Shared → Prop} {s : Shared}
theorem codeC_func {body env}
    (h : wpC (model prog w) (A.deeper env) (execs body env) (fun f s' => R (.ok (.ret (match f with | .ret v => v | _ => .none))) s')
      (fun e s' => wpC (model prog w) (A.deeper env) (leaving env e) (fun _ s'' => R (.error e) s'') (fun e' s'' => R (.error e') s'') s') s) :
    codeC (model prog w) A (.func body env) R s := by
  refine codeC_of_tree ?_
  show wpC _ (A.deeper env) (do point; match ← (execs body env).onRaise (leaving env) with | .ret v => ret v | _ => ret .none) _ _ s
  refine wpC_bind (wpC_point (wpC_bind (wpC_onRaise (wpC_mono h (fun f s' h' => ?_) fun _ _ h' => h'))))
  cases f <;> exact wpC_pure h'
theorem codeC_call_function {a : Addr} {args : Args} {o : Obj} {fd : FuncData} {body : List Stmt} (hroom : A.depth < recursionLimit) (ho : s.heap.get? a = some o)
    (hd' : o.data = .func fd) (hco : fd.scope.isCoroutine = false) (hgen : fd.scope.isGenerator = false) (hbody : fd.body = .stmts body) (hcd : s.heap.CodeRec fd.code fd.qualname)
    (h : wpAny (model prog w) A.in1 (bindArgs fd args) (fun binds s₁ =>
      wpAny (model prog w) A.in1 (newFunctionEnv fd.scope fd.globals fd.closure binds (fd.qualname ++ ".<locals>.") (some a) fd.code none fd.builtins)
        (fun env s₂ => s₂.heap.NoLimit ∧ codeC (model prog w) A (.func body env) R s₂) (fun e s' => R (.error e) s') s₁) (fun e s' => R (.error e) s') s) :
    codeC (model prog w) A (.call (.ref a) args) R s := by
  refine codeC_of_tree (wpC_of ?_)
  show wpAny _ A.in1 (callAny (.ref a) args) _ _ s
  simp only [callAny]
  refine wpAny_bind (wpAny_load ho ?_)
  obtain ⟨c, oc, vs, tq, hc, hoc, hdc, hq⟩ := hcd
  simp only [hd', callFunction, hco, hgen, hbody, hc]
  rw [hc] at h
  refine wpAny_bind (m := field (.ref c) 1) (wpAny_field hoc hdc hq (wpAny_bind (wpAny_pure ?_)))
  exact wpAny_bind (wpAny_mono h (fun binds s₁ h₁ => wpAny_bind (wpAny_mono h₁ (fun env s₂ h₂ => wpAny_bind (wpAny_enterFrame h₂.1 hroom
    (wpAny_pure (And.intro rfl h₂.2)))) fun _ _ h' => h')) fun _ _ h' => h')
end
end Mine
end

noncomputable section
open PySem PySem.W PySem.Calls PyProof.Rows
set_option Elab.async false
set_option maxRecDepth 100000
set_option linter.unusedVariables false
set_option maxHeartbeats 2000000
namespace Mine
/- the way from the walk under the claim's caller up to the row -/
abbrev callerG : PySem.Ctx := ⟨.builtin "claim.caller" {}, none, none, [], none⟩
theorem caller_has : hasC (callerG.code :: callerG.below.map (·.1)) := rfl
theorem halts_c {prog : Program} {w : World} {t : Sem PySem.Fin} {s : Shared} {R : Result → Shared → Prop} (hreg : s.asleep)
    (h : wpC (model prog w) callerA t (fun fin s' => ∃ f, fin = .done f ∧ (R (.ok f) s' ∧ leftWithCleanup s'.gens = false)) (fun e s' => R (.error e) s' ∧ leftWithCleanup s'.gens = false) s) :
    ∃ n r s' s'', schedN (denote table) prog w n (.single s ⟨t, .builtin "claim.caller" {}, default, []⟩) = .halted (outcomeOf r) s' ∧
      runN (denote table) prog w n s ⟨t, .builtin "claim.caller" {}, default, []⟩ = .halted (outcomeOf r) s' ∧ s'.forget = s''.forget ∧ R r s'' := by
  have y : Sem.wp (model prog w) callerG t (Sem.finPost (model prog w) callerG fun r s' => R r s' ∧ leftWithCleanup s'.gens = false) (fun e _ s' => R (.error e) s' ∧ leftWithCleanup s'.gens = false) default s :=
    Sem.wp_mono _ _ t (fun fin p' s' ⟨f, e, q⟩ => by subst e; exact q) (fun _ _ _ q => q) _ _ (h callerG default caller_in caller_has)
  obtain ⟨n, r, s₁, s₂, hs, hn, hfo, hR⟩ := wp_halts_full (M := model prog w) (R := R) hreg y
  exact ⟨n, r, s₂, s₁, hs, hn, hfo, hR⟩
theorem callFrom_c {c : ClaimW} {tree : List Value → Sem PySem.Fin} {w : World} {s : Shared} {free : Addr → Prop} {gens : Prop} {kept : Heap → Prop} (hz : s.asleep) (hgens : s.gens = #[])
    (spec : ∀ args, c.pre args = true → WData.layableAll args = true → ∀ ord : List DictEntry → List DictEntry, (∀ l, (ord l).Perm l) →
      ∃ vs s₁, layAllW c.records (classAt s.heap) w.params ord args s = some (vs, s₁) ∧
        wpC (model c.prog w) callerA (tree vs) (fun fin s' => ∃ f, fin = .done f ∧ (c.Ends s args vs s₁ (.ok f) s' ∧ s'.os = s.os ∧ AllBare s'.gens ∧ kept s'.heap))
          (fun e s' => c.Ends s args vs s₁ (.error e) s' ∧ s'.os = s.os ∧ AllBare s'.gens ∧ kept s'.heap) s₁) :
    c.CallFrom (fun vs => ⟨tree vs, .builtin "claim.caller" {}, default, []⟩) w free gens kept s := by
  intro args hpre hlay ord hord
  refine absP fun Y hY => ?_
  obtain ⟨vs, s₁, hlaid, hcode⟩ := spec args hpre hlay ord hord
  have hal := layAllW_rest _ _ _ hlaid
  obtain ⟨k, r, s', s'', hsched, hrun, hfo, hcase, hos, hkp⟩ := halts_c (prog := c.prog) (w := w) (t := tree vs) (s := s₁) (R := fun r s' => c.Ends s args vs s₁ r s' ∧ s'.os = s.os ∧ kept s'.heap)
    (Shared.asleep_of_life hal.2.2.2 hz) (wpC_mono hcode (fun fin s' ⟨f, e, h1, h2, h3, h4⟩ => ⟨f, e, ⟨h1, h2, h4⟩, leftWithCleanup_false_of_bare h3⟩) fun e s' ⟨h1, h2, h3, h4⟩ => ⟨⟨h1, h2, h4⟩, leftWithCleanup_false_of_bare h3⟩)
  obtain ⟨eh, _, _, eo, _⟩ := Shared.forget_eq hfo
  have hcase := hcase.congr eh
  have hkp : kept s'.heap := by rw [eh]; exact hkp
  rw [← eo] at hos
  have hlife : s'.heap.life = s.heap.life := (runN_life _ _ _ hrun).trans hal.2.2.2
  refine hY ⟨vs, s₁, hlaid, k, _, s', hsched, ?_, (fun _ i x hx => by rw [hgens] at hx; simp at hx), hkp, by rw [hlife], Shared.rest_eq hos⟩
  clear hY hcode hsched hrun hlife hlaid hal
  refine absP fun Y hY => ?_
  rcases hcase with ⟨v, rfl, d1, d2, d3, d4, d5⟩ | ⟨e, ob, cls, rfl, d1, d2, d3, d4, d5⟩
  · exact hY (.inl ⟨v, rfl, d1, d2, d3, fun b o y _ => d4 b o y, d5⟩)
  · exact hY (.inr ⟨e, ob, cls, rfl, d1, d2, d3, d4, fun b o y _ => d5 b o y⟩)
/-- what is asked of the walk, under the caller -/
abbrev WalkC (q : Program) (loose : List Str) (XP : (Str → Option Value) → Heap → Prop) {α : Type} (Yf : Shared → α) (Ya : World → α) (r : RowW) (d : DefRec) (kwd : List (Str × Expr)) : Prop :=
  ∀ (w : World) (s₀ s₁ : Shared) (mg mb : Str → Option Value), Ground q loose r.records XP w s₀ mg mb s₁.heap → Yf s₀ = Ya w → ∀ (a : Addr) (o : Obj) (pm cd doc dV kV : Value), s₁.heap.get? a = some o →
    o.data = .func { docDef d.name d.params d.body d.scope pm cd doc with defaults := dV, kwdefaults := kV } → s₁.heap.CodeRec cd d.name → Dflts mg s₁.heap d.params kwd dV kV → mg d.name = some (.ref a) → s₁.gens = #[] →
    ∀ (args : List WData) (vals : List Value) (as : List Addr), Laid r.records w s₀ s₁ args vals as → r.claim.pre args = true → WData.layableAll args = true → ReadsAllW r.records (classAt s₀.heap) s₁.heap vals args as → WellAll w.params s₁.heap vals args → (∀ a ∈ as, (a == sysModules) = false) →
      wpC (model r.prog w) callerA (PySem.call (.ref a) vals) (fun v s' => GoodWG r.claim (classAt s₀.heap) (ExcName.means s₀.heap) args s₁ (.ok (.ret v)) s')
        (fun e s' => GoodWG r.claim (classAt s₀.heap) (ExcName.means s₀.heap) args s₁ (.error e) s') s₁
/-- the head for a walk under the caller: as the library's holds_openX, from a walk under the claim's caller (WalkC) in place of one under any context -/
theorem holds_openC {r : OpenRow} {q : Program} {loose : List Str} {Xt : Shared → Bool} {XP : (Str → Option Value) → Heap → Prop} {α : Type} {Yf : Shared → α} {Ya : World → α} {d : DefRec} {kwd : List (Str × Expr)} {N : Nat}
    (left : LeftO r.prog q loose Xt Yf Ya N)
    (hX : ∀ s, Xt s = true → XP (s.heap.nsMap mainGlobals) s.heap) (hXk : ∀ mg h h', XP mg h → (∀ b o, h.get? b = some o → h'.get? b = some o) → XP mg h')
    (hdef : defOf q r.name = some (d, kwd)) (hp : r.prog.theDef r.name = some (d.params, d.body, d.scope)) (hk : kwWritten? d.params.kwonlyargs d.params.kw_defaults = some kwd) (hRf : ∀ s, Xt s = true → RecFacts r.records s.heap) (hwr : (!r.writes || r.records.isEmpty) = true)
    (k1 : r.wellSaid = true) (ok : (chainsOk q && opensWell r.prog && (frees r.toRowW && r.within.isEmpty)) = true) (hb : r.prog.bare) (hw : r.toRowW.promised)
    (call : WalkC q loose XP Yf Ya r.toRowW d kwd) : r.Holds := by
  obtain ⟨ok, k5⟩ := Bool.and_eq_true_iff.mp ok
  obtain ⟨hch, o1⟩ := Bool.and_eq_true_iff.mp ok
  obtain ⟨k5, k6⟩ := Bool.and_eq_true_iff.mp k5
  obtain ⟨hsame, hu, ha, hap, hm⟩ := frees_parts k5
  refine ⟨k1, hw, ⟨hb, o1, by show r.toRowW.makers.map _ = []; rw [hm]; rfl⟩, hw.witness, fun w => ⟨(left.behind hX hch w).1, fun s' hs' => ?_⟩⟩
  refine absP fun Y hY => ?_
  obtain ⟨s₀, hf, hg0, s, hT, hz, hgens, hg, G00, y⟩ := (left.behind (XP := fun mg h => XP mg h ∧ RecFacts r.records h) (fun s hs => ⟨hX s hs, hRf s hs⟩) hch w).2 s' hs'
  have G0 : Ground q loose [] XP w s (s.heap.nsMap mainGlobals) (s.heap.nsMap builtinsNs) s.heap := { G00 with X := G00.X.1 }
  have RF := G00.X.2
  refine hY ⟨s₀, hf, hg0, s, hT, fun n hn => ?_, RF.1, RF.2.1, ?_⟩
  · obtain rfl : n = r.name := by split at hn <;> simp_all
    exact pinned_of_view hg G0 hdef hp hk
  have hgens : s.gens = #[] := Array.eq_empty_of_size_eq_zero (beq_iff_eq.mp hgens)
  have G : Ground q loose r.records XP w s _ _ s.heap := RF.ground G0
  clear hY
  refine callFrom_c (c := r.toRowW.claim) hz hgens fun args hpre hlay ord hord => ?_
  refine absP fun Y hY => ?_
  obtain ⟨⟨vs, s₁⟩, hlaid⟩ := Option.isSome_iff_exists.mp (layAllW_isSome (P := w.params) (ord := ord) G.has args r.args s (pre_splitW hpre).1)
  have keeps := layAllW_keeps _ _ _ hlaid
  have hal := layAllW_rest _ _ _ hlaid
  obtain ⟨as, hrd, hin, hold⟩ := reads_layAllW hord _ _ _ hlaid hlay s₁.heap (fun _ _ e => e)
  have L : Laid r.records w s s₁ args vs as := ⟨⟨ord, hord, hlaid⟩, hrd, hin, hold, keeps, hal.1.trans hgens, hal.2.2.1⟩
  have G₁ := G.keeps hXk keeps
  obtain ⟨a, o, pm, cd, doc, dV, kV, h1, h2, h3, h4, h5⟩ := G₁.fn hdef
  have hc := call w s s₁ _ _ G₁ y a o pm cd doc dV kV h2 h3 h4 h5 (defOf_name hdef ▸ h1) L.gens args vs as L hpre hlay L.reads L.well (L.low G.low)
  have hi := ident_freeW hu ha hap
  have hwi : r.toRowW.claim.within = [] := List.isEmpty_iff.mp k6
  have fin : ∀ {res s'}, GoodWG r.toRowW.claim (classAt s.heap) (ExcName.means s.heap) args s₁ res s' → _ := fun {res s'} g => g.laid (c := r.toRowW.claim) hsame hwi hi L
  refine hY ⟨vs, s₁, hlaid, wpC_bind (wpC_of (wpAny_nsGet G₁.T.g ?_))⟩
  rw [h1]
  exact wpC_bind (wpC_mono hc (fun v s' g => wpC_pure ⟨_, rfl, (fin g).1, (fin g).2.1, (fin g).2.2, fun q => ⟨namesKept_of hT hg _ keeps g.2.1.old, noTable hwr q⟩⟩)
    fun e s' g => ⟨(fin g).1, (fin g).2.1, (fin g).2.2, fun q => ⟨namesKept_of hT hg _ keeps g.2.1.old, noTable hwr q⟩⟩)
end Mine
end

noncomputable section
open PySem PySem.W PySem.Calls PyProof.Rows PySem.NumText
set_option Elab.async false
set_option maxRecDepth 100000
set_option linter.unusedVariables false
set_option maxHeartbeats 2000000
set_option pp.deepTerms false
set_option pp.deepTerms.threshold 6
set_option pp.maxSteps 2000
namespace Mine
theorem wpC_ite_true {α : Type} {M : Model} {A : Around} {c : Prop} [Decidable c] {t e : Sem α} {Q : α → Shared → Prop} {E : Value → Shared → Prop} {s : Shared} (hc : c) (h : wpC M A t Q E s) : wpC M A (if c then t else e) Q E s := by
  rw [if_pos hc]
  exact h
theorem int_bad {prog : Program} {w : World} {A : Around} {E : Value → Shared → Prop} {s : Shared} {Q : PySem.Fin → Shared → Prop} {x : Str} {u : Tok} (hl : x.length ≤ 600) (hz : (reprText x).length ≤ sizeLine) (hA : A.handled = none)
    (hr : (int_private% "readNumeral") 0 10 (numSeenOf x) = int_private% "Numeral.invalid")
    (h : ∀ h' e tk, Heap.NewExc s.heap h' e "ValueError" → E (.ref e) { s with heap := h', toks := tk }) :
    wpC (model prog w) A (Builtin.«int.__new__» ⟨[.type "int", .str x u], []⟩) Q E s := by
  obtain ⟨hp, g, d, tk, os⟩ := s
  have f1 := PySem.F.conv_sub_int
  have f2 := PySem.F.madeHere_int
  have f3 := PySem.W.KIN.str_int
  have f4 := PySem.W.KIN.str_idx
  have f5 := PySem.W.KIN.str_trunc
  have f6 : typeOf (.str x u) = pure (.type "str") := rfl
  unfold Builtin.«int.__new__»
  dsimp only
  refine wpC_bind (wpC_of ?_)
  repeat (any_goals (first | assumption | wp_step))
  simp only [Bool.not_true, Bool.false_eq_true, if_false]
  refine wpC_bind (wpC_of ?_)
  repeat (any_goals (first | assumption | wp_step))
  simp only [Bool.not_true, Bool.false_eq_true, if_false]
  refine wpC_bind (wpC_of ?_)
  repeat (any_goals (first | assumption | wp_step))
  rw [if_neg (show ¬ (Value.type "int" == Value.type "int" && ([] : List (Str × Value)).isEmpty && decide ([Value.str x u].length > 2)) = true from by simp), if_neg (by simp)]
  refine wpC_bind (wpC_of ?_)
  repeat (any_goals (first | assumption | wp_step))
  dsimp only [List.head?]
  show wpC (model prog w) A ((int_private% "intFromObject") (.str x u) >>= _) _ _ _
  refine wpC_bind ?_
  refine wpC_bind (m := callSpecial? _ _) (wpC_of ?_)
  repeat (any_goals (first | assumption | wp_step))
  dsimp only
  refine wpC_bind (m := specialOf _ _) (wpC_of ?_)
  repeat (any_goals (first | assumption | wp_step))
  dsimp only [Option.isSome]
  rw [if_neg Bool.false_ne_true]
  refine wpC_bind (m := specialOf _ _) (wpC_of ?_)
  repeat (any_goals (first | assumption | wp_step))
  dsimp only
  refine wpC_bind (m := (int_private% "numeralText?") _) (wpC_of ?_)
  repeat (any_goals (first | assumption | wp_step))
  dsimp only
  have hs : (numSeenOf x).length ≤ 640 := Nat.le_trans (seen_length x) (by omega)
  show wpC (model prog w) A ((int_private% "intFromText") (.str x u) (numTextOf x) 10) _ _ _
  refine wpC_ite_true (c := (numSeenOf x).length ≤ 640) hs ?_
  refine wpC_bind (wpC_of (wpAny_pure ?_))
  dsimp only
  rw [show (int_private% "readNumeral") 0 10 ((numTextOf x).takeWhile (· != 0)) = int_private% "Numeral.invalid" from hr]
  dsimp only
  refine wpC_bind (m := (int_private% "bytesOf?") _) (wpC_of ?_)
  repeat (any_goals (first | assumption | wp_step))
  rw [if_neg (by simp)]
  refine wpC_bind (wpC_of (wpAny_rule ?_))
  refine wpC_bind (m := (int_private% "bytesOf?") _) (wpC_of ?_)
  repeat (any_goals (first | assumption | wp_step))
  dsimp only
  refine wpC_bind (wpC_of (wpAny_pyRepr_str ?_ hz))
  refine wpC_bind (wpC_of (wpAny_mkStr ?_ ?_))
  · refine wpC_bind (wpC_of (wpAny_newExc_plain plainExc_ValueError (fun h' e hm => ?_) (by show (1:Nat) ≤ sizeLine; rw [sizeLine_eq]; omega)))
    refine wpC_bind (wpC_mark ?_)
    exact wpC_of (wpAny_raiseNew_none hA (h _ _ _ hm.newExc))
  · rw [PySem.Str.length_append]
    have e1 : (Str.ofString (toString "invalid literal for int() with base " ++ toString 10 ++ toString ": ")).length = 40 := by decide
    have e2 : (⟨(reprText x).cps.extract 0 200⟩ : Str).length ≤ (reprText x).length := by
      show ((reprText x).cps.extract 0 200).size ≤ (reprText x).cps.size
      rw [Array.size_extract]; omega
    have e3 : (⟨(reprText x).cps.extract 0 200⟩ : Str).length ≤ 200 := by
      show ((reprText x).cps.extract 0 200).size ≤ 200
      rw [Array.size_extract]; omega
    rw [sizeLine_eq]
    omega
theorem codeC_builtin {prog : Program} {w : World} {A : Around} {s : Shared} {R : Result → Shared → Prop} {id : String} {args : Args} {b : Builtin} (hb : entryFor table id = some b)
    (h : wpC (model prog w) (A.under (.builtin id args)) (b args)
      (fun fin s' => match fin with | .done f => R (.ok f) s' | .again c' => c'.quiet = true ∧ codeC (model prog w) A c' R s') (fun e s' => R (.error e) s') s) :
    codeC (model prog w) A (.builtin id args) R s := by
  refine codeC_of_tree ?_
  show wpC _ _ (match entryFor table id with | some b => b args | none => unsupported ((withoutEnding? id "#data").getD id)) _ _ s
  rw [hb]; exact h
theorem call_int_bad {prog : Program} {w : World} {A : Around} {E : Value → Shared → Prop} {s : Shared} {Q : Value → Shared → Prop} {x : Str} {u : Tok} (hl : x.length ≤ 600) (hz : (reprText x).length ≤ sizeLine) (hA : A.handled = none)
    (hr : (int_private% "readNumeral") 0 10 (numSeenOf x) = int_private% "Numeral.invalid")
    (h : ∀ h' e tk, Heap.NewExc s.heap h' e "ValueError" → E (.ref e) { s with heap := h', toks := tk }) :
    wpC (model prog w) A (call (.type "int") [.str x u]) Q E s := by
  obtain ⟨c, tl, hmro⟩ := F.called_int.mro
  have hmade := F.called_int.made
  have hsub := F.called_int.sub
  have hct := F.typeCall_int_1 (.str x u)
  refine wpC_call (codeC_of_tree (wpC_of ?_))
  show wpAny _ _ (callAny (.type "int") _) _ _ _
  refine wpAny_pure ⟨Code.quiet_builtin _ (by decide +kernel), codeC_builtin F.entry_type_call ?_⟩
  rw [Around.under_plain (weight_type_call_type "int" [.str x u] []) rfl]
  have h1 := F.called_int.notType
  have h2 := F.called_int.canCreate
  unfold Builtin.«type.__call__»
  dsimp only
  rw [if_neg (by rw [h1]; exact Bool.false_ne_true), if_neg (by first | (rw [h2]; exact Bool.false_ne_true) | exact fun h => Bool.false_ne_true (h2.symm.trans h))]
  refine wpC_bind (wpC_of (wpAny_of_eq hct ?_))
  refine wpC_bind (wpC_of (wpAny_of_eq hmro ?_))
  rw [if_neg (by simp)]
  refine wpC_bind (wpC_of (wpAny_of_eq hmade ?_))
  refine wpC_bind (m := pure _) (wpC_pure ?_)
  refine wpC_bind (wpC_holding (wpC_call (codeC_of_tree (wpC_of ?_))))
  show wpAny _ _ (do checkBuiltinCall "int.__new__" _; again (.builtin "int.__new__" _)) _ _ s
  refine wpAny_bind (wpAny_of_eq (F.newCall_int_1 _) (wpAny_pure ⟨plainId_quiet (by decide +kernel) _, codeC_builtin F.entry_int_new ?_⟩))
  refine int_bad hl hz ?_ hr h
  exact hA
end Mine
end

noncomputable section
open PySem PySem.W PySem.Calls PyProof.Rows
set_option Elab.async false
set_option maxRecDepth 100000
set_option linter.unusedVariables false
set_option maxHeartbeats 2000000
set_option pp.deepTerms false
set_option pp.deepTerms.threshold 6
set_option pp.maxSteps 2000
namespace Mine
def E0 : PostV Value := fun _ _ _ => False
abbrev frs (l : List Env) : List Addr := l.filterMap (·.frame)
/-- a raise on its way: what stood stands, but the frames' slots -/
structure Flown (F : Fix) (l : List Env) (e : Addr) (cls a0 : Value) (h h' : Heap) : Prop where
  fly : ∃ B, (∀ b o, h.get? b = some o → b ∉ frs l → B.get? b = some o) ∧ Tabs F B ∧ Heap.FlyingW B l e cls a0 h'
  ups : ∀ b o, b ∈ frs l → h.get? b = some o → ∃ sl, h'.get? b = some { o with slots := sl }
/-- the frames that stand around -/
structure FrK (F : Fix) (l : List Env) (h : Heap) : Prop where
  fun_ : ∃ B, h.FunFrames B l
  off : ∀ b ∈ frs l, F.H.get? b = none
theorem tame_nf {o : Obj} (hn : ∀ vs, o.data ≠ .fields vs) : Tame o := fun vs e => absurd e (hn vs)
theorem Tabs.nf {F : Fix} {h h' : Heap} (x : Tabs F h) (k : ∀ b o, (∃ vs, o.data = .fields vs) → h.get? b = some o → h'.get? b = some o) : Tabs F h' :=
  x.mono fun b o nt e => k b o (Classical.byContradiction fun q => nt (tame_nf fun vs z => q ⟨vs, z⟩)) e
theorem funFrames_up {l : List Env} {h h' B : Heap} (x : h.FunFrames B l) (k : ∀ b o, b ∈ frs l → (∀ vs, o.data ≠ .fields vs) → h.get? b = some o → ∃ o', h'.get? b = some o' ∧ o'.data = o.data) : h'.FunFrames B l := by
  induction l with
  | nil => trivial
  | cons env l ih =>
    obtain ⟨hk, ⟨L, o, hf, hn, ho, hd⟩, hr⟩ := x
    obtain ⟨o', ho', hd'⟩ := k L o (by unfold frs; rw [List.filterMap_cons, hf]; exact .head _) hd ho
    exact ⟨hk, ⟨L, o', hf, hn, ho', fun vs => hd' ▸ hd vs⟩, ih hr (fun b o hb => k b o (by
      unfold frs; rw [List.filterMap_cons, hf]; exact .tail _ hb))⟩
section
variable {c : Cx} {F : Fix} {A : Around} {n : Nat} {E : PostV Value} {h h' gg : Heap} {g : Gens} {env : Env} {l : List Env} {L e : Addr} {m : Str → Option Value} {cs : List Cell} {cls a0 : Value}
/-- the first frame is left by an exception that was made in it -/
theorem leave_gen {h₁ h₂ : Heap} {oe : Obj} {vs : Array Value} {Q : PostV Unit} (hfr : A.frames = some l) (D : Lg F gg L m cs h₁) (X : FrK F l gg) (hkeep : ∀ b o, h₁.get? b = some o → h₂.get? b = some o) (hnew : h₁.get? e = none)
    (he : h₂.get? e = some oe) (hd : oe.data = .fields vs) (h1 : vs[1]? = some .none) (h0 : vs[0]? = some a0) (hf : env.frame = some L)
    (hQ : ∀ h', Flown F l e oe.cls a0 gg h' → h₂.UpToSlots h' → Q () h' g) (hk : env.scope.kind ≠ .module := by intro q; cases q) :
    WP c (A.deeper env) (leaving env (.ref e)) Q E h₂ g := by
  intro tk
  obtain ⟨B0, ff⟩ := X.fun_
  obtain ⟨oL, es, ep, hL, hLd, _⟩ := D.ns
  have hLn : ∀ vs, oL.data ≠ .fields vs := fun vs q => by rw [hLd] at q; cases q
  have ff1 : h₁.FunFrames B0 l := ff.of_keeps fun b o hb _ => ⟨o, D.keep b o hb, rfl⟩
  have ffE : h₁.FunFrames (hideAll h₁ (frs (env :: l))) (env :: l) := by
    have fx : h₁.FunFrames (hideAll h₁ (frs (env :: l))) l := funFrames_hide ff1 fun env' he' a ha => by
      unfold frs; rw [List.filterMap_cons, hf]
      exact .tail _ (List.mem_filterMap.mpr ⟨env', he', ha⟩)
    exact ⟨hk, ⟨L, oL, hf, hideAll_none _ (by unfold frs; rw [List.filterMap_cons, hf]; exact .head _), hL, hLn⟩, fx⟩
  have mem : ∀ b, b ∈ frs (env :: l) ↔ b = L ∨ b ∈ frs l := fun b => by
    unfold frs; rw [List.filterMap_cons, hf]; exact List.mem_cons
  have hen : (hideAll h₁ (frs (env :: l))).get? e = none := by
    cases q : (hideAll h₁ (frs (env :: l))).get? e with
    | none => rfl
    | some o => have := of_hideAll _ q; rw [hnew] at this; cases this
  refine wpAny_leaving_firstW (base := hideAll h₁ (frs (env :: l))) (Around.frames_deeper hfr) (ffE.of_keeps fun b o hb _ => ⟨o, hkeep b o hb, rfl⟩) hf he (fun b o q => hkeep b o (of_hideAll _ q)) hen hd h1 h0 fun h' hL' => ⟨rfl, rfl, ?_⟩
  obtain ⟨st, ⟨_, _, k2⟩, k3, ups⟩ := hL'
  refine hQ h' ⟨⟨_, fun b o hb nb => hideAll_get _ (D.keep b o hb) fun hm => ?_, D.tabs.nf fun b o ⟨vs, hd⟩ hb => hideAll_get _ hb fun hm => ?_, st, hen, k2, k3⟩, fun b o hb ho => ?_⟩ ups
  · rcases (mem b).mp hm with rfl | hm
    · rw [D.off] at hb; cases hb
    · exact nb hm
  · rcases (mem b).mp hm with rfl | hm
    · rw [hL] at hb; cases hb; exact hLn vs hd
    · obtain ⟨_, o', ho', hn'⟩ := ff1.mem hm
      rw [hb] at ho'; cases ho'; exact hn' vs hd
  · obtain ⟨_, o', ho', hn'⟩ := ff.mem hb
    rw [ho] at ho'; cases ho'
    exact ups b o (hkeep _ _ (D.keep b o ho)) hn'
theorem leave_made {h₁ h₂ : Heap} {args : List Value} {Q : PostV Unit} (hfr : A.frames = some l) (D : Lg F gg L m cs h₁) (X : FrK F l gg) (hx : Heap.MadeExcOf h₁ h₂ e cls args) (hf : env.frame = some L)
    (hQ : ∀ h' t, Flown F l e cls (.ref t) gg h' → h'.TupAt t args → gg.get? t = none → Q () h' g) (hk : env.scope.kind ≠ .module := by intro q; cases q) :
    WP c (A.deeper env) (leaving env (.ref e)) Q E h₂ g := by
  obtain ⟨t, h1, h2, h3⟩ := hx.there
  refine leave_gen hfr D X hx.keeps hx.new h1 rfl rfl rfl hf (fun h' fl ups => hQ h' t fl (Heap.TupAt.of_slots ⟨_, _, h3, rfl, rfl⟩ ups) ?_) hk
  cases q : gg.get? t with
  | none => rfl
  | some o => rw [D.keep _ _ q] at h2; cases h2
theorem leave_new {h₁ h₂ : Heap} {cl : String} {Q : PostV Unit} (hfr : A.frames = some l) (D : Lg F gg L m cs h₁) (X : FrK F l gg) (hx : Heap.NewExc h₁ h₂ e cl) (hf : env.frame = some L)
    (hQ : ∀ h' a0, Flown F l e (.type cl) a0 gg h' → Q () h' g) (hk : env.scope.kind ≠ .module := by intro q; cases q) :
    WP c (A.deeper env) (leaving env (.ref e)) Q E h₂ g := by
  obtain ⟨ob, tp, he, hcls, hd⟩ := hx.there
  exact leave_gen hfr D X hx.keeps hx.new he hd rfl rfl hf (fun h' fl ups => hQ h' tp (hcls ▸ fl)) hk
/- landing in a frame -/
theorem x_try {body : List Stmt} {h₀ : ExceptHandler} {hs : List ExceptHandler} {pos : Pos} {rest : List Stmt} {Q : PostV Flow}
    (x : WP c A (execs body env) (fun f h₁ g₁ => (match f with | .next => False | f => Q f h₁ g₁))
      (fun e h₁ g₁ => WP c A (noteFrame e env) (fun _ h₂ g₂ => WP c A (setFlight e none) (fun _ h₃ g₃ => WP c A (handleBy e env (h₀ :: hs)) (fun f h₁ g₁ => (match f with | .next => False | f => Q f h₁ g₁)) E h₃ g₃) E h₂ g₂) E h₁ g₁) h g) :
    WP c A (execs (.Try body (h₀ :: hs) [] [] pos :: rest) env) Q E h g := by
  refine x_cons fun tk => wpAny_Try_except ?_
  have b0 : c.b + 1 ≤ tk + (c.b + 1) := Nat.le_add_left _ _
  refine wpAny_with_toks (n := c.b + 1) b0 (wpAny_mono (x tk) (fun f s' ⟨e1, e2, q⟩ ht => ?_) fun e s' ⟨e1, e2, q⟩ ht => ?_)
  · cases f <;> first | exact q.elim | exact ⟨e1, e2, q⟩
  · refine q.stepAt ⟨e1, ht⟩ e2 fun _ s₂ e1 e2 q => q.stepAt e1 e2 fun _ s₃ e1 e2 q => q.stepAt e1 e2 fun f s₄ e1 e2 q => ⟨e1.1, e2, ?_⟩
    cases f <;> first | exact q.elim | exact q
theorem Flown.tabs {h₁ : Heap} (fl : Flown F l e cls a0 gg h₁) : Tabs F h₁ := by
  obtain ⟨⟨B, b1, b2, b3⟩, _⟩ := fl
  exact b2.mono fun b o _ q => b3.1 b o q
theorem Flown.step {h₁ h₂ : Heap} (fl : Flown F l e cls a0 gg h₁) (B : Heap) (hB : (∀ b o, gg.get? b = some o → b ∉ frs l → B.get? b = some o)) (hT : Tabs F B) (f1 : Heap.FlyingW B l e cls a0 h₁) (f2 : Heap.FlyingW B l e cls a0 h₂) (up : h₁.UpToSlots h₂) : Flown F l e cls a0 gg h₂ := by
  refine ⟨⟨B, hB, hT, f2⟩, fun b o hb ho => ?_⟩
  obtain ⟨sl, h1⟩ := fl.ups b o hb ho
  obtain ⟨_, o', ho', hn'⟩ := f1.2.2.1.mem hb
  rw [h1] at ho'; cases ho'
  obtain ⟨sl', h2⟩ := up b _ h1 hn'
  exact ⟨sl', h2⟩
theorem land {h₁ : Heap} {α : Type} {t : Sem α} {Q : PostV α} (hfr : A.frames = some (env :: l)) (hf : env.frame = some L) (fl : Flown F (env :: l) e cls a0 gg h₁)
    (k : ∀ h₃, Flown F (env :: l) e cls a0 gg h₃ → h₁.UpToSlots h₃ → WP c A t Q E h₃ g) :
    WP c A (noteFrame (.ref e) env) (fun _ h₂ g₂ => WP c A (setFlight (.ref e) none) (fun _ h₃ g₃ => WP c A t Q E h₃ g₃) E h₂ g₂) E h₁ g := by
  obtain ⟨B, b1, b2, b3⟩ := fl.fly
  intro tk
  refine wpAny_looks_onW hfr hf b3 fun h₂ held up => ⟨rfl, rfl, fun tk => ?_⟩
  exact wpAny_landsW held fun h₃ f3 up' => ⟨rfl, rfl, k h₃ (fl.step B b1 b2 b3 f3 (up.trans up')) (up.trans up')⟩
theorem land_again {h₁ : Heap} {Q : PostV Unit} (fl : Flown F l e cls a0 gg h₁)
    (k : ∀ h₃, Flown F l e cls a0 gg h₃ → h₁.UpToSlots h₃ → Q () h₃ g) :
    WP c A (setFlight (.ref e) none) Q E h₁ g := by
  obtain ⟨B, b1, b2, b3⟩ := fl.fly
  intro tk
  exact lands_againW b3 fun h₃ f3 up' => ⟨rfl, rfl, k h₃ (fl.step B b1 b2 b3 f3 up') up'⟩
theorem Tabs.fields {h : Heap} {b : Addr} (x : Tabs F h) (hb : b ∈ F.ns.map (·.P)) : ∃ o vs, h.get? b = some o ∧ o.data = .fields vs := by
  obtain ⟨n, hn, rfl⟩ := List.mem_map.mp hb
  obtain ⟨ps, h1, _⟩ := x n hn
  exact ⟨_, _, h1, rfl⟩
theorem Lg.offTab (D : Lg F gg L m cs h) : L ∉ F.ns.map (·.P) := fun q => by
  obtain ⟨o, vs, h1, h2⟩ := D.tabs.fields q
  obtain ⟨o', es, ep, h3, h4, _⟩ := D.ns
  rw [h1] at h3; cases h3
  rw [h2] at h4; cases h4
theorem mem_frs (hf : env.frame = some L) (b : Addr) : b ∈ frs (env :: l) ↔ b = L ∨ b ∈ frs l := by
  unfold frs; rw [List.filterMap_cons, hf]; exact List.mem_cons
/-- the frame goes on where the raise has landed -/
theorem Flown.lg {h₀ h₃ : Heap} (D : Lg F gg L m [] h₀) (X : FrK F l gg) (hS : F.Sep) (hf : env.frame = some L) (fl : Flown F (env :: l) e cls a0 (baseOf F h₀) h₃) :
    Lg F (baseBut F h₃ [L]) L m [] h₃ where
  base b o q := by
    have n1 : b ∉ F.ns.map (·.P) := fun hb => by rw [hS.apart b hb] at q; cases q
    have n2 : b ≠ L := fun e => by have := D.base _ _ q; rw [e, D.off] at this; cases this
    obtain ⟨B, b1, b2, b3⟩ := fl.fly
    refine hideAll_get _ (b3.1 b o (b1 b o (hideAll_get _ (D.st b o q) n1) fun hm => ?_)) fun hm => ?_
    · rcases (mem_frs hf b).mp hm with hm | hm
      · exact n2 hm
      · rw [X.off b hm] at q; cases q
    · rcases List.mem_append.mp hm with hm | hm
      · exact n1 hm
      · exact n2 (List.mem_singleton.mp hm)
  keep b o q := of_hideAll _ q
  tabs := fl.tabs
  ns := by
    obtain ⟨o, es, ep, h1, h2, h3⟩ := D.ns
    obtain ⟨sl, h4⟩ := fl.ups L o ((mem_frs hf L).mpr (.inl rfl)) (hideAll_get _ h1 D.offTab)
    exact ⟨_, es, ep, h4, h2, h3⟩
  off := hideAll_none _ (List.mem_append_right _ (.head _))
  own p hp := by cases hp
  nd := List.nodup_nil
/-- what a call leaves in which a raise was caught -/
structure Back (F : Fix) (l : List Env) (h h' : Heap) : Prop where
  keep : ∀ b o, b ∉ F.ns.map (·.P) → b ∉ frs l → h.get? b = some o → h'.get? b = some o
  ups : ∀ b o, b ∈ frs l → b ∉ F.ns.map (·.P) → h.get? b = some o → ∃ sl, h'.get? b = some { o with slots := sl }
  tabs : Tabs F h'
theorem Flown.back {h₀ h₃ h₄ : Heap} {m' : Str → Option Value} {cs' : List Cell} (D : Lg F (baseOf F h) L m [] h₀) (X : FrK F l (baseOf F h)) (hf : env.frame = some L) (fl : Flown F (env :: l) e cls a0 (baseOf F h₀) h₃)
    (D' : Lg F (baseBut F h₃ [L]) L m' cs' h₄) : Back F l h h₄ := by
  have go : ∀ b o, b ∉ F.ns.map (·.P) → b ≠ L → h₃.get? b = some o → h₄.get? b = some o := fun b o n1 n2 q => D'.keep b o (hideAll_get _ q fun hm => by
    rcases List.mem_append.mp hm with hm | hm
    · exact n1 hm
    · exact n2 (List.mem_singleton.mp hm))
  have ne : ∀ b o, b ∉ F.ns.map (·.P) → h.get? b = some o → (baseOf F h).get? b = some o ∧ b ≠ L := fun b o n1 q => by
    have := hideAll_get (F.ns.map (·.P)) q n1
    exact ⟨this, fun e => by rw [e, D.off] at this; cases this⟩
  obtain ⟨B, b1, b2, b3⟩ := fl.fly
  refine ⟨fun b o n1 n2 q => ?_, fun b o hb n1 q => ?_, D'.tabs⟩
  · obtain ⟨q1, q2⟩ := ne b o n1 q
    refine go b o n1 q2 (b3.1 b o (b1 b o (hideAll_get _ (D.keep b o q1) n1) fun hm => ?_))
    rcases (mem_frs hf b).mp hm with hm | hm
    · exact q2 hm
    · exact n2 hm
  · obtain ⟨q1, q2⟩ := ne b o n1 q
    obtain ⟨sl, q3⟩ := fl.ups b o ((mem_frs hf b).mpr (.inr hb)) (hideAll_get _ (D.keep b o q1) n1)
    exact ⟨sl, go b _ n1 q2 q3⟩
/-- the exception itself -/
structure ExAt (h : Heap) (e : Addr) (cls a0 : Value) : Prop where
  ob : ∃ oe vs, h.get? e = some oe ∧ oe.cls = cls ∧ oe.data = .fields vs ∧ vs[0]? = some a0
theorem Flown.ex {h₁ : Heap} (fl : Flown F l e cls a0 gg h₁) : ExAt h₁ e cls a0 := by
  obtain ⟨B, b1, b2, b3⟩ := fl.fly
  obtain ⟨oe, vs, h1, h2, h3, h4⟩ := b3.first
  exact ⟨_, _, h1, h2, h3, h4⟩
theorem ExAt.keeps {h₁ : Heap} (x : ExAt h e cls a0) (k : ∀ b o, (∃ vs, o.data = .fields vs) → h.get? b = some o → h₁.get? b = some o) : ExAt h₁ e cls a0 := by
  obtain ⟨oe, vs, h1, h2, h3, h4⟩ := x.ob
  exact ⟨_, _, k _ _ ⟨_, h3⟩ h1, h2, h3, h4⟩
/- the clauses -/
theorem hb_as {t : Expr} {nm : Str} {b₀ : Stmt} {suite : List Stmt} {pos : Pos} {rest : List ExceptHandler} {Q : PostV Flow}
    (x : WP c (A.mark (some (.ref e))) (eval t env) (fun v h₁ g₁ => WP c (A.mark (some (.ref e))) (excMatches (.ref e) v) (fun b h₂ g₂ => b = true ∧
      WP c (A.mark (some (.ref e))) (setFlight (.ref e) none) (fun _ h₃ g₃ => WP c (A.mark (some (.ref e))) (storeName env nm (.ref e)) (fun _ h₄ g₄ =>
        WP c (A.mark (some (.ref e))) (execs (b₀ :: suite) env) (fun f h₅ g₅ => WP c A (do bindName env nm .none; unbindBehindTheSuite env nm pos) (fun _ h₆ g₆ => Q f h₆ g₆) E0 h₅ g₅) E0 h₄ g₄) E0 h₃ g₃) E0 h₂ g₂) E0 h₁ g₁) E0 h g) :
    WP c A (handleBy (.ref e) env (.ExceptHandler (some t) (some nm) (b₀ :: suite) pos :: rest)) Q E h g := by
  intro tk
  have b0 : c.b + 1 ≤ tk + (c.b + 1) := Nat.le_add_left _ _
  refine wpAny_handleBy_cons (codeAny_handlers_test (wpAny_with_toks (n := c.b + 1) b0 (wpAny_mono (x tk) (fun v s₁ ⟨e1, e2, q⟩ ht => ?_) fun v s' q _ => False.elim (show False from q.2.2)))) (by intro q; cases q)
  refine wpAny_with_toks (n := c.b + 1) ht (wpAny_mono (q.at ⟨e1, ht⟩ e2) (fun b s₂ ⟨e1, e2, q⟩ ht => ?_) fun v s' q _ => False.elim (show False from q.2.2))
  obtain ⟨rfl, q⟩ := q
  refine codeAny_handlers_suite_as ?_
  refine wpAny_with_toks (n := c.b + 1) ht (wpAny_mono (q.at ⟨e1, ht⟩ e2) (fun _ s₃ ⟨e1, e2, q⟩ ht => ?_) fun v s' q _ => False.elim (show False from q.2.2))
  refine wpAny_with_toks (n := c.b + 1) ht (wpAny_mono (q.at ⟨e1, ht⟩ e2) (fun _ s₄ ⟨e1, e2, q⟩ ht => ?_) fun v s' q _ => False.elim (show False from q.2.2))
  refine wpAny_with_toks (n := c.b + 1) ht (wpAny_mono (q.at ⟨e1, ht⟩ e2) (fun f s₅ ⟨e1, e2, q⟩ ht => ?_) fun v s' q _ => False.elim (show False from q.2.2))
  exact wpAny_mono (q.at ⟨e1, ht⟩ e2) (fun _ s' q => q) fun v s' q => False.elim (show False from q.2.2)
theorem hb_no {t : Expr} {nm : Option Str} {suite : List Stmt} {pos : Pos} {rest : List ExceptHandler} {Q : PostV Flow}
    (x : WP c (A.mark (some (.ref e))) (eval t env) (fun v h₁ g₁ => WP c (A.mark (some (.ref e))) (excMatches (.ref e) v) (fun b h₂ g₂ => b = false ∧
      WP c A (handleBy (.ref e) env rest) Q E h₂ g₂) E0 h₁ g₁) E0 h g) :
    WP c A (handleBy (.ref e) env (.ExceptHandler (some t) nm suite pos :: rest)) Q E h g := by
  intro tk
  have b0 : c.b + 1 ≤ tk + (c.b + 1) := Nat.le_add_left _ _
  refine wpAny_handleBy_cons (codeAny_handlers_test (wpAny_with_toks (n := c.b + 1) b0 (wpAny_mono (x tk) (fun v s₁ ⟨e1, e2, q⟩ ht => ?_) fun v s' q _ => False.elim (show False from q.2.2)))) (by intro q; cases q)
  refine wpAny_with_toks (n := c.b + 1) ht (wpAny_mono (q.at ⟨e1, ht⟩ e2) (fun b s₂ ⟨e1, e2, q⟩ ht => ?_) fun v s' q _ => False.elim (show False from q.2.2))
  obtain ⟨rfl, q⟩ := q
  exact q.at ⟨e1, ht⟩ e2
theorem hb_plain {t : Expr} {b₀ : Stmt} {suite : List Stmt} {pos : Pos} {rest : List ExceptHandler} {Q : PostV Flow}
    (x : WP c (A.mark (some (.ref e))) (eval t env) (fun v h₁ g₁ => WP c (A.mark (some (.ref e))) (excMatches (.ref e) v) (fun b h₂ g₂ => b = true ∧
      WP c (A.mark (some (.ref e))) (setFlight (.ref e) none) (fun _ h₃ g₃ =>
        WP c (A.mark (some (.ref e))) (execs (b₀ :: suite) env) Q E0 h₃ g₃) E0 h₂ g₂) E0 h₁ g₁) E0 h g) :
    WP c A (handleBy (.ref e) env (.ExceptHandler (some t) none (b₀ :: suite) pos :: rest)) Q E h g := by
  intro tk
  have b0 : c.b + 1 ≤ tk + (c.b + 1) := Nat.le_add_left _ _
  refine wpAny_handleBy_cons (codeAny_handlers_test (wpAny_with_toks (n := c.b + 1) b0 (wpAny_mono (x tk) (fun v s₁ ⟨e1, e2, q⟩ ht => ?_) fun v s' q _ => False.elim (show False from q.2.2)))) (by intro q; cases q)
  refine wpAny_with_toks (n := c.b + 1) ht (wpAny_mono (q.at ⟨e1, ht⟩ e2) (fun b s₂ ⟨e1, e2, q⟩ ht => ?_) fun v s' q _ => False.elim (show False from q.2.2))
  obtain ⟨rfl, q⟩ := q
  refine codeAny_handlers_suite ?_
  refine wpAny_with_toks (n := c.b + 1) ht (wpAny_mono (q.at ⟨e1, ht⟩ e2) (fun _ s₃ ⟨e1, e2, q⟩ ht => ?_) fun v s' q _ => False.elim (show False from q.2.2))
  exact wpAny_mono (q.at ⟨e1, ht⟩ e2) (fun _ s' q => q) fun v s' q => False.elim (show False from q.2.2)
theorem h_exc {K : Frag} {cv : Value} {b : Bool} {Q : PostV Bool} (X : K.In h) (x : ExAt h e cls a0) (hx : exmOne K cls cv = some b) (q : Q b h g) : WP c A (excMatches (.ref e) cv) Q E h g := by
  intro tk
  obtain ⟨oe, vs, h1, h2, h3, h4⟩ := x.ob
  have LT : Looks c.M h (typeOf (.ref e)) cls := by
    subst h2
    exact (Looks.ld h1).andThen .now
  exact (exm_one X LT hx).here (s := ⟨h, g, c.d, tk + (c.b + 1), c.o⟩) ⟨rfl, rfl, q⟩
theorem s_gone {nm : Str} {pos : Pos} {m : Str → Option Value} {Q : PostV Unit} (hn : h.Ns env.locals m)
    (q : ∀ h' v, h'.Ns env.locals (fun x => if x = nm then v else m x) → Heap.SameBut env.locals h h' → Q () h' g)
    (hl : env.kindOf nm = some .local := by rfl) (hp : (env.scope.kind == .class || (env.scope.kind == .module && env.locals != env.globals)) = false := by rfl) :
    WP c A (do bindName env nm .none; unbindBehindTheSuite env nm pos) Q E h g := fun tk =>
  wpAny_nameGoes_keeps (s := ⟨h, g, c.d, tk + (c.b + 1), c.o⟩) hl hn hp fun h' v h1 h2 => ⟨rfl, rfl, q h' v h1 h2⟩
end
end Mine
end

noncomputable section
open PySem PySem.W PySem.Calls PyProof.Rows
set_option Elab.async false
set_option maxRecDepth 100000
set_option linter.unusedVariables false
set_option maxHeartbeats 2000000
set_option pp.deepTerms false
set_option pp.deepTerms.threshold 6
set_option pp.maxSteps 2000
namespace Mine
theorem tc_bindB (self : Value) : bindSpecial (.builtin "BaseException.__str__") self = pure (.builtin "BaseException.__str__", [self]) := by
  exact PySem.F.excStr_Exception.str.bind self
section
variable {c : Cx} {F : Fix} {A : Around} {n : Nat} {E : PostV Value} {h h' gg : Heap} {g : Gens} {name : Str} {scope : Scope} {L a : Addr} {cd : Value}
theorem x_raise {x : Str} {C : Addr} {B newId initId : String} {bm : List Value} {np cpos pos : Pos} {e₀ : Expr} {rest : List Stmt} {Q : PostV Flow} (S : St F) (O : OwnCls x C bm newId F.mg F.H) (FB : ExcBaseFacts B newId initId bm) (hh : A.handled = none)
    (st : ∀ b o, F.H.get? b = some o → h.get? b = some o)
    (y : WP c A (eval e₀ (envOf name scope L a cd)) (fun v h₁ g₁ => (∀ b o, F.H.get? b = some o → h₁.get? b = some o) ∧ ∀ h' e, Heap.MadeExcOf h₁ h' e (.ref C) [v] → E (.ref e) h' g₁) E h g)
    (he : starEach [e₀] (envOf name scope L a cd) = (false, eval e₀ (envOf name scope L a cd)) :: starEach [] (envOf name scope L a cd) := by rfl)
    (hk : scope.kind = .function := by rfl) (hx : (envOf name scope L a cd).kindOf x = some .globalImplicit := by rfl) (hd : (x == ("__debug__" : Str)) = false := by decide) :
    WP c A (execs (.Raise (some (.Call (.Name x np) [e₀] [] cpos)) none pos :: rest) (envOf name scope L a cd)) Q E h g := by
  refine x_cons fun tk => ?_
  obtain ⟨tl, N, nm, q, bs, hdct, sn, sub, ab, col, dd, k0, k1, k2, k3, k5, mN, hC, hN, hni, T⟩ := O.obj
  refine wpAny_Raise_call_subT (C := C) (nm := nm) (q := q) (N := N) (bs := bs) (bm := tl) (hdct := hdct) (sn := sn) (sub := sub) (ab := ab) (col := col) (dd := dd) (k0 := k0) (k1 := k1) (k2 := k2) (k3 := k3) (k5 := k5)
    FB (mN := mN) (T.hasType FB.hasBase) hh (by rw [he]; rfl) hni ?_
  refine Calls.Name_function_global hk hx (Calls.loadGlobal_global (env := envOf name scope L a cd) (S.g.keeps st) O.bound ⟨rfl, ?_⟩) hd
  rw [he]
  refine Calls.evalArgs_plain (Calls.spliced_cons (y.step fun v s' e1 e2 q => ?_))
  exact Calls.spliced_nil ⟨rfl, (by show (1:Nat) ≤ sizeLine; rw [sizeLine_eq]; omega), q.1 _ _ hC, hN.keeps q.1, T.keeps q.1, fun h' e hm => ⟨e1.1, e2, q.2 h' e hm⟩⟩
theorem ExAt.looks {M : Model} {e : Addr} {cls a0 : Value} (x : ExAt h e cls a0) : Looks M h (typeOf (.ref e)) cls := by
  obtain ⟨oe, vs, h1, rfl, h3, h4⟩ := x.ob
  exact (Looks.ld h1).andThen .now
theorem bexc_entry {prog : Program} {w : World} {E : Value → Shared → Prop} {s : Shared} {e t0 : Addr} {cls : Value} {mt : Str} {tk : Tok} {Q : PySem.Fin → Shared → Prop} (x : ExAt s.heap e cls (.ref t0)) (ht : s.heap.TupAt t0 [.str mt tk]) (hq : Q (.done (.ret (.str mt tk))) s) :
    wpAny (model prog w) A (Builtin.«BaseException.__str__» ⟨[.ref e], []⟩) Q E s := by
  unfold Builtin.«BaseException.__str__»
  obtain ⟨o, vs, ho, _, hd, h0⟩ := x.ob
  obtain ⟨ot, k, hto, _, htd⟩ := ht
  have key : ∀ {Q : Value × List Value → Shared → Prop}, Q (.ref t0, [.str mt tk]) s → wpAny (model prog w) A (Builtin.BaseException.bexcArgs (.ref e)) Q E s := fun {Q} hq => by
    unfold Builtin.BaseException.bexcArgs
    exact wpAny_bind (wpAny_field ho hd h0 (wpAny_bind (wpAny_seqItems hto htd (wpAny_pure hq))))
  repeat (first | with_reducible refine key ?_ | wp_step)
  exact hq
/-- str of an exception of the program's own class -/
theorem str_exc {K : Frag} {e C t0 : Addr} {mt : Str} {tk0 : Tok} {Q : PostV Value} (hu : A.in1.in1.units < cLine) (X : K.In h) (x : ExAt h e (.ref C) (.ref t0)) (ht : h.TupAt t0 [.str mt tk0])
    (hs : findIn K (.ref C) "__str__" = some (some (.builtin "BaseException.__str__"))) (hm : mroIn K C (.type "BaseException") = some true) (hq : Q (.str mt tk0) h g) :
    WP c A (call (.type "str") [.ref e]) Q E h g := by
  intro tk
  refine callType_codes (T := "str") (Bi := Builtin.«object.__init__») (Q₁ := fun r s₁ => r = .str mt tk0 ∧ s₁ = ⟨h, g, c.d, tk + (c.b + 1), c.o⟩) PySem.F.called_str (PySem.F.typeCall_str_1 _) PySem.F.entry_object_init ?_ ?_
  · refine codeAny_of_tree ?_
    show wpAny _ A.in1.in1 (do checkBuiltinCall "str.__new__" ⟨[.type "str", .ref e], []⟩; again (.builtin "str.__new__" ⟨[.type "str", .ref e], []⟩)) _ _ _
    refine wpAny_bind (wpAny_of_eq (PySem.F.newCall_str_1 _) (wpAny_pure ⟨plainId_quiet (by decide +kernel) _, codeAny_builtin PySem.F.entry_str_new ?_⟩))
    rw [Around.under_plainId (by decide +kernel) _]
    rw [str_new_tree]
    refine wpAny_bind (wpAny_pure ?_)
    refine wpAny_bind (wpAny_of_eq isSubtype_str_str ?_)
    refine wpAny_bind (wpAny_mono (Q := fun r s₁ => r = .str mt tk0 ∧ s₁ = ⟨h, g, c.d, tk + (c.b + 1), c.o⟩) ?_ (fun r s₁ hr => wpAny_pure hr) fun _ _ y => y)
    unfold PySem.Builtin.Str.strOf
    rw [show PySem.Builtin.Str.isExactStr (.ref e) = false from rfl]
    refine wpAny_bind (m := cRoomFor _ _) (wpAny_cRoomFor hu ?_)
    refine wpAny_bind (m := callSpecial? (.ref e) (Str.ofString "__str__")) (wpAny_mono (Q := fun r s₁ => r = some (.str mt tk0) ∧ s₁ = ⟨h, g, c.d, tk + (c.b + 1), c.o⟩) ?_ (fun r s₁ hr => ?_) fun _ _ y => y)
    · refine wpAny_bind (wpAny_bind (x.looks.here ((looks_findIn X hs).here (wpAny_holding (wpAny_bind ((Looks.of_pure (M := c.M) (tc_bindB _)).here (wpAny_bind (wpAny_mono (Q := fun r s₁ => r = .str mt tk0 ∧ s₁ = ⟨h, g, c.d, tk + (c.b + 1), c.o⟩) ?_ (fun _ _ z => wpAny_pure ⟨congrArg some z.1, z.2⟩) fun _ _ z => z))))))))
      refine wpAny_call (codeAny_call_builtin PySem.F.excStr_Exception.str.plain PySem.F.entry_bexc_str (check_slot (i := "BaseException.__str__") (owner := "BaseException") (n := "__str__") (by decide +kernel) (by decide +kernel) (x.looks.andThen (looks_mroIn X hm)) (PySem.F.args_bexc_str _) ?_))
      exact bexc_entry (s := ⟨h, g, c.d, tk + (c.b + 1), c.o⟩) x ht ⟨rfl, rfl⟩
    · obtain ⟨rfl, rfl⟩ := hr
      exact wpAny_pure ⟨rfl, rfl⟩
  · rintro obj s₁ ⟨rfl, rfl⟩
    exact ⟨typeIs_str _ _ _, PySem.F.args_object_init_2 _ _, object_init_meets PySem.F.called_str.init.lookup PySem.F.called_str.made (by decide) _ _ A.in1 _ _ ⟨typeIs_str _ _ _, rfl, rfl, rfl, hq⟩⟩
end
end Mine
end

noncomputable section
open PySem PySem.W PySem.Calls PyProof.Rows
set_option Elab.async false
set_option maxRecDepth 100000
set_option linter.unusedVariables false
set_option maxHeartbeats 2000000
set_option pp.deepTerms false
set_option pp.deepTerms.threshold 6
set_option pp.maxSteps 2000
namespace Mine
/-- the piece of the logic under the caller -/
def WC {α : Type} (c : Cx) (A : Around) (t : Sem α) (Q : PostV α) (E : PostV Value) (h : Heap) (g : Gens) : Prop :=
  ∀ tk : Nat, wpC c.M A t (fun a s' => s'.drawn = c.d ∧ s'.os = c.o ∧ Q a s'.heap s'.gens) (fun e s' => s'.drawn = c.d ∧ s'.os = c.o ∧ E e s'.heap s'.gens) ⟨h, g, c.d, tk + (c.b + 1), c.o⟩
section
variable {α β : Type} {c : Cx} {A : Around} {E : PostV Value} {h : Heap} {g : Gens} {env : Env}
theorem WC.of {t : Sem α} {Q : PostV α} (x : WP c A t Q E h g) : WC c A t Q E h g := fun tk => wpC_of (x tk)
theorem WC.at {t : Sem α} {Q : PostV α} {s : Shared} (x : WC c A t Q E s.heap s.gens) (e1 : s.drawn = c.d ∧ c.b + 1 ≤ s.toks) (e2 : s.os = c.o) :
    wpC c.M A t (fun a s' => s'.drawn = c.d ∧ s'.os = c.o ∧ Q a s'.heap s'.gens) (fun e s' => s'.drawn = c.d ∧ s'.os = c.o ∧ E e s'.heap s'.gens) s := by
  obtain ⟨h, g, d, tk, o⟩ := s
  obtain ⟨e1, e3⟩ := e1
  dsimp only at e1 e2 e3
  subst e1 e2
  obtain ⟨k, rfl⟩ : ∃ k, tk = k + (c.b + 1) := ⟨tk - (c.b + 1), by omega⟩
  exact x k
theorem wpC_with_toks {M : Model} {t : Sem α} {Q : α → Shared → Prop} {E : Value → Shared → Prop} {s : Shared} {n : Nat} (hn : n ≤ s.toks) (x : wpC M A t (fun a s' => n ≤ s'.toks → Q a s') (fun e s' => n ≤ s'.toks → E e s') s) : wpC M A t Q E s := fun Γ p hΓ hC => by
  exact Sem.wp_mono M Γ t (fun _ _ _ y => y.2 y.1) (fun _ _ _ y => y.2 y.1) p s (Sem.wp_toks M Γ n t _ _ p s hn (x Γ p hΓ hC))
end
theorem wp_append (M : Model) (Γ : Ctx) (env : Env) (b : List Stmt) {Q : Flow → Pos → Shared → Prop} {E : Value → Pos → Shared → Prop} : ∀ (a : List Stmt) (p : Pos) (s : Shared),
    Sem.wp M Γ (execs a env) (fun f p' s' => match f with | .next => Sem.wp M Γ (execs b env) Q E p' s' | f => Q f p' s') E p s → Sem.wp M Γ (execs (a ++ b) env) Q E p s
  | [], p, s, h => h
  | st :: a, p, s, h => by
    rw [List.cons_append, execs_cons, Sem.wp_bind']
    rw [execs_cons, Sem.wp_bind'] at h
    refine Sem.wp_mono M Γ _ (fun f p' s' h' => ?_) (fun _ _ _ h' => h') _ _ h
    cases f <;> first | exact wp_append M Γ env b a p' s' h' | exact h'
section
variable {α β : Type} {c : Cx} {A : Around} {E : PostV Value} {h : Heap} {g : Gens} {env : Env}
theorem WC.stepAt {t : Sem α} {Q : PostV α} {s : Shared} {X : α → Shared → Prop} (x : WC c A t Q E s.heap s.gens) (e1 : s.drawn = c.d ∧ c.b + 1 ≤ s.toks) (e2 : s.os = c.o)
    (k : ∀ a s', s'.drawn = c.d ∧ c.b + 1 ≤ s'.toks → s'.os = c.o → Q a s'.heap s'.gens → X a s') :
    wpC c.M A t X (fun e s' => s'.drawn = c.d ∧ s'.os = c.o ∧ E e s'.heap s'.gens) s :=
  wpC_with_toks (n := c.b + 1) e1.2 (wpC_mono (x.at e1 e2) (fun a s' ⟨e1, e2, q⟩ h => k a s' ⟨e1, h⟩ e2 q) fun _ _ e _ => e)
theorem WC.step {t : Sem α} {Q : PostV α} {tk : Nat} {X : α → Shared → Prop} (x : WC c A t Q E h g)
    (k : ∀ a s', s'.drawn = c.d ∧ c.b + 1 ≤ s'.toks → s'.os = c.o → Q a s'.heap s'.gens → X a s') :
    wpC c.M A t X (fun e s' => s'.drawn = c.d ∧ s'.os = c.o ∧ E e s'.heap s'.gens) ⟨h, g, c.d, tk + (c.b + 1), c.o⟩ :=
  WC.stepAt (s := ⟨h, g, c.d, tk + (c.b + 1), c.o⟩) x ⟨rfl, Nat.le_add_left _ _⟩ rfl k
theorem WC.mono {t : Sem α} {Q Q' : PostV α} {E' : PostV Value} (x : WC c A t Q E h g) (k : ∀ a h' g', Q a h' g' → Q' a h' g') (k' : ∀ e h' g', E e h' g' → E' e h' g') : WC c A t Q' E' h g :=
  fun tk => wpC_mono (x tk) (fun _ _ ⟨e1, e2, q⟩ => ⟨e1, e2, k _ _ _ q⟩) fun _ _ ⟨e1, e2, q⟩ => ⟨e1, e2, k' _ _ _ q⟩
theorem WC.monoQ {t : Sem α} {Q Q' : PostV α} (x : WC c A t Q E h g) (k : ∀ a h' g', Q a h' g' → Q' a h' g') : WC c A t Q' E h g := x.mono k fun _ _ _ e => e
theorem WC.abs {t : Sem α} {Q : PostV α} (k : ∀ Q' : PostV α, (∀ v h g, Q v h g → Q' v h g) → WC c A t Q' E h g) : WC c A t Q E h g := k Q fun _ _ _ q => q
theorem wc_nil {Q : PostV Flow} (q : Q .next h g) : WC c A (execs [] env) Q E h g := .of (x_nil q)
theorem wc_cons {st rest} {Q : PostV Flow} (x : WC c A (exec st env) (fun f h' g' => match f with | .next => WC c A (execs rest env) Q E h' g' | f => Q f h' g') E h g) :
    WC c A (execs (st :: rest) env) Q E h g := fun tk => by
  rw [execs_cons]
  refine wpC_bind (x.step fun f s' e1 e2 q => ?_)
  cases f <;> first | exact q.at e1 e2 | exact wpC_pure ⟨e1.1, e2, q⟩
theorem wp_app {a b : List Stmt} {Q : PostV Flow} (x : WP c A (execs a env) (fun f h' g' => match f with | .next => WP c A (execs b env) Q E h' g' | f => Q f h' g') E h g) : WP c A (execs (a ++ b) env) Q E h g := fun tk Γ p hΓ => by
  refine wp_append _ Γ env b a p _ ?_
  have b0 : c.b + 1 ≤ tk + (c.b + 1) := Nat.le_add_left _ _
  refine Sem.wp_mono _ Γ _ (fun f p' s' y => ?_) (fun _ _ _ y => ?_) _ _ (Sem.wp_toks _ Γ (c.b + 1) _ _ _ p _ b0 (x tk Γ p hΓ))
  · obtain ⟨ht, e1, e2, q⟩ := y
    cases f <;> first | exact (WP.at q ⟨e1, ht⟩ e2) Γ p' hΓ | exact ⟨e1, e2, q⟩
  · exact y.2
theorem wc_app {a b : List Stmt} {Q : PostV Flow} (x : WC c A (execs a env) (fun f h' g' => match f with | .next => WC c A (execs b env) Q E h' g' | f => Q f h' g') E h g) : WC c A (execs (a ++ b) env) Q E h g := fun tk Γ p hΓ hC => by
  refine wp_append _ Γ env b a p _ ?_
  have b0 : c.b + 1 ≤ tk + (c.b + 1) := Nat.le_add_left _ _
  refine Sem.wp_mono _ Γ _ (fun f p' s' y => ?_) (fun _ _ _ y => ?_) _ _ (Sem.wp_toks _ Γ (c.b + 1) _ _ _ p _ b0 (x tk Γ p hΓ hC))
  · obtain ⟨ht, e1, e2, q⟩ := y
    cases f <;> first | exact (WC.at q ⟨e1, ht⟩ e2) Γ p' hΓ hC | exact ⟨e1, e2, q⟩
  · exact y.2
end
end Mine
end

noncomputable section
open PySem PySem.W PySem.Calls PyProof.Rows
set_option Elab.async false
set_option maxRecDepth 100000
set_option linter.unusedVariables false
set_option maxHeartbeats 2000000
set_option pp.deepTerms false
set_option pp.deepTerms.threshold 6
set_option pp.maxSteps 2000
namespace Mine
section
variable {c : Cx} {F : Fix} {A : Around} {n : Nat} {E : PostV Value} {h : Heap} {g : Gens} {env : Env}
theorem wpC_keep {α : Type} {M : Model} {E : Value → Shared → Prop} {s : Shared} {vs : List Value} {m : Sem α} {Q : α → Shared → Prop} (h : wpC M A m Q E s) : wpC M A (m.keep vs) Q E s := fun Γ p hΓ hC => by rw [Sem.wp_keep]; exact h Γ p hΓ hC
theorem wpC_callWith {M : Model} {E : Value → Shared → Prop} {s : Shared} {pos : Pos} {a : Addr} {o : Obj} {fd : FuncData} {args : List (Bool × Sem Value)} {Q : Value → Shared → Prop}
    (h : wpC M A (evalArgs (.ref a) true args []) (fun x s₁ => (s₁.heap.get? a = some o ∧ o.data = .func fd) ∧ wpC M A (call (.ref a) ([] ++ x.pos) x.kw) Q E s₁) E s) :
    wpC M A (callWith pos (.ref a) [] args []) Q E s := by
  unfold callWith
  refine wpC_bind (wpC_holding (wpC_mono h (fun x s₁ h₁ => wpC_bind (wpC_standAt ?_)) fun _ _ x => x))
  have tail : ∀ {t : Sem Value}, wpC M A t Q E s₁ → wpC M A (t >>= fun r => holding [r] point >>= fun _ => pure r) Q E s₁ :=
    fun ht => wpC_bind (wpC_mono ht (fun r s₂ hr => wpC_bind (wpC_holding (wpC_point (wpC_pure hr)))) fun _ _ x => x)
  cases hs : args.any (·.1) <;> simp only [List.any_nil, Bool.or_false] <;>
    refine wpC_bind (m := keeperOf (.ref a)) ?_ <;> unfold keeperOf <;>
    refine wpC_bind (wpC_of (wpAny_load h₁.1.1 ?_)) <;> rw [h₁.1.2] <;> refine wpC_pure ?_
  · show wpC M A (if _ then _ else _) _ _ _
    split
    · exact tail h₁.2
    · exact tail (by unfold callMarked; exact wpC_keep h₁.2)
  · exact tail (by unfold callMarked; exact wpC_keep h₁.2)
theorem wc_fn {i : Nat} {fa : Addr} {cd : Value} {pos : Pos} {e : Expr} {es : List Expr} {Q : PostV Value} (hf : FnAt F.H F.mg i fa cd)
    (x : WP c A (spliced (backTo pos (starEach (e :: es) env))) (fun vs h₁ g₁ => (∀ b o, F.H.get? b = some o → h₁.get? b = some o) ∧ WC c A (call (.ref fa) vs) Q E h₁ g₁) E h g)
    (he : starEach (e :: es) env = (false, eval e env) :: starEach es env := by rfl) (hp : (backTo pos (starEach es env)).any (·.1) = false := by rfl) :
    WC c A (callWith pos (.ref fa) [] (backTo pos (starEach (e :: es) env)) []) Q E h g := by
  intro tk
  obtain ⟨o, pm, doc, h1, h2, h3⟩ := hf.ob
  refine wpC_callWith (o := o) (fd := docDef (recAt i).name (recAt i).params (recAt i).body (recAt i).scope pm cd doc) ?_
  rw [back_cons he] at x ⊢
  refine wpC_of (Calls.evalArgs_plain ?_)
  exact x.step fun vs s' e1 e2 q => ⟨⟨q.1 _ _ h1, h2⟩, q.2.at e1 e2⟩
theorem wc_ecall {x : Str} {np pos : Pos} {args : List Expr} {Q : PostV Value} (y : WP c A (eval (.Name x np) env) (fun f h₁ g₁ => WC c A (callWith pos f [] (backTo pos (starEach args env)) []) Q E h₁ g₁) E h g) :
    WC c A (eval (.Call (.Name x np) args [] pos) env) Q E h g := by
  intro tk
  show wpC c.M A (do callWith pos (← eval (.Name x np) env) [] (backTo pos (starEach args env)) (backToKw pos (keywordEach [] env))) _ _ _
  exact wpC_bind (wpC_of (y.step fun f s' e1 e2 q => q.at e1 e2))
theorem wc_ret {e pos rest} {Q : PostV Flow} (x : WC c A (eval e env) (fun v h' g' => Q (.ret v) h' g') E h g) : WC c A (execs (.Return (some e) pos :: rest) env) Q E h g := by
  refine wc_cons fun tk => ?_
  rw [exec_Return_some]
  exact wpC_bind (wpC_standAt (wpC_bind (x.step fun v s' e1 e2 q => wpC_pure ⟨e1.1, e2, q⟩)))
theorem wc_callfn {i : Nat} {fa : Addr} {cd : Value} {nm : Str} {ps : Arguments} {bd : List Stmt} {sc : Scope} {pos : Pos} {vals : List Value} {binds : List (Str × Value)} {Q : PostV Value}
    (S : St F) (O : Ok F h g) (hA : AOk A n) (hn : n ≤ 50) (hf : FnAt F.H F.mg i fa cd)
    (hrec : recAt i = ⟨nm, ps, bd, sc, pos⟩)
    (hbind : ∀ pm doc, bindArgs (docDef nm ps bd sc pm cd doc) ⟨vals, []⟩ = pure binds)
    (hloc : (binds.all fun x => decide (sc.names.lookup x.1 = some .local)) = true)
    (hcell : (sc.names.all fun x => x.2 != .cell) = true)
    (x : ∀ L h₁, Lg F (baseOf F h) L (fun y => binds.reverse.lookup y) [] h₁ → AOk (A.deeper (envOf nm sc L fa cd)) (n + 1) →
      WC c (A.deeper (envOf nm sc L fa cd)) (execs bd (envOf nm sc L fa cd)) (fun f h' g' => Q (match f with | .ret v => v | _ => .none) h' g')
        (fun e h' g' => WP c (A.deeper (envOf nm sc L fa cd)) (leaving (envOf nm sc L fa cd) e) (fun _ h'' g'' => E e h'' g'') E h' g') h₁ g)
    (hco : sc.isCoroutine = false := by rfl) (hgen : sc.isGenerator = false := by rfl) (hk : sc.kind = .function := by rfl) :
    WC c A (call (.ref fa) vals) Q E h g := by
  intro tk
  obtain ⟨o, pm, doc, h1, h2, h3⟩ := hf.ob
  rw [hrec] at h2 h3
  refine wpC_call (codeC_call_function (s := ⟨h, g, c.d, tk + (c.b + 1), c.o⟩) (hA.room (by omega)) (O.base _ _ h1) h2 hco hgen rfl (h3.keeps O.base) ?_)
  rw [hbind]
  refine wpAny_pure (wpAny_newFunctionEnv (fun y hy q => ?_) (locs hloc) (fun h₁ hns hsb => ⟨(S.nolimit.keeps O.base).fresh _ hsb, ?_⟩) hk)
  · have := List.all_eq_true.mp hcell y hy
    rw [q] at this; cases this
  show codeC _ _ (.func bd (envOf nm sc h.objs.size fa cd)) _ _
  have D := Lg.enter S.sep O hns Lg.get_size (fun b o e => hsb.extBut b o (Nat.ne_of_lt (Heap.lt_size e)) (Heap.get?_push_of_some _ e))
  have h1 : c.b + 1 ≤ tk + (c.b + 1) + binds.length := by omega
  refine codeC_func (wpC_with_toks (n := c.b + 1) h1 (wpC_mono ((x _ h₁ D (hA.deeper _)).at (s := ⟨h₁, g, c.d, tk + (c.b + 1) + binds.length, c.o⟩) ⟨rfl, h1⟩ rfl) (fun f s' ⟨e1, e2, q⟩ _ => ⟨e1, e2, q⟩) fun e s' ⟨e1, e2, q⟩ ht => ?_))
  exact wpC_of (wpAny_mono (q.at ⟨e1, ht⟩ e2) (fun _ _ z => z) fun _ _ z => z)
end
end Mine
end

noncomputable section
open PySem PySem.W PySem.Calls PyProof.Rows
set_option Elab.async false
set_option maxRecDepth 100000
set_option linter.unusedVariables false
set_option maxHeartbeats 2000000
set_option pp.deepTerms false
set_option pp.deepTerms.threshold 6
set_option pp.maxSteps 2000
namespace Mine
def CC (c : Cx) (A : Around) (cd : Code) (R : PostV Result) (h : Heap) (g : Gens) : Prop :=
  ∀ tk : Nat, codeC c.M A cd (fun r s' => s'.drawn = c.d ∧ s'.os = c.o ∧ R r s'.heap s'.gens) ⟨h, g, c.d, tk + (c.b + 1), c.o⟩
section
variable {c : Cx} {F : Fix} {A : Around} {n : Nat} {E : PostV Value} {h : Heap} {g : Gens} {env : Env}
theorem CC.at {cd : Code} {R : PostV Result} {s : Shared} (x : CC c A cd R s.heap s.gens) (e1 : s.drawn = c.d ∧ c.b + 1 ≤ s.toks) (e2 : s.os = c.o) :
    codeC c.M A cd (fun r s' => s'.drawn = c.d ∧ s'.os = c.o ∧ R r s'.heap s'.gens) s := by
  obtain ⟨h, g, d, tk, o⟩ := s
  obtain ⟨e1, e3⟩ := e1
  dsimp only at e1 e2 e3
  subst e1 e2
  obtain ⟨k, rfl⟩ : ∃ k, tk = k + (c.b + 1) := ⟨tk - (c.b + 1), by omega⟩
  exact x k
theorem wc_assign {n pos' value pos rest} {Q : PostV Flow} (x : WC c A (eval value env) (fun v h₁ g₁ => WP c A (storeName env n v) (fun _ h₂ g₂ => WC c A (execs rest env) Q E h₂ g₂) E h₁ g₁) E h g)
    (hs : swapsWith value (some (.Name n pos')) pos.line env = pure false := by rfl) :
    WC c A (execs (.Assign [.Name n pos'] value pos :: rest) env) Q E h g := by
  refine wc_cons fun tk Γ p hΓ hC => ?_
  simp only [exec_Assign_Name env n pos' value pos hs, Sem.wp_bind', Sem.wp_cmd_standAt, Sem.wp_bindName, Sem.wp_pure']
  have b0 : c.b + 1 ≤ tk + (c.b + 1) := Nat.le_add_left _ _
  refine Sem.wp_mono _ Γ _ (fun v p' s₁ y => ?_) (fun _ _ _ y => y.2) _ _ (Sem.wp_toks _ Γ (c.b + 1) _ _ _ _ _ b0 (x tk Γ _ hΓ hC))
  obtain ⟨ht, e1, e2, q⟩ := y
  exact (q.stepAt ⟨e1, ht⟩ e2 fun _ s₂ e1 e2 q => ⟨e1.1, e2, q⟩) Γ _ hΓ
theorem wc_if_cmp {l op r cpos body orelse pos rest} {Q : PostV Flow}
    (x : WC c A (eval l env) (fun a h₁ g₁ => WP c A (eval r env) (fun b h₂ g₂ => WP c A (compareOp op a b) (fun v h₃ g₃ => WP c A (truthy v) (fun b h₁ g₁ => WC c A (if b = true then execs body env else execs orelse env) (fun f h' g' => match f with | .next => WC c A (execs rest env) Q E h' g' | f => Q f h' g') E h₁ g₁) E h₃ g₃) E h₂ g₂) E h₁ g₁) E h g)
    (hm : behindInMarks op r = false := by with_unfolding_all rfl) : WC c A (execs (.If (.Compare l [op] [r] cpos) body orelse pos :: rest) env) Q E h g := by
  refine wc_cons fun tk Γ p hΓ hC => ?_
  simp only [exec_If, isTrue_Compare1, markedBehindIn_of_false hm, Sem.wp_bind', Sem.wp_holding, Sem.wp_cmd_standAt, Sem.wp_operate]
  have b0 : c.b + 1 ≤ tk + (c.b + 1) := Nat.le_add_left _ _
  refine Sem.wp_mono _ Γ _ (fun v p' s₁ y => ?_) (fun _ _ _ y => y.2) _ _ (Sem.wp_toks _ Γ (c.b + 1) _ _ _ _ _ b0 (x tk Γ _ hΓ hC))
  obtain ⟨ht, e1, e2, q⟩ := y
  refine Sem.wp_mono _ Γ _ (fun v p' s₁ y => ?_) (fun _ _ _ y => y.2) _ _ (Sem.wp_toks _ Γ (c.b + 1) _ _ _ _ _ ht (q.at ⟨e1, ht⟩ e2 Γ _ hΓ))
  obtain ⟨ht, e1, e2, q⟩ := y
  refine Sem.wp_mono _ Γ _ (fun v p' s₁ y => ?_) (fun _ _ _ y => y.2) _ _ (Sem.wp_toks _ Γ (c.b + 1) _ _ _ _ _ ht (q.at ⟨e1, ht⟩ e2 Γ _ hΓ))
  obtain ⟨ht, e1, e2, q⟩ := y
  refine Sem.wp_mono _ Γ _ (fun v p' s₁ y => ?_) (fun _ _ _ y => y.2) _ _ (Sem.wp_toks _ Γ (c.b + 1) _ _ _ _ _ ht (q.at ⟨e1, ht⟩ e2 Γ _ hΓ))
  obtain ⟨ht, e1, e2, q⟩ := y
  exact q.at ⟨e1, ht⟩ e2 Γ _ hΓ hC
theorem wc_try {body : List Stmt} {h₀ : ExceptHandler} {hs : List ExceptHandler} {pos : Pos} {rest : List Stmt} {Q : PostV Flow}
    (x : WC c A (execs body env) (fun f h₁ g₁ => (match f with | .next => False | f => Q f h₁ g₁))
      (fun e h₁ g₁ => WP c A (noteFrame e env) (fun _ h₂ g₂ => WP c A (setFlight e none) (fun _ h₃ g₃ => WP c A (handleBy e env (h₀ :: hs)) (fun f h₁ g₁ => (match f with | .next => False | f => Q f h₁ g₁)) E h₃ g₃) E h₂ g₂) E h₁ g₁) h g) :
    WC c A (execs (.Try body (h₀ :: hs) [] [] pos :: rest) env) Q E h g := by
  refine wc_cons fun tk => ?_
  rw [arm_exec_Try]
  refine wpC_bind (wpC_standAt ?_)
  unfold tryStmt
  simp only [List.isEmpty_nil, if_true, List.isEmpty_cons, Bool.false_and, Bool.false_eq_true, if_false]
  have b0 : c.b + 1 ≤ tk + (c.b + 1) := Nat.le_add_left _ _
  refine wpC_bind (wpC_attempt (wpC_with_toks (n := c.b + 1) b0 (wpC_mono (x tk) (fun f s' ⟨e1, e2, q⟩ ht => ?_) fun e s' ⟨e1, e2, q⟩ ht => ?_)))
  · cases f <;> first | exact q.elim | exact wpC_pure ⟨e1, e2, q⟩
  · refine wpC_of ?_
    refine wpAny_bind (q.stepAt ⟨e1, ht⟩ e2 fun _ s₂ e1 e2 q => wpAny_bind (q.stepAt e1 e2 fun _ s₃ e1 e2 q => q.stepAt e1 e2 fun f s₄ e1 e2 q => ⟨e1.1, e2, ?_⟩))
    cases f <;> first | exact q.elim | exact q
theorem wc_for {target iter body pos rest} {Q : PostV Flow}
    (x : WP c A (eval iter env) (fun xv h₁ g₁ => WP c A (pyIter xv) (fun it h₂ g₂ =>
      CC c A (.forLoop target it body [] env) (fun r h' g' => match r with | .ok .next => WC c A (execs rest env) Q E h' g' | .ok f => Q f h' g' | .error _ => False) h₂ g₂) E h₁ g₁) E h g)
    (hs : ∀ x, foldedSetIterable iter env x = pure x := by intro _; rfl) : WC c A (execs (.For target iter body [] pos :: rest) env) Q E h g := by
  refine wc_cons fun tk => ?_
  rw [exec_For]
  refine wpC_bind (wpC_standAt (wpC_bind (wpC_of (x.step fun xv s₁ e1 e2 q => wpC_bind (wpC_of (wpAny_of_eq (hs xv) ?_))))))
  refine wpC_bind (wpC_standAt (wpC_bind (wpC_holding (wpC_of (q.stepAt e1 e2 fun it s₂ e1 e2 q => ?_)))))
  unfold runOwn
  refine wpC_onRaise (wpC_run (codeC_mono (q.at e1 e2) (fun r s' ⟨e1, e2, q⟩ => ?_)))
  cases r with
  | ok f => cases f <;> exact ⟨e1, e2, q⟩
  | error _ => exact q.elim
theorem flc_ind {target it body} {R : PostV Result} {N : Nat} (J : Nat → Heap → Gens → Prop) (h0 : J 0 h g)
    (step : ∀ i h g, i < N → J i h g → WP c A (pyNext it) (fun o h₁ g₁ => ∃ v, o = some v ∧ WP c A (letOwnedTupleGo target it v) (fun _ h₁ g₁ => WP c A (assign target env v) (fun _ h₂ g₂ => WC c A (execs body env)
      (fun f h₃ g₃ => match f with | .next | .cont => J (i + 1) h₃ g₃ | .brk => R (.ok .next) h₃ g₃ | .ret v => R (.ok (.ret v)) h₃ g₃) F0 h₂ g₂) F0 h₁ g₁) F0 h₁ g₁) F0 h g)
    (done : ∀ h g, J N h g → WP c A (pyNext it) (fun o h₁ g₁ => o = none ∧ R (.ok .next) h₁ g₁) F0 h g) : CC c A (.forLoop target it body [] env) R h g := by
  intro tk
  refine codeC_loop rfl (fun k s => (s.drawn = c.d ∧ c.b + 1 ≤ s.toks) ∧ s.os = c.o ∧ ∃ i, i ≤ N ∧ k = N - i ∧ J i s.heap s.gens) (fun k s hI => ?_) N ⟨⟨rfl, Nat.le_add_left _ _⟩, rfl, 0, Nat.zero_le _, rfl, h0⟩
  obtain ⟨e1, e2, i, hi, rfl, hJ⟩ := hI
  show wpC _ _ ((forTurn target it body [] env).onRaise (fun x => do noteFrame x env; theTreesLotGoes x)) _ _ s
  refine wpC_onRaise ?_
  simp only [forTurn]
  refine wpC_bind (wpC_standAt (wpC_bind (wpC_onRaise ?_)))
  by_cases hlt : i < N
  · refine wpC_of (wpAny_mono ((step i _ _ hlt hJ).stepAt e1 e2 fun o s₁ e1 e2 q => ?_) (fun _ _ q => q) fun _ _ ⟨_, _, f⟩ => f.elim)
    obtain ⟨v, rfl, q⟩ := q
    refine wpC_bind (wpC_of (wpAny_mono (q.stepAt e1 e2 fun _ s₂ e1 e2 q => ?_) (fun _ _ q => q) fun _ _ ⟨_, _, f⟩ => f.elim))
    refine wpC_bind (wpC_of (wpAny_mono (q.stepAt e1 e2 fun _ s₂ e1 e2 q => ?_) (fun _ _ q => q) fun _ _ ⟨_, _, f⟩ => f.elim))
    refine wpC_bind (wpC_mono (q.stepAt e1 e2 fun f s₃ e1 e2 q => ?_) (fun _ _ q => q) fun _ _ ⟨_, _, f⟩ => f.elim)
    cases f with
    | next => exact wpC_pure (.inl ⟨rfl, N - (i + 1), by omega, e1, e2, i + 1, hlt, rfl, q⟩)
    | cont => exact wpC_pure (.inl ⟨rfl, N - (i + 1), by omega, e1, e2, i + 1, hlt, rfl, q⟩)
    | brk => exact wpC_pure ⟨e1.1, e2, q⟩
    | ret v => exact wpC_pure ⟨e1.1, e2, q⟩
  · obtain rfl : i = N := by omega
    refine wpC_of (wpAny_mono ((done _ _ hJ).at e1 e2) (fun o s₁ ⟨e1, e2, q⟩ => ?_) fun _ _ ⟨_, _, f⟩ => f.elim)
    obtain ⟨rfl, q⟩ := q
    exact wpC_pure (.inr ⟨rfl, codeC_of (codeAny_block (wpAny_execs_nil ⟨e1, e2, q⟩))⟩)
/-- a turn of the loop, with what is behind it as a variable -/
theorem flc_abs {target it body} {R : PostV Result} {N : Nat} (J : Nat → Heap → Gens → Prop) (h0 : J 0 h g)
    (step : ∀ i h g, i < N → ∀ Q : PostV Flow, (∀ h g, J (i + 1) h g → Q .next h g) → J i h g → WP c A (pyNext it) (fun o h₁ g₁ => ∃ v, o = some v ∧ WP c A (letOwnedTupleGo target it v) (fun _ h₁ g₁ => WP c A (assign target env v) (fun _ h₂ g₂ => WC c A (execs body env) Q F0 h₂ g₂) F0 h₁ g₁) F0 h₁ g₁) F0 h g)
    (done : ∀ h g, J N h g → WP c A (pyNext it) (fun o h₁ g₁ => o = none ∧ R (.ok .next) h₁ g₁) F0 h g) : CC c A (.forLoop target it body [] env) R h g :=
  flc_ind J h0 (fun i h g hi hJ => step i h g hi _ (fun _ _ q => q) hJ) done
end
end Mine
end

noncomputable section
open PySem PySem.Builtin PySem.Builtin.Str PySem.W PySem.Calls PyProof.Rows
set_option Elab.async false
set_option maxRecDepth 100000
set_option linter.unusedVariables false
set_option maxHeartbeats 2000000
set_option pp.deepTerms false
set_option pp.deepTerms.threshold 6
set_option pp.maxSteps 2000
namespace Mine
section
variable {c : Cx} {F : Fix} {A : Around} {n : Nat} {E : PostV Value} {h : Heap} {g : Gens} {env : Env}
theorem o_find {x y : Str} {t u : Tok} {Q : PostV Value} (q : ∀ t, Q (.int (Txt.find x y) t) h g) : WP c A (call (.builtin "str.find") [.str x t, .str y u]) Q E h g := fun _ => SC.find ⟨rfl, rfl, q _⟩
theorem o_find3 {x y : Str} {i : Int} {t u v : Tok} {Q : PostV Value} (q : ∀ t, Q (.int (Txt.find3 x y i) t) h g) : WP c A (call (.builtin "str.find") [.str x t, .str y u, .int i v]) Q E h g := fun _ => SC.find3 ⟨rfl, rfl, q _⟩
theorem o_split {x y : Str} {t u : Tok} {Q : PostV Value} (hy : (y.length == 0) = false) (hsz : x.length + 2 ≤ sizeLine)
    (q : ∀ l : List (Str × Tok), l.map (·.1) = Txt.split x y → Q (.ref h.objs.size) (h.push { cls := .type "list", data := .seq (strValues l).toArray }) g) : WP c A (call (.builtin "str.split") [.str x t, .str y u]) Q E h g := by
  intro tk
  have hn : (partsBetween x (occurrences x y 0 x.length (x.length + 1)) y.length).length ≤ sizeLine := by
    have e1 := StrLaws.occ_length_le x y 0 x.length (x.length + 1)
    rw [length_partsBetween]; omega
  cases h1 : (decide (x.length < y.length) || decide (strKind x < strKind y))
  · cases hf : (occurrences x y 0 x.length (x.length + 1)).isEmpty
    · refine call_meets PySem.F.slot_str_split (typeIs_str _ _ _) PySem.F.entry_str_split (PySem.F.args_str_split_2 _ _) (meets_str_split_sep x y t u h1 hy hf (by omega) hn) ?_
      refine ⟨rfl, rfl, ?_⟩
      have := q (numbered (tk + (c.b + 1)) (partsBetween x (occurrences x y 0 x.length (x.length + 1)) y.length)) ((numbered_texts _ _).trans ((if_neg (ne_true_of_eq_false h1)).trans (if_neg (ne_true_of_eq_false hf))).symm)
      rw [← strsFrom_eq] at this
      exact this
    · exact call_meets PySem.F.slot_str_split (typeIs_str _ _ _) PySem.F.entry_str_split (PySem.F.args_str_split_2 _ _) (meets_str_split_not_found x y t u h1 hy hf)
        ⟨rfl, rfl, q [(x, t)] ((if_neg (ne_true_of_eq_false h1)).trans (if_pos hf)).symm⟩
  · exact call_meets PySem.F.slot_str_split (typeIs_str _ _ _) PySem.F.entry_str_split (PySem.F.args_str_split_2 _ _) (meets_str_split_cannot_occur x y t u h1)
      ⟨rfl, rfl, q [(x, t)] (if_pos h1).symm⟩
end
end Mine
end

noncomputable section
open PySem PySem.Builtin PySem.Builtin.Str PySem.W PySem.Calls PyProof.Rows
set_option Elab.async false
set_option maxRecDepth 100000
set_option linter.unusedVariables false
set_option maxHeartbeats 2000000
set_option pp.deepTerms false
set_option pp.deepTerms.threshold 6
set_option pp.maxSteps 2000
namespace Mine
inductive P229
  | reply | proto | val | num (n : Int)
/-- where the parts of a well-formed reply stand: the port's text -/
def part229 (y : Str) : Option Bool × Str :=
  if (Txt.slice y none (some 3) != Str.ofString "229") = true then (some true, y) else
  let l := Txt.find y (Str.ofString "(")
  if l < 0 then (some false, y) else
  let r := Txt.find3 y (Str.ofString ")") (l + 1)
  if r < 0 then (some false, y) else
  let a := y.cps.getD (l + 1).toNat 0
  let b := y.cps.getD (r - 1).toNat 0
  if ((⟨#[a]⟩ : Str) != ⟨#[b]⟩) = true then (some false, y) else
  let ps := Txt.split (Txt.slice y (some (l + 1)) (some r)) ⟨#[a]⟩
  if ps.length = 5 then (none, ps.getD 3 Str.empty) else (some false, y)
abbrev excB : List Value := [.type "Exception", .type "BaseException", .type "object"]
/-- the program's own classes -/
structure Ecls (F : Fix) (K : Frag) : Prop where
  X : K.In F.H
  o1 : OwnCls (Str.ofString "error_reply") 100 excB "Exception.__new__" F.mg F.H
  o2 : OwnCls (Str.ofString "error_proto") 112 excB "Exception.__new__" F.mg F.H
theorem split_len (x y : Str) : (Txt.split x y).length ≤ x.length + 2 := by
  unfold Txt.split
  split
  · simp
  · split
    · simp
    · have e1 := StrLaws.occ_length_le x y 0 x.length (x.length + 1)
      rw [length_partsBetween]; omega
theorem pos_of {f f3 : Int} {n : Nat} (h2 : ¬ f < 0) (h3 : ¬ f3 < 0) (hk : f3 = -1 ∨ ∃ k : Nat, f3 = (k : Int) ∧ fromIndex n (f + 1) ≤ k ∧ k < n) : ∃ kl kr : Nat, f = (kl : Int) ∧ f3 = (kr : Int) ∧ kl + 1 ≤ kr ∧ kr < n := by
  obtain ⟨kl, rfl⟩ := Int.eq_ofNat_of_zero_le (Int.not_lt.mp h2)
  rcases hk with rfl | ⟨k, rfl, z1, z2⟩
  · exact absurd (by decide) h3
  · have : fromIndex n ((kl : Int) + 1) = kl + 1 := by
      unfold fromIndex
      rw [if_neg (by omega)]
      omega
    exact ⟨kl, k, rfl, rfl, this ▸ z1, z2⟩
section
variable {c : Cx} {F : Fix} {A : Around} {n : Nat} {E : PostV Value} {h : Heap} {g : Gens} {env : Env} {gg : Heap} {L fa : Addr} {cd : Value}
/-- an own class is raised with the reply -/
def Up229 (F : Fix) (gg : Heap) (L : Addr) (y : Str) (t : Tok) (g : Gens) : PostV Value := fun e h' g' => g' = g ∧ ∃ ea rp h₀ m' cs', e = .ref ea ∧ (part229 y).1 = some rp ∧ Lg F gg L m' cs' h₀ ∧ Heap.MadeExcOf h₀ h' ea (.ref (if rp = true then 100 else 112)) [.str y t]
theorem WP.abs2 {α : Type} {t : Sem α} {Q : PostV α} (k : ∀ (Q' : PostV α) (E' : PostV Value), (∀ v h g, Q v h g → Q' v h g) → (∀ v h g, E v h g → E' v h g) → WP c A t Q' E' h g) : WP c A t Q E h g := k Q E (fun _ _ _ q => q) fun _ _ _ q => q
theorem parse_head {K : Frag} (S : St F) (Y : Ecls F K) (hA : AOk A n) {m : Str → Option Value} (D : Lg F gg L m [] h) {y hst : Str} {t th tp : Tok} {pa : Addr} (hm : m (Str.ofString "resp") = some (.str y t)) (hp : m (Str.ofString "peer") = some (.ref pa))
    (ht : gg.get? pa = some { cls := .type "tuple", data := .seq #[.str hst th, .int 21 tp] }) (hy : y.length ≤ 1000) :
    WP c A (execs ((recAt 16).body.take 9) (envOf (recAt 16).name (recAt 16).scope L fa cd))
      (fun f h' g' => f = .next ∧ g' = g ∧ ∃ P l m' tz, (part229 y).1 = none ∧ l[3]? = some ((part229 y).2, tz) ∧ l.length = 5 ∧ Lg F gg L m' [(P, PlA (strValues l).toArray)] h' ∧ m' (Str.ofString "parts") = some (.ref P) ∧ m' (Str.ofString "host") = some (.str hst th))
      (Up229 F gg L y t g) h g := by
  refine WP.abs2 fun Q0 E0' hQ0 hE0 => ?_
  have sz : y.length ≤ sizeLine := by rw [sizeLine_eq]; omega
  refine x_if <| t_cmp <| e_sub <| n_local D.ns hm <| e_slice <| p_none <| p_some <| e_int fun t1 => ?_
  have D1 := D.anyPush { cls := .type "slice", data := .fields #[.none, .int 3 t1, .none] }
  refine sb_sslice .none (.int _ _) (Heap.IsSliceOf.new ..) sz fun t2 => e_str fun t3 => str_ne <| t_bool ?_
  show if ((Txt.slice y none (some 3)) != Str.ofString "229") = true then _ else _
  by_cases h1 : ((Txt.slice y none (some 3)) != Str.ofString "229") = true
  · rw [if_pos h1]
    have hp229 : (part229 y).1 = some true := by unfold part229; rw [if_pos h1]
    exact x_raise S Y.o1 PySem.F.excBase_Exception hA.h D1.st (n_local D1.ns hm ⟨D1.st, fun h' e hx => hE0 _ _ _ ⟨rfl, e, true, _, _, _, rfl, hp229, D1, hx⟩⟩)
  rw [if_neg h1]
  refine x_nil <| x_assign <| e_smeth PySem.F.slot_str_find PySem.F.type_str_find <| n_local D1.ns hm ⟨_, _, rfl, c_bltF <| a_e <| e_str fun t4 => a_end <| o_find fun t5 => ?_⟩
  refine s_local D1.ns fun h₂ j1 j2 => ?_
  replace D1 := D1.store j1 j2
  have nm : ∀ z : Str, z ≠ Str.ofString "left" → (fun y_1 => if y_1 = Str.ofString "left" then some (Value.int (Txt.find y (Str.ofString "(")) t5) else m y_1) z = m z := fun z hz => if_neg hz
  refine x_if <| t_cmp <| n_local j1 rfl <| e_int fun t6 => o_lt <| t_bool ?_
  by_cases h2 : Txt.find y (Str.ofString "(") < 0
  · rw [if_pos (by simpa using h2)]
    have hp229 : (part229 y).1 = some false := by unfold part229; rw [if_neg h1]; dsimp only; rw [if_pos h2]
    exact x_raise S Y.o2 PySem.F.excBase_Exception hA.h D1.st (n_local j1 ((nm _ (by decide)).trans hm) ⟨D1.st, fun h' e hx => hE0 _ _ _ ⟨rfl, e, false, _, _, _, rfl, hp229, D1, hx⟩⟩)
  rw [if_neg (by simpa using h2)]
  refine x_nil <| x_assign <| e_smeth PySem.F.slot_str_find PySem.F.type_str_find <| n_local j1 ((nm _ (by decide)).trans hm) ⟨_, _, rfl, c_bltF <| a_e <| e_str fun t7 => a_e <| e_bin <| n_local j1 rfl <| e_int fun t8 => o_add fun t9 => a_end <| o_find3 fun t10 => ?_⟩
  refine s_local j1 fun h₃ j1 j2 => ?_
  replace D1 := D1.store j1 j2
  have nm2 : ∀ z : Str, z ≠ Str.ofString "right" → z ≠ Str.ofString "left" → (fun y_1 => if y_1 = Str.ofString "right" then some (Value.int (Txt.find3 y (Str.ofString ")") (Txt.find y (Str.ofString "(") + 1)) t10) else (fun y_1 => if y_1 = Str.ofString "left" then some (Value.int (Txt.find y (Str.ofString "(")) t5) else m y_1) y_1) z = m z := fun z hz hz' => (if_neg hz).trans (nm z hz')
  refine x_if <| t_cmp <| n_local j1 rfl <| e_int fun t11 => o_lt <| t_bool ?_
  by_cases h3 : Txt.find3 y (Str.ofString ")") (Txt.find y (Str.ofString "(") + 1) < 0
  · rw [if_pos (by simpa using h3)]
    have hp229 : (part229 y).1 = some false := by unfold part229; rw [if_neg h1]; dsimp only; rw [if_neg h2, if_pos h3]
    exact x_raise S Y.o2 PySem.F.excBase_Exception hA.h D1.st (n_local j1 ((nm2 _ (by decide) (by decide)).trans hm) ⟨D1.st, fun h' e hx => hE0 _ _ _ ⟨rfl, e, false, _, _, _, rfl, hp229, D1, hx⟩⟩)
  rw [if_neg (by simpa using h3)]
  obtain ⟨kl, kr, e1, e2, e3, e4⟩ := pos_of (n := y.length) h2 h3 (by
    rcases StrLaws.find3_spec y 41 (Txt.find y (Str.ofString "(") + 1) with ⟨q, _⟩ | ⟨k, q, z1, z2, _⟩
    · rw [← q41] at q; exact .inl q
    · rw [← q41] at q; exact .inr ⟨k, q, z1, z2⟩)
  have ca : y.cps[(Txt.find y (Str.ofString "(") + 1).toNat]? = some (y.cps.getD (Txt.find y (Str.ofString "(") + 1).toNat 0) := by
    have : (Txt.find y (Str.ofString "(") + 1).toNat < y.cps.size := by rw [e1]; show _ < y.length; omega
    rw [Array.getD_eq_getD_getElem?, Array.getElem?_eq_getElem this]; rfl
  have cb : y.cps[(Txt.find3 y (Str.ofString ")") (Txt.find y (Str.ofString "(") + 1) - 1).toNat]? = some (y.cps.getD (Txt.find3 y (Str.ofString ")") (Txt.find y (Str.ofString "(") + 1) - 1).toNat 0) := by
    have : (Txt.find3 y (Str.ofString ")") (Txt.find y (Str.ofString "(") + 1) - 1).toNat < y.cps.size := by rw [e2]; show _ < y.length; omega
    rw [Array.getD_eq_getD_getElem?, Array.getElem?_eq_getElem this]; rfl
  have yl : y.length ≤ 1000 := hy
  refine x_nil <| x_if <| t_cmp <| e_sub <| n_local j1 ((nm2 _ (by decide) (by decide)).trans hm) <| e_bin <| n_local j1 rfl <| e_int fun t12 => o_add fun t13 => sb_str (by omega) (by omega) ca fun t14 => e_sub <| n_local j1 ((nm2 _ (by decide) (by decide)).trans hm) <| e_bin <| n_local j1 rfl <| e_int fun t15 => o_sub fun t16 => sb_str (by omega) (by omega) cb fun t17 => str_ne <| t_bool ?_
  generalize hca : y.cps.getD (Txt.find y (Str.ofString "(") + 1).toNat 0 = ka at *
  generalize hcb : y.cps.getD (Txt.find3 y (Str.ofString ")") (Txt.find y (Str.ofString "(") + 1) - 1).toNat 0 = kb at *
  by_cases h4 : ((⟨#[ka]⟩ : Str) != ⟨#[kb]⟩) = true
  · rw [if_pos h4]
    have hp229 : (part229 y).1 = some false := by unfold part229; rw [if_neg h1]; dsimp only; rw [if_neg h2, if_neg h3, hca, hcb, if_pos h4]
    exact x_raise S Y.o2 PySem.F.excBase_Exception hA.h D1.st (n_local j1 ((nm2 _ (by decide) (by decide)).trans hm) ⟨D1.st, fun h' e hx => hE0 _ _ _ ⟨rfl, e, false, _, _, _, rfl, hp229, D1, hx⟩⟩)
  rw [if_neg h4]
  refine x_nil <| x_assign <| e_smeth PySem.F.slot_str_split PySem.F.type_str_split <| e_sub <| n_local j1 ((nm2 _ (by decide) (by decide)).trans hm) <| e_slice <| p_some <| e_bin <| n_local j1 rfl <| e_int fun t18 => o_add fun t19 => p_some <| n_local j1 rfl ?_
  have D2 := D1.anyPush { cls := .type "slice", data := .fields #[.int (Txt.find y (Str.ofString "(") + 1) t19, .int (Txt.find3 y (Str.ofString ")") (Txt.find y (Str.ofString "(") + 1)) t10, .none] }
  refine sb_sslice (.int _ _) (.int _ _) (Heap.IsSliceOf.new ..) sz fun t20 => ⟨_, _, rfl, c_bltF <| a_e <| e_sub <| n_local D2.ns ((nm2 _ (by decide) (by decide)).trans hm) <| e_bin <| n_local D2.ns rfl <| e_int fun t21 => o_add fun t22 => sb_str (by omega) (by omega) ca fun t23 => a_end <| o_split rfl ?_ fun l hl => ?_⟩
  · have := Txt.slice_le y (some (Txt.find y (Str.ofString "(") + 1)) (some (Txt.find3 y (Str.ofString ")") (Txt.find y (Str.ofString "(") + 1)))
    rw [sizeLine_eq]
    show (Txt.slice y (some (Txt.find y (Str.ofString "(") + 1)) (some (Txt.find3 y (Str.ofString ")") (Txt.find y (Str.ofString "(") + 1)))).length + 2 ≤ _
    omega
  replace hl : l.map (·.1) = Txt.split (Txt.slice y (some (Txt.find y (Str.ofString "(") + 1)) (some (Txt.find3 y (Str.ofString ")") (Txt.find y (Str.ofString "(") + 1)))) ⟨#[ka]⟩ := hl
  have D3 := D2.newList (strValues l).toArray
  refine s_local D3.ns fun h₄ j1 j2 => ?_
  replace D3 := D3.store j1 j2
  have hsz : l.length ≤ 1002 := by
    have e1 : l.length = (Txt.split (Txt.slice y (some (Txt.find y (Str.ofString "(") + 1)) (some (Txt.find3 y (Str.ofString ")") (Txt.find y (Str.ofString "(") + 1)))) ⟨#[ka]⟩).length := by rw [← hl, List.length_map]
    have e2 := Txt.slice_le y (some (Txt.find y (Str.ofString "(") + 1)) (some (Txt.find3 y (Str.ofString ")") (Txt.find y (Str.ofString "(") + 1)))
    have e3 := split_len (Txt.slice y (some (Txt.find y (Str.ofString "(") + 1)) (some (Txt.find3 y (Str.ofString ")") (Txt.find y (Str.ofString "(") + 1)))) ⟨#[ka]⟩
    omega
  have hvs : (strValues l).toArray.size = l.length := by simp [strValues]
  have nm3 : ∀ z : Str, z ≠ Str.ofString "parts" → z ≠ Str.ofString "right" → z ≠ Str.ofString "left" → (fun y_1 => if y_1 = Str.ofString "parts" then some (Value.ref h₄.objs.size) else m y_1) z = m z := fun z hz _ _ => if_neg hz
  refine x_if <| t_cmp <| e_call <| n_blt S D3.st boot_len <| c_blt <| a_e <| n_local j1 rfl <| a_end <| l_len (D3.isList M0) (by omega) fun t24 => e_int fun t25 => o_ne <| t_bool ?_
  rw [hvs]
  by_cases h5 : l.length = 5
  · rw [if_neg (by simp [h5])]
    have hps : (part229 y) = (none, (Txt.split (Txt.slice y (some (Txt.find y (Str.ofString "(") + 1)) (some (Txt.find3 y (Str.ofString ")") (Txt.find y (Str.ofString "(") + 1)))) ⟨#[ka]⟩).getD 3 Str.empty) := by
      unfold part229; rw [if_neg h1]; dsimp only; rw [if_neg h2, if_neg h3, hca, hcb, if_neg h4, if_pos (by rw [← hl, List.length_map]; exact h5)]
    refine x_nil <| x_assign <| e_sub <| n_local j1 hp <| e_int fun t26 => sb_tuple (items := #[.str hst th, .int 21 tp]) ⟨_, D3.keep _ _ ht, rfl, _, rfl⟩ (by decide) (by decide) rfl ?_
    refine s_local j1 fun h₅ j1 j2 => ?_
    replace D3 := D3.store j1 j2
    have hlt : 3 < l.length := by omega
    refine x_nil <| hQ0 _ _ _ ?_
    rw [hps]
    refine ⟨rfl, rfl, _, l, _, (l[3]'hlt).2, rfl, ?_, h5, D3, rfl, rfl⟩
    rw [← hl]
    rw [List.getElem?_eq_getElem hlt]
    simp [List.getD_eq_getElem?_getD, List.getElem?_eq_getElem hlt]
  · rw [if_pos (by simp; omega)]
    have hp229 : (part229 y).1 = some false := by unfold part229; rw [if_neg h1]; dsimp only; rw [if_neg h2, if_neg h3, hca, hcb, if_neg h4, if_neg (by rw [← hl, List.length_map]; exact h5)]
    exact x_raise S Y.o2 PySem.F.excBase_Exception hA.h D3.st (n_local D3.ns hm ⟨D3.st, fun h' e hx => hE0 _ _ _ ⟨rfl, e, false, _, _, _, rfl, hp229, D3, hx⟩⟩)
end
end Mine
end

noncomputable section
open PySem PySem.Builtin PySem.Builtin.Str PySem.W PySem.Calls PyProof.Rows PySem.NumText
set_option Elab.async false
set_option maxRecDepth 100000
set_option linter.unusedVariables false
set_option maxHeartbeats 2000000
set_option pp.deepTerms false
set_option pp.deepTerms.threshold 6
set_option pp.maxSteps 2000
namespace Mine
section
variable {c : Cx} {F : Fix} {A : Around} {n : Nat} {E : PostV Value} {h : Heap} {g : Gens} {env : Env} {l : List Env}
theorem wc_type {T : String} {pos : Pos} {e : Expr} {es : List Expr} {Q : PostV Value}
    (x : WP c A (spliced (backTo pos (starEach (e :: es) env))) (fun vs h₁ g₁ => WC c A (call (.type T) vs) Q E h₁ g₁) E h g)
    (he : starEach (e :: es) env = (false, eval e env) :: starEach es env := by rfl) (hp : (backTo pos (starEach es env)).any (·.1) = false := by rfl) : WC c A (callWith pos (.type T) [] (backTo pos (starEach (e :: es) env)) []) Q E h g := by
  intro tk
  rw [back_cons he] at x ⊢
  unfold callWith
  refine wpC_bind (wpC_holding (wpC_of (Calls.evalArgs_plain (x.step fun vs s₁ e1 e2 q => wpC_bind (wpC_standAt ?_)))))
  simp only [List.any_cons, hp, List.any_nil, Bool.or_false]
  refine wpC_bind (wpC_pure ?_)
  have q := q.at e1 e2
  exact wpC_bind (wpC_mono q (fun r s₂ hr => wpC_bind (wpC_holding (wpC_point (wpC_pure hr)))) fun _ _ x => x)
theorem int_text {x : Str} {t : Tok} {k : Int} {Q : PostV Value} (hk : PySem.intText? x = some k) (hl : x.length ≤ 640) (q : ∀ t, Q (.int k t) h g) : WP c A (call (.type "int") [.str x t]) Q E h g := fun tk => KIN.call_text hk hl ⟨rfl, rfl, q _⟩
theorem parse_cut : (recAt 16).body = (recAt 16).body.take 9 ++ (recAt 16).body.drop 9 := (List.take_append_drop _ _).symm
/-- what parse229's raise leaves -/
def Out229 (F : Fix) (l : List Env) (gg : Heap) (y : Str) (t : Tok) (g : Gens) : PostV Value := fun e h' g' => g' = g ∧ ∃ ea t0 rp, e = .ref ea ∧ (part229 y).1 = some rp ∧ Flown F l ea (.ref (if rp = true then 100 else 112)) (.ref t0) gg h' ∧ h'.TupAt t0 [.str y t]
theorem up_out {L : Addr} {y : Str} {t : Tok} {nm : Str} {sc : Scope} {fa : Addr} {cd : Value} (hfr : A.frames = some l) (X : FrK F l (baseOf F h)) (hk : sc.kind ≠ .module) {e : Value} {h' : Heap} {g' : Gens} (u : Up229 F (baseOf F h) L y t g e h' g') :
    WP c (A.deeper (envOf nm sc L fa cd)) (leaving (envOf nm sc L fa cd) e) (fun _ h'' g'' => Out229 F l (baseOf F h) y t g e h'' g'') E h' g' := by
  obtain ⟨e1, ea, rp, h₀, m', cs', e2, e3, D, hx⟩ := u
  subst e1 e2
  exact leave_made hfr D X hx rfl (fun h'' t0 fl ht _ => ⟨rfl, ea, t0, rp, rfl, e3, fl, ht⟩) hk
theorem parse_q {K : Frag} (S : St F) (Y : Ecls F K) (hf : FnAt F.H F.mg 16 121 (.ref 120)) (O : Ok F h g) (hA : AOk A n) (hn : n ≤ 30) (hfr : A.frames = some l) (FK : FrK F l (baseOf F h)) {y hst : Str} {t th tp : Tok} {pa : Addr}
    (hpa : h.get? pa = some { cls := .type "tuple", data := .seq #[.str hst th, .int 21 tp] }) (hy : y.length ≤ 1000) (hlen : (part229 y).2.length ≤ 600) (hnum : (part229 y).1 = none → ∃ num, PySem.intText? (part229 y).2 = some num) :
    WP c A (call (.ref 121) [.str y t, .ref pa]) (fun v h' g' => Grow F h h' ∧ Ok F h' g' ∧ (part229 y).1 = none ∧ ∃ a num t', v = .ref a ∧ h.get? a = none ∧ PySem.intText? (part229 y).2 = some num ∧ h'.get? a = some { cls := .type "tuple", data := .seq #[.str hst th, .int num t'] })
      (Out229 F l (baseOf F h) y t g) h g := by
  refine call_fn (binds := [(Str.ofString "resp", .str y t), (Str.ofString "peer", .ref pa)]) S O hA (le0 hn) hf (show recAt 16 = ⟨(recAt 16).name, (recAt 16).params, (recAt 16).body, (recAt 16).scope, (recAt 16).pos⟩ from rfl) (fun _ _ => ?_) ?_ ?_ (fun L h₁ D hA' => ?_) (by kernel_rfl) (by kernel_rfl) (by kernel_rfl)
  · kernel_rfl
  · kernel_rfl
  · kernel_rfl
  rw [parse_cut]
  refine wp_app ?_
  have gpa : (baseOf F h).get? pa = some { cls := .type "tuple", data := .seq #[.str hst th, .int 21 tp] } := by
    rw [baseOf_eq]; exact base_get O hpa (fun vs q => by cases q) (by simp)
  refine (parse_head S Y hA' D (y := y) (t := t) (pa := pa) rfl rfl gpa hy).mono (fun f h' g' q => ?_) fun e h' g' q => up_out hfr FK (by intro q; cases q) q
  obtain ⟨rfl, rfl, P, ls, m', tz, p1, p2, p3, D, m1, m2⟩ := q
  obtain ⟨num, hnum⟩ := hnum p1
  refine x_assign <| e_call <| n_blt S D.st boot_int <| c_type <| a_e <| e_sub <| n_local D.ns m1 <| e_int fun t1 => sb_list (x := .str (part229 y).2 tz) (D.isList M0) (by decide) (by decide) ?_ <| a_end ?_
  · simp only [strValues, List.getElem?_toArray, List.getElem?_map]
    show (ls[3]?).map _ = _
    rw [p2]; rfl
  refine int_text hnum (by omega) fun t2 => ?_
  refine s_local D.ns fun h₂ j1 j2 => ?_
  replace D := D.store j1 j2
  refine x_ret <| e_tuple <| a_e <| n_local j1 m2 <| a_e <| n_local j1 rfl <| a_end ⟨(show 2 ≤ sizeLine by decide), ?_⟩
  have D' := D.push { cls := .type "tuple", data := .seq #[.str hst th, .int num t2] }
  exact ⟨D'.grow, D'.ok O.bare, p1, _, num, t2, rfl, D'.was M0, hnum, D'.getE M0⟩
/-- the number is none: under the caller -/
theorem parse_bad {K : Frag} (S : St F) (Y : Ecls F K) (hf : FnAt F.H F.mg 16 121 (.ref 120)) (O : Ok F h g) (hA : AOk A n) (hn : n ≤ 30) (hfr : A.frames = some l) (FK : FrK F l (baseOf F h)) {y hst : Str} {t th tp : Tok} {pa : Addr}
    (hpa : h.get? pa = some { cls := .type "tuple", data := .seq #[.str hst th, .int 21 tp] }) (hy : y.length ≤ 1000) (hlen : (part229 y).2.length ≤ 600) (hz : (reprText (part229 y).2).length ≤ sizeLine) (h1 : (part229 y).1 = none)
    (hbad : (int_private% "readNumeral") 0 10 (numSeenOf (part229 y).2) = int_private% "Numeral.invalid") :
    WC c A (call (.ref 121) [.str y t, .ref pa]) (fun v h' g' => False)
      (fun e h' g' => g' = g ∧ ∃ ea a0, e = .ref ea ∧ Flown F l ea (.type "ValueError") a0 (baseOf F h) h') h g := by
  refine wc_callfn (binds := [(Str.ofString "resp", .str y t), (Str.ofString "peer", .ref pa)]) S O hA (le0 hn) hf (show recAt 16 = ⟨(recAt 16).name, (recAt 16).params, (recAt 16).body, (recAt 16).scope, (recAt 16).pos⟩ from rfl) (fun _ _ => ?_) ?_ ?_ (fun L h₁ D hA' => ?_) (by kernel_rfl) (by kernel_rfl) (by kernel_rfl)
  · kernel_rfl
  · kernel_rfl
  · kernel_rfl
  rw [parse_cut]
  refine wc_app (.of ?_)
  have gpa : (baseOf F h).get? pa = some { cls := .type "tuple", data := .seq #[.str hst th, .int 21 tp] } := by
    rw [baseOf_eq]; exact base_get O hpa (fun vs q => by cases q) (by simp)
  refine (parse_head S Y hA' D (y := y) (t := t) (pa := pa) rfl rfl gpa hy).mono (fun f h' g' q => ?_) fun e h' g' q => ?_
  rotate_left
  · obtain ⟨_, _, rp, _, _, _, _, e3, _⟩ := q
    rw [h1] at e3; cases e3
  obtain ⟨rfl, rfl, P, ls, m', tz, p1, p2, p3, D, m1, m2⟩ := q
  refine wc_assign <| wc_ecall <| n_blt S D.st boot_int <| wc_type <| a_e <| e_sub <| n_local D.ns m1 <| e_int fun t1 => sb_list (x := .str (part229 y).2 tz) (D.isList M0) (by decide) (by decide) ?_ <| a_end ?_
  · simp only [strValues, List.getElem?_toArray, List.getElem?_map]
    show (ls[3]?).map _ = _
    rw [p2]; rfl
  refine fun tk => call_int_bad hlen hz hA'.h hbad fun h' e tk' hx => ⟨rfl, rfl, ?_⟩
  exact leave_new hfr D FK hx rfl (fun h'' a0 fl => ⟨rfl, e, a0, rfl, fl⟩) (by intro q; cases q)
end
end Mine
end

noncomputable section
open PySem PySem.Builtin PySem.Builtin.Str PySem.W PySem.Calls PyProof.Rows PySem.NumText
set_option Elab.async false
set_option maxRecDepth 100000
set_option linter.unusedVariables false
set_option maxHeartbeats 2000000
set_option pp.deepTerms false
set_option pp.deepTerms.threshold 6
set_option pp.maxSteps 2000
namespace Mine
/-- how the clauses tell the classes apart -/
structure Hcls (F : Fix) (K : Frag) : Prop extends Ecls F K where
  x11 : exmOne K (.ref 100) (.ref 100) = some true
  x21 : exmOne K (.ref 112) (.ref 100) = some false
  x22 : exmOne K (.ref 112) (.ref 112) = some true
  xv1 : exmOne K (.type "ValueError") (.ref 100) = some false
  xv2 : exmOne K (.type "ValueError") (.ref 112) = some false
  xvv : exmOne K (.type "ValueError") (.type "ValueError") = some true
  s1 : findIn K (.ref 100) "__str__" = some (some (.builtin "BaseException.__str__"))
  s2 : findIn K (.ref 112) "__str__" = some (some (.builtin "BaseException.__str__"))
  m1 : mroIn K 100 (.type "BaseException") = some true
  m2 : mroIn K 112 (.type "BaseException") = some true
theorem In.keeps' {K : Frag} {h h' : Heap} (x : K.In h) (k : ∀ b o, h.get? b = some o → h'.get? b = some o) : K.In h' := fun a o e => k _ _ (x a o e)
theorem boot_VE : bootBuiltins "ValueError" = some (.type "ValueError") := by decide +kernel
section
variable {c : Cx} {F : Fix} {A : Around} {n : Nat} {E : PostV Value} {h h' h₁ : Heap} {g : Gens} {env : Env} {l : List Env} {L : Addr} {m : Str → Option Value} {cs : List Cell} {gg : Heap}
theorem funFrames_of {B : Heap} : ∀ {l : List Env}, (∀ env ∈ l, env.scope.kind ≠ .module ∧ ∃ L o, env.frame = some L ∧ B.get? L = none ∧ h.get? L = some o ∧ ∀ vs, o.data ≠ .fields vs) → h.FunFrames B l
  | [], _ => trivial
  | env :: l, x => ⟨(x env (.head _)).1, (x env (.head _)).2, funFrames_of fun e he => x e (.tail _ he)⟩
theorem of_funFrames {B : Heap} : ∀ {l : List Env}, h.FunFrames B l → ∀ env ∈ l, env.scope.kind ≠ .module ∧ ∃ L o, env.frame = some L ∧ B.get? L = none ∧ h.get? L = some o ∧ ∀ vs, o.data ≠ .fields vs
  | [], _, _, q => nomatch q
  | env :: l, x, e, q => by
    rcases List.mem_cons.mp q with rfl | q
    · exact ⟨x.1, x.2.1⟩
    · exact of_funFrames x.2.2 e q
/-- one more frame stands around -/
theorem FrK.push (X : FrK F l (baseOf F h)) (D : Lg F (baseOf F h) L m cs h₁) (hk : env.scope.kind ≠ .module) (hf : env.frame = some L) : FrK F (env :: l) (baseOf F h₁) := by
  obtain ⟨B, ff⟩ := X.fun_
  have mem := mem_frs (l := l) hf
  refine ⟨⟨hideAll h₁ (frs (env :: l)), funFrames_of fun e he => ?_⟩, fun b hb => ?_⟩
  · rcases List.mem_cons.mp he with rfl | he
    · obtain ⟨o, es, ep, h1, h2, _⟩ := D.ns
      exact ⟨hk, L, o, hf, hideAll_none _ ((mem L).mpr (.inl rfl)), hideAll_get _ h1 D.offTab, fun vs q => by rw [h2] at q; cases q⟩
    · obtain ⟨k, L', o, h1, _, h2, h3⟩ := of_funFrames ff e he
      have hm : L' ∈ frs l := List.mem_filterMap.mpr ⟨e, he, h1⟩
      refine ⟨k, L', o, h1, hideAll_none _ ((mem L').mpr (.inr hm)), hideAll_get _ (D.keep _ _ h2) fun q => ?_, h3⟩
      rw [hideAll_none _ q] at h2; cases h2
  · rcases (mem b).mp hb with rfl | hb
    · cases e : F.H.get? b with
      | none => rfl
      | some o => have := D.base _ _ e; rw [D.off] at this; cases this
    · exact X.off b hb
/-- the frame from which a call went that has caught a raise -/
theorem Lg.back (D : Lg F gg L m cs h) (htab : ∀ b ∈ F.ns.map (·.P), gg.get? b = none) (hf : env.frame = some L) (x : Back F [env] h h') : Lg F gg L m cs h' := by
  have T := D.tabs_off htab
  have mem : ∀ b, b ∈ frs [env] ↔ b = L := fun b => by rw [mem_frs (l := []) hf]; simp
  refine ⟨D.base, fun b o e => x.keep b o (fun q => by rw [(T b q).1] at e; cases e) (fun q => ?_) (D.keep b o e), x.tabs, ?_, D.off, fun p hp => ?_, D.nd⟩
  · rw [(mem b).mp q, D.off] at e; cases e
  · obtain ⟨o, es, ep, h1, h2, h3⟩ := D.ns
    obtain ⟨sl, h4⟩ := x.ups L o ((mem L).mpr rfl) D.offTab h1
    exact ⟨_, es, ep, h4, h2, h3⟩
  · obtain ⟨⟨o, h1, h2⟩, h3, h4, h5⟩ := D.own p hp
    exact ⟨⟨o, x.keep _ _ (fun q => (T _ q).2.2 (List.mem_map_of_mem (f := fun x : Cell => x.1) hp)) (fun q => h4 ((mem _).mp q)) h1, h2⟩, h3, h4, h5⟩
theorem Back.fresh (O : Ok F h g) (x : Back F l h h') {a : Addr} (ha : h'.get? a = none) : h.get? a = none := by
  cases e : h.get? a with
  | none => rfl
  | some o =>
    by_cases n1 : a ∈ F.ns.map (·.P)
    · obtain ⟨o, _, q, _⟩ := x.tabs.fields n1
      rw [ha] at q; cases q
    · by_cases n2 : a ∈ frs l
      · obtain ⟨sl, q⟩ := x.ups a o n2 n1 e
        rw [ha] at q; cases q
      · have := x.keep a o n1 n2 e
        rw [ha] at this; cases this
theorem Grow.back (G : Grow F h h') (hT : Tabs F h') : Back F l h h' := ⟨fun b o n1 _ e => G.keep b o n1 e, fun b o _ n1 e => ⟨o.slots, G.keep b o n1 e⟩, hT⟩
theorem keep_fields {o' : Obj} (hs : Heap.SameBut L h h') (hL : h.get? L = some o') (hd : ∀ vs, o'.data ≠ .fields vs) : ∀ b o, (∃ vs, o.data = .fields vs) → h.get? b = some o → h'.get? b = some o := fun b o ⟨vs, hv⟩ e =>
  (hs.2 b fun q => by rw [q, hL] at e; cases e; exact hd vs hv).trans e
theorem tupAt_same {t0 : Addr} {args : List Value} (hs : Heap.SameBut L h h') (hL : h.Ns L m) (x : h.TupAt t0 args) : h'.TupAt t0 args := by
  obtain ⟨ot, k, h1, h2, h3⟩ := x
  obtain ⟨o, es, ep, e1, e2, _⟩ := hL
  refine ⟨ot, k, (hs.2 _ fun q => ?_).trans h1, h2, h3⟩
  rw [q, e1] at h1; cases h1
  rw [e2] at h3; cases h3
/-- what _law_heard answers -/
def Ans (h : Heap) (v : Value) (h' : Heap) (P : Array Value → Prop) : Prop := ∃ a items, v = .ref a ∧ h.get? a = none ∧ h'.get? a = some { cls := .type "tuple", data := .seq items } ∧ P items
def AnsOk (y hst : Str) (t th : Tok) (items : Array Value) : Prop :=
  ((part229 y).1 = none ∧ ∃ num t', PySem.intText? (part229 y).2 = some num ∧ items = #[.str hst th, .int num t']) ∨ (∃ rp t1, (part229 y).1 = some rp ∧ items = #[.str (Str.ofString (if rp = true then "another code" else "another shape")) t1, .str y t])
abbrev HB (i : Nat) : List Stmt := match (recAt 18).body with
  | [.Try _ hs _ _ _] => match hs[i]? with | some (.ExceptHandler _ _ b _) => b | _ => []
  | _ => []
/-- the suite of a clause that tells the refusal's words -/
theorem heard_suite {K : Frag} {fa : Addr} {cd : Value} {h₀ h₃ : Heap} {ea t0 C : Addr} {y : Str} {t : Tok} {w : String} {pos p1 p2 p3 p4 p5 p6 : Pos} {kd k : Nat} (S : St F) (Y : Hcls F K) (hu : A.units + 5 < cLine) (D : Lg F gg L m [] h₀) (hgg : gg = baseOf F h) (O : Ok F h g) (X : FrK F l (baseOf F h))
    (fl : Flown F (envOf (recAt 18).name (recAt 18).scope L fa cd :: l) ea (.ref C) (.ref t0) (baseOf F h₀) h₃) (ht : h₃.TupAt t0 [.str y t])
    (hs : findIn K (.ref C) "__str__" = some (some (.builtin "BaseException.__str__"))) (hm : mroIn K C (.type "BaseException") = some true) :
    WP c (A.mark (some (.ref ea))) (storeName (envOf (recAt 18).name (recAt 18).scope L fa cd) (Str.ofString "refusal") (.ref ea)) (fun _ h₄ g₄ =>
        WP c (A.mark (some (.ref ea))) (execs [.Return (some (.Tuple [.Constant (.str (Str.ofString w)) kd p1, .Call (.Name (Str.ofString "str") p2) [.Name (Str.ofString "refusal") p3] [] p4] k p5)) p6] (envOf (recAt 18).name (recAt 18).scope L fa cd))
          (fun f h₅ g₅ => WP c A (do bindName (envOf (recAt 18).name (recAt 18).scope L fa cd) (Str.ofString "refusal") .none; unbindBehindTheSuite (envOf (recAt 18).name (recAt 18).scope L fa cd) (Str.ofString "refusal") pos)
            (fun _ h₆ g₆ => ∃ v, f = .ret v ∧ Back F l h h₆ ∧ g₆ = g ∧ Ans h v h₆ fun items => ∃ t1, items = #[.str (Str.ofString w) t1, .str y t]) E0 h₅ g₅) E0 h₄ g₄) E0 h₃ g := by
  subst hgg
  have D3 := Flown.lg D X S.sep rfl fl
  refine s_local D3.ns (fun h₄ j1 j2 => ?_) (by kernel_rfl) (by kernel_rfl)
  have D4 := D3.store j1 j2
  obtain ⟨oL, es, ep, hL, hLd, _⟩ := id D3.ns
  have ex4 := fl.ex.keeps (keep_fields j2 hL fun vs q => by rw [hLd] at q; cases q)
  have ht4 := tupAt_same j2 D3.ns ht
  refine x_ret <| e_tuple <| a_e <| e_str fun t1 => a_e <| e_call <| n_blt S D4.st boot_str (hk := by kernel_rfl) (hl := by kernel_rfl) <| c_type <| a_e <| n_local j1 rfl (hk := by kernel_rfl) (hl := by kernel_rfl) <| a_end <|
    str_exc (K := K) (by show A.units + 1 + 1 < _; omega) (In.keeps' Y.X D4.st) ex4 ht4 hs hm <| a_end ⟨(show 2 ≤ sizeLine by decide), ?_⟩
  have D5 := D4.push { cls := .type "tuple", data := .seq #[.str (Str.ofString w) t1, .str y t] }
  refine s_gone D5.ns (fun h₆ v j1 j2 => ?_) (by kernel_rfl) (by kernel_rfl)
  have D6 := D5.store j1 j2
  have B4 := fl.back D X rfl D4
  exact ⟨_, rfl, fl.back D X rfl D6, rfl, _, _, rfl, B4.fresh O Lg.get_size, D6.getE M0, t1, rfl⟩
end
end Mine
end

noncomputable section
open PySem PySem.Builtin PySem.Builtin.Str PySem.W PySem.Calls PyProof.Rows PySem.NumText
set_option Elab.async false
set_option maxRecDepth 100000
set_option linter.unusedVariables false
set_option maxHeartbeats 2000000
set_option pp.deepTerms false
set_option pp.deepTerms.threshold 6
set_option pp.maxSteps 2000
namespace Mine
section
variable {c : Cx} {F : Fix} {A : Around} {n : Nat} {E : PostV Value} {h h' h₁ : Heap} {g : Gens} {env : Env} {l : List Env} {L : Addr} {m : Str → Option Value} {cs : List Cell} {gg : Heap}
theorem heard_q {K : Frag} (S : St F) (Y : Hcls F K) (hf1 : FnAt F.H F.mg 16 121 (.ref 120)) (hf : FnAt F.H F.mg 18 128 (.ref 127)) (O : Ok F h g) (hA : AOk A n) (hn : n ≤ 20) (hfr : A.frames = some l) (FK : FrK F l (baseOf F h)) {y hst : Str} {t th tp : Tok} {pa : Addr}
    (hpa : h.get? pa = some { cls := .type "tuple", data := .seq #[.str hst th, .int 21 tp] }) (hy : y.length ≤ 1000) (hlen : (part229 y).2.length ≤ 600) (hnum : (part229 y).1 = none → ∃ num, PySem.intText? (part229 y).2 = some num) :
    WP c A (call (.ref 128) [.str y t, .ref pa]) (fun v h' g' => Back F l h h' ∧ AllBare g' ∧ Ans h v h' (AnsOk y hst t th)) E h g := by
  refine call_fn (binds := [(Str.ofString "reply", .str y t), (Str.ofString "peer", .ref pa)]) S O hA (le0 hn) hf (show recAt 18 = ⟨(recAt 18).name, (recAt 18).params, (recAt 18).body, (recAt 18).scope, (recAt 18).pos⟩ from rfl) (fun _ _ => ?_) ?_ ?_ (fun L h₁ D hA' => of0 ?_) (by kernel_rfl) (by kernel_rfl) (by kernel_rfl)
  · kernel_rfl
  · kernel_rfl
  · kernel_rfl
  have hfr' : (A.deeper (envOf (recAt 18).name (recAt 18).scope L 128 (.ref 127))).frames = some (envOf (recAt 18).name (recAt 18).scope L 128 (.ref 127) :: l) := Around.frames_deeper hfr
  have FK' : FrK F (envOf (recAt 18).name (recAt 18).scope L 128 (.ref 127) :: l) (baseOf F h₁) := FK.push D (by intro q; cases q) rfl
  have O1 := D.ok O.bare
  have hu : (A.deeper (envOf (recAt 18).name (recAt 18).scope L 128 (.ref 127))).units + 5 < cLine := by have := hA'.u; show _ < 9900; omega
  have hpa1 : h₁.get? pa = some { cls := .type "tuple", data := .seq #[.str hst th, .int 21 tp] } := D.keep _ _ (by rw [baseOf_eq]; exact base_get O hpa (fun vs q => by cases q) (by simp))
  refine x_try ?_
  refine x_ret <| e_call <| n_global (S.g.keeps D.st) hf1.nm (hk := by kernel_rfl) (hl := by kernel_rfl) <| c_fn hf1 <| a_e <| n_local D.ns rfl (hk := by kernel_rfl) (hl := by kernel_rfl) <| a_e <| n_local D.ns rfl (hk := by kernel_rfl) (hl := by kernel_rfl) <| a_end ⟨D.st, ?_⟩
  refine (parse_q S Y.toEcls hf1 O1 hA' (le1 hn) hfr' FK' hpa1 hy hlen hnum).mono (fun v h' g' q => ?_) fun e h' g' q => ?_
  · obtain ⟨G, O2, p1, a, num, t', rfl, ha, hx, hg⟩ := q
    have D2 := D.call G O2.tabs
    refine ⟨D2.grow.back O2.tabs, O2.bare, a, _, rfl, ?_, hg, .inl ⟨p1, num, t', hx, rfl⟩⟩
    exact Back.fresh (l := l) O (D.grow.back D.tabs) ha
  · obtain ⟨rfl, ea, t0, rp, rfl, p1, fl, ht⟩ := q
    refine land hfr' rfl fl fun h₃ fl3 up3 => ?_
    have ht3 := Heap.TupAt.of_slots ht up3
    have D3 := Flown.lg D FK S.sep rfl fl3
    cases rp with
    | true =>
      refine hb_as <| n_global (S.g.keeps D3.st) Y.o1.bound (hk := by kernel_rfl) (hl := by kernel_rfl) <| h_exc (In.keeps' Y.X D3.st) fl3.ex Y.x11 ⟨rfl, ?_⟩
      refine land_again fl3 fun h₄ fl4 up4 => ?_
      refine (heard_suite (w := "another code") S Y hu D rfl O FK fl4 (Heap.TupAt.of_slots ht3 up4) Y.s1 Y.m1).mono (fun _ _ _ q => q.mono (fun f _ _ q => q.mono (fun _ _ _ q => ?_) fun _ _ _ x => x) fun _ _ _ x => x) fun _ _ _ x => x
      obtain ⟨v, rfl, b1, rfl, a, items, b3, b4, b5, t1, b6⟩ := q
      exact ⟨b1, O.bare, a, items, b3, b4, b5, .inr ⟨true, t1, p1, b6⟩⟩
    | false =>
      refine hb_no <| n_global (S.g.keeps D3.st) Y.o1.bound (hk := by kernel_rfl) (hl := by kernel_rfl) <| h_exc (In.keeps' Y.X D3.st) fl3.ex Y.x21 ⟨rfl, ?_⟩
      refine hb_as <| n_global (S.g.keeps D3.st) Y.o2.bound (hk := by kernel_rfl) (hl := by kernel_rfl) <| h_exc (In.keeps' Y.X D3.st) fl3.ex Y.x22 ⟨rfl, ?_⟩
      refine land_again fl3 fun h₄ fl4 up4 => ?_
      refine (heard_suite (w := "another shape") S Y hu D rfl O FK fl4 (Heap.TupAt.of_slots ht3 up4) Y.s2 Y.m2).mono (fun _ _ _ q => q.mono (fun f _ _ q => q.mono (fun _ _ _ q => ?_) fun _ _ _ x => x) fun _ _ _ x => x) fun _ _ _ x => x
      obtain ⟨v, rfl, b1, rfl, a, items, b3, b4, b5, t1, b6⟩ := q
      exact ⟨b1, O.bare, a, items, b3, b4, b5, .inr ⟨false, t1, p1, b6⟩⟩
theorem heard_bad {K : Frag} (S : St F) (Y : Hcls F K) (hf1 : FnAt F.H F.mg 16 121 (.ref 120)) (hf : FnAt F.H F.mg 18 128 (.ref 127)) (O : Ok F h g) (hA : AOk A n) (hn : n ≤ 20) (hfr : A.frames = some l) (FK : FrK F l (baseOf F h)) {y hst : Str} {t th tp : Tok} {pa : Addr}
    (hpa : h.get? pa = some { cls := .type "tuple", data := .seq #[.str hst th, .int 21 tp] }) (hy : y.length ≤ 1000) (hlen : (part229 y).2.length ≤ 600) (hz : (reprText (part229 y).2).length ≤ sizeLine) (h1 : (part229 y).1 = none)
    (hbad : (int_private% "readNumeral") 0 10 (numSeenOf (part229 y).2) = int_private% "Numeral.invalid") :
    WC c A (call (.ref 128) [.str y t, .ref pa]) (fun v h' g' => Back F l h h' ∧ AllBare g' ∧ Ans h v h' fun items => ∃ t1, items = #[.str (Str.ofString "no number") t1, .str y t]) E h g := by
  refine wc_callfn (binds := [(Str.ofString "reply", .str y t), (Str.ofString "peer", .ref pa)]) S O hA (le0 hn) hf (show recAt 18 = ⟨(recAt 18).name, (recAt 18).params, (recAt 18).body, (recAt 18).scope, (recAt 18).pos⟩ from rfl) (fun _ _ => ?_) ?_ ?_ (fun L h₁ D hA' => WC.mono (E := F0) ?_ (fun _ _ _ x => x) fun _ _ _ x => x.elim) (by kernel_rfl) (by kernel_rfl) (by kernel_rfl)
  · kernel_rfl
  · kernel_rfl
  · kernel_rfl
  have hfr' : (A.deeper (envOf (recAt 18).name (recAt 18).scope L 128 (.ref 127))).frames = some (envOf (recAt 18).name (recAt 18).scope L 128 (.ref 127) :: l) := Around.frames_deeper hfr
  have FK' : FrK F (envOf (recAt 18).name (recAt 18).scope L 128 (.ref 127) :: l) (baseOf F h₁) := FK.push D (by intro q; cases q) rfl
  have O1 := D.ok O.bare
  have hpa1 : h₁.get? pa = some { cls := .type "tuple", data := .seq #[.str hst th, .int 21 tp] } := D.keep _ _ (by rw [baseOf_eq]; exact base_get O hpa (fun vs q => by cases q) (by simp))
  refine wc_try ?_
  refine wc_ret <| wc_ecall <| n_global (S.g.keeps D.st) hf1.nm (hk := by kernel_rfl) (hl := by kernel_rfl) <| wc_fn hf1 <| a_e <| n_local D.ns rfl (hk := by kernel_rfl) (hl := by kernel_rfl) <| a_e <| n_local D.ns rfl (hk := by kernel_rfl) (hl := by kernel_rfl) <| a_end ⟨D.st, ?_⟩
  refine (parse_bad S Y.toEcls hf1 O1 hA' (le1 hn) hfr' FK' hpa1 hy hlen hz h1 hbad).mono (fun v h' g' q => q.elim) fun e h' g' q => ?_
  obtain ⟨rfl, ea, a0, rfl, fl⟩ := q
  refine land hfr' rfl fl fun h₃ fl3 up3 => ?_
  have D3 := Flown.lg D FK S.sep rfl fl3
  refine hb_no <| n_global (S.g.keeps D3.st) Y.o1.bound (hk := by kernel_rfl) (hl := by kernel_rfl) <| h_exc (In.keeps' Y.X D3.st) fl3.ex Y.xv1 ⟨rfl, ?_⟩
  refine hb_no <| n_global (S.g.keeps D3.st) Y.o2.bound (hk := by kernel_rfl) (hl := by kernel_rfl) <| h_exc (In.keeps' Y.X D3.st) fl3.ex Y.xv2 ⟨rfl, ?_⟩
  refine hb_plain <| n_blt S D3.st boot_VE (hk := by kernel_rfl) (hl := by kernel_rfl) <| h_exc (In.keeps' Y.X D3.st) fl3.ex Y.xvv ⟨rfl, ?_⟩
  refine land_again fl3 fun h₄ fl4 up4 => ?_
  have D4 := Flown.lg D FK S.sep rfl fl4
  obtain ⟨o, es, ep, e1, e2, e3⟩ := id D.ns
  refine x_ret <| e_tuple <| a_e <| e_str fun t1 => a_e <| n_local D4.ns rfl (hk := by kernel_rfl) (hl := by kernel_rfl) <| a_end ⟨(show 2 ≤ sizeLine by decide), ?_⟩
  have D5 := D4.push { cls := .type "tuple", data := .seq #[.str (Str.ofString "no number") t1, .str y t] }
  have B4 := fl4.back D FK rfl D4
  exact ⟨fl4.back D FK rfl D5, O.bare, _, _, rfl, B4.fresh O Lg.get_size, D5.getE M0, t1, rfl⟩
end
end Mine
end

noncomputable section
open PySem PySem.Builtin PySem.Builtin.Str PySem.W PySem.Calls PyProof.Rows PySem.Spec
set_option Elab.async false
set_option maxRecDepth 100000
set_option linter.unusedVariables false
set_option maxHeartbeats 2000000
set_option pp.deepTerms false
set_option pp.deepTerms.threshold 6
set_option pp.maxSteps 2000
namespace Mine
theorem preSum_eq : ∀ (ns : List Int) (k : Nat), k ≤ ns.length → preSum (fun i => ns.getD i 0) k = (ns.take k).sum
  | ns, 0, _ => by simp [preSum]
  | ns, k + 1, h => by
    have hk : k < ns.length := h
    rw [preSum, preSum_eq ns k (Nat.le_of_lt hk), List.take_add_one, List.getElem?_eq_getElem hk, List.getD_eq_getElem?_getD, List.getElem?_eq_getElem hk, List.sum_append]
    simp
theorem intsAre_get : ∀ {vs : List Value} {ns : List Int}, IntsAre vs ns → ∀ (i : Nat) (v : Value), vs[i]? = some v → ∃ t, v = .int (ns.getD i 0) t
  | _, _, .nil, i, v, h => by simp at h
  | _, _, .cons n t r, 0, v, h => ⟨t, by simp at h; simp [← h]⟩
  | _, _, .cons n t r, i + 1, v, h => by
    obtain ⟨u, hu⟩ := intsAre_get r i v (by simpa using h)
    exact ⟨u, by simpa using hu⟩
theorem getD_mem {ns : List Int} {k : Nat} (h : k < ns.length) : ns.getD k 0 ∈ ns := by
  rw [List.getD_eq_getElem?_getD, List.getElem?_eq_getElem h]
  exact List.getElem_mem _
theorem rsize (a b : Int) (h : a ≤ b) : Builtin.Range.rangeSize a b 1 = b - a := by
  unfold Builtin.Range.rangeSize
  rw [if_pos (by decide)]
  split
  · rw [Int.ediv_one]; omega
  · omega
theorem rsmall (a b : Int) (h : a ≤ b) (h1 : -1000 ≤ a) (h2 : b ≤ 1000) (h3 : b - a ≤ 1000) : Builtin.Range.small a b 1 = true := by
  unfold Builtin.Range.small
  rw [rsize a b h]
  simp [Builtin.Range.rangeFitsLong]
  omega
section
variable {c : Cx} {F : Fix} {A : Around} {n : Nat} {E : PostV Value} {h : Heap} {g : Gens} {env : Env}
theorem o_sum {l : Addr} {vs : List Value} {ns : List Int} {Q : PostV Value} (hA : A.handled = none) (hl : h.IsList l vs.toArray) (hi : IntsAre vs ns) (q : ∀ h' t, (∀ b o, h.get? b = some o → h'.get? b = some o) → Q (.int ns.sum t) h' g) :
    WP c A (call (.builtin "sum") [.ref l]) Q E h g := by
  intro tk
  obtain ⟨o, ho, _⟩ := id hl
  have hlt := Heap.lt_size ho
  refine call_sum_walkG (wpAny_pyIter_list hl ?_)
  refine ⟨h.objs.size, _, _, vs.toArray.size, _, _, fun i => ns.getD i 0, rfl, Walks.list (A := A.in1) hA h.objs.size l (Nat.ne_of_lt hlt) vs.toArray, ⟨⟨_, Heap.get?_push_size _ rfl, rfl, rfl⟩, hl.push _⟩, fun b hb => ?_, fun i v hv => intsAre_get hi i v (by have hv' : vs.toArray[i]? = some v := hv; rwa [List.getElem?_toArray] at hv'), fun h' tk' t' k => ⟨rfl, rfl, ?_⟩⟩
  · show b < (h.push _).objs.size
    rw [Heap.size_push]
    rcases List.mem_cons.mp hb with rfl | hb
    · exact Nat.lt_succ_self _
    · rw [List.mem_singleton.mp hb]; exact Nat.lt_succ_of_lt hlt
  · rw [preSum_eq _ _ (by have := hi.length; simp; omega), List.take_of_length_le (by have := hi.length; simp; omega)]
    exact q h' t' fun b o e => k b o (by simp; exact Nat.ne_of_lt (Heap.lt_size e)) (Heap.get?_push_of_some _ e)
theorem o_listrange {r : Addr} {k : Nat} {t u v : Tok} {Q : PostV Value} (hA : A.handled = none) (hr : h.get? r = some { cls := .type "range", data := .fields #[.int 0 t, .int (k : Int) u, .int 1 v] }) (hk : k ≤ 1000)
    (q : ∀ h' (ys : List Value), (∀ b o, h.get? b = some o → h'.get? b = some o) → h.get? h.objs.size = none → (∃ o, h'.get? h.objs.size = some o ∧ PlA ys.toArray o) → ys.length = k → (∀ (i : Nat) (y : Value), ys[i]? = some y → ∃ t, y = Value.int (i : Nat) t) → Q (.ref h.objs.size) h' g) :
    WP c A (call (.type "list") [.ref r]) Q E h g := by
  intro tk
  have hr' : IsRange h r 0 (k : Int) 1 t u v := hr
  refine call_list_range hA hr' (n := k) (rsmall 0 k (by omega) (by omega) (by omega) (by omega)) (by rw [rsize 0 k (by omega)]; omega) (by omega) fun h' tk' acc' c' hk' hS hacc => ⟨rfl, rfl, ?_⟩
  · refine q h' acc'.toList hk' Lg.get_size ⟨_, hS, c', rfl⟩ (by simp [hacc.1]) fun i y hy => ?_
    obtain ⟨tk, e⟩ := hacc.2 i y (by simpa using hy)
    exact ⟨tk, by rw [e]; congr 1; omega⟩
theorem o_str {a : Int} {t : Tok} {Q : PostV Value} (ha : a.natAbs.log2 < 1920) (q : ∀ t, Q (.str (Str.ofString (toString a)) t) h g) : WP c A (call (.type "str") [.int a t]) Q E h g := fun _ => PySem.P.str_of_int ha ⟨rfl, rfl, q _⟩
theorem o_isB {a b : Bool} {Q : PostV Value} (q : Q (.bool (a == b)) h g) : WP c A (compareOp .Is (.bool a) (.bool b)) Q E h g := fun _ => is_bool ⟨rfl, rfl, q⟩
theorem o_isnotB {a b : Bool} {Q : PostV Value} (q : Q (.bool (a != b)) h g) : WP c A (compareOp .IsNot (.bool a) (.bool b)) Q E h g := fun _ => isnot_bool ⟨rfl, rfl, q⟩
theorem o_neD {a b : Value} {da db : PyData} {as bs : List Addr} {Q : PostV Value} (ra : Reads h a da as) (rb : Reads h b db bs) (ha : SeqAt.shaped da = true) (hb : SeqAt.shaped db = true) (hu : A.units + 64 < cLine) (q : Q (.bool (!PyData.eqv da db)) h g) :
    WP c A (compareOp .NotEq a b) Q E h g := fun _ => ne_dataH (s := ⟨h, g, c.d, _, c.o⟩) ra rb ha hb hu ⟨rfl, rfl, q⟩
theorem o_min {l : Addr} {vs : List Value} {ns : List Int} {Q : PostV Value} (hA : A.handled = none) (hl : h.IsList l vs.toArray) (hi : IntsAre vs ns) (h0 : 0 < ns.length)
    (q : ∀ h' M t, (∀ b o, h.get? b = some o → h'.get? b = some o) → M ∈ ns → (∀ x ∈ ns, M ≤ x) → Q (.int M t) h' g) :
    WP c A (call (.builtin "min") [.ref l]) Q E h g := by
  intro tk
  obtain ⟨o, ho, _⟩ := id hl
  have hlt := Heap.lt_size ho
  have hln := hi.length
  refine call_min_walk (wpAny_pyIter_list hl ?_)
  refine ⟨h.objs.size, _, _, vs.toArray.size, _, _, _, rfl, Walks.list (A := A.in1) hA h.objs.size l (Nat.ne_of_lt hlt) vs.toArray, ⟨⟨_, Heap.get?_push_size _ rfl, rfl, rfl⟩, hl.push _⟩, fun b hb => ?_, by simp; omega,
    CmpOf.ints_lt (fun i => ns.getD i 0) (fun i v hv => intsAre_get hi i v (by have hv' : vs.toArray[i]? = some v := hv; rwa [List.getElem?_toArray] at hv')), fun v h' tk' hv k => ?_⟩
  · show b < (h.push _).objs.size
    rw [Heap.size_push]
    rcases List.mem_cons.mp hb with rfl | hb
    · exact Nat.lt_succ_self _
    · rw [List.mem_singleton.mp hb]; exact Nat.lt_succ_of_lt hlt
  · have best : ∀ j, argBest (fun i j => decide (ns.getD i 0 < ns.getD j 0)) j ≤ j ∧ ∀ i, i ≤ j → ns.getD (argBest (fun i j => decide (ns.getD i 0 < ns.getD j 0)) j) 0 ≤ ns.getD i 0 := fun j => by
      induction j with
      | zero => exact ⟨Nat.le_refl _, fun i hi => by rw [Nat.le_zero.mp hi]; exact Int.le_refl _⟩
      | succ j ih =>
        rw [argBest]
        by_cases hc : ns.getD (j + 1) 0 < ns.getD (argBest (fun i j => decide (ns.getD i 0 < ns.getD j 0)) j) 0
        · rw [if_pos (decide_eq_true hc)]
          refine ⟨Nat.le_refl _, fun i hi => ?_⟩
          by_cases hij : i = j + 1
          · rw [hij]; exact Int.le_refl _
          · exact Int.le_trans (Int.le_of_lt hc) (ih.2 i (by omega))
        · rw [if_neg (by simpa using hc)]
          refine ⟨by omega, fun i hi => ?_⟩
          by_cases hij : i = j + 1
          · rw [hij]; omega
          · exact ih.2 i (by omega)
    obtain ⟨t, rfl⟩ := intsAre_get hi _ v (by simpa using hv)
    have hb := best (vs.toArray.size - 1)
    have hidx : argBest (fun i j => decide (ns.getD i 0 < ns.getD j 0)) (vs.toArray.size - 1) < ns.length := by have := hb.1; simp at this ⊢; omega
    refine ⟨rfl, rfl, q h' _ t (fun b o e => k b o (by simp; exact Nat.ne_of_lt (Heap.lt_size e)) (Heap.get?_push_of_some _ e)) ?_ fun x hx => ?_⟩
    · exact getD_mem hidx
    · obtain ⟨i, hi', rfl⟩ := List.getElem_of_mem hx
      have := hb.2 i (by simp; omega)
      rwa [List.getD_eq_getElem?_getD (l := ns) (i := i), List.getElem?_eq_getElem hi'] at this
end
end Mine
end

noncomputable section
open PySem PySem.Builtin PySem.Builtin.Str PySem.W PySem.Calls PyProof.Rows PySem.Spec
set_option Elab.async false
set_option maxRecDepth 100000
set_option linter.unusedVariables false
set_option maxHeartbeats 2000000
set_option pp.deepTerms false
set_option pp.deepTerms.threshold 6
set_option pp.maxSteps 2000
namespace Mine
section
variable {c : Cx} {F : Fix} {A : Around} {n : Nat} {E : PostV Value} {h : Heap} {g : Gens} {env : Env}
/- comprehensions -/
theorem e_compif {iter ifc : Expr} {x : Str} {ex px : Pos} {scope : Scope} {cl : List (Str × Addr)} {pos : Pos} {Q : PostV Value} (p : Value → Bool)
    (hclos : closureFor scope env = pure cl) (hcell : (scope.names.all fun x => x.2 != .cell) = true) (hkind : scope.kind = .function) (hnames : (scope.names.all fun y => y.2 != .local || decide (scope.names.lookup y.1 = some .local)) = true) (hx : scope.names.lookup x = some .local)
    (y : WP c A (eval iter env) (fun xv h₁ g₁ => WP c A (pyIter xv) (fun it h₂ g₂ => ∃ I k P St, it = .ref I ∧ Walks PySem.Challenge.pw_ul0008_01 c.w A I [I] [I] k P St ∧ k ≤ sizeLine ∧ St 0 h₂ ∧ I < h₂.objs.size ∧
       (∀ (d : Drawn) (o : OsState) C i v h₃ g₃ m₃, P i v → h₃.Ns C m₃ → m₃ x = some v → (∀ b o, b ≠ I → h₂.get? b = some o → h₃.get? b = some o) →
          WP ⟨c.w, d, o, c.b⟩ A (isTrue ifc (compEnvC scope cl C env) (eval ifc (compEnvC scope cl C env))) (fun ok h₄ g₄ => ok = p v ∧ g₄ = g₃ ∧ ∀ b o, h₃.get? b = some o → h₄.get? b = some o) F0 h₃ g₃) ∧
       (∀ D h' ys (vs : List Value), h₂.get? D = none → (∃ o, h'.get? D = some o ∧ PlA ys o) → vs.length = k → (∀ j v, vs[j]? = some v → P j v) → ys.toList = vs.filter p → (∀ b o, b ≠ I → h₂.get? b = some o → h'.get? b = some o) → Q (.ref D) h' g₂)) E h₁ g₁) E h g)
    (hkd : (compEnvC scope cl 0 env).scope.kind = .function) (hxe : (compEnvC scope cl 0 env).kindOf x = some .local) (hd : (x == ("__debug__" : Str)) = false := by rfl) (hs : ∀ x, foldedSetIterable iter env x = pure x := by intro _; rfl) :
    WP c A (eval (.ListComp (.Name x ex) [⟨.Name x px, iter, [ifc], 0⟩] scope pos) env) Q E h g := by
  intro tk
  refine wpAny_ListComp_free p (fun v y => y = v) hclos (fun y hy q => ?_) hkind (fun y hy q => ?_) hx (y.step fun xv s₁ e1 e2 q => q.stepAt e1 e2 fun it s₂ e1 e2 q => ?_) hs
  · have := List.all_eq_true.mp hcell y hy
    rw [q] at this; cases this
  · have := List.all_eq_true.mp hnames y hy
    rw [q] at this
    simpa using this
  · refine absP fun Y hY => ?_
    obtain ⟨I, k, P, St, rfl, W, hk, hst, hI, ht, hQ⟩ := q
    refine hY ⟨I, _, _, k, P, St, rfl, W, hk, hst, fun b hb => by rw [List.mem_singleton.mp hb]; exact hI, ⟨fun C i v s₃ m₃ E' hC hP hn hm hkp htk => ?_, fun C i v s₃ m₃ E' hC hP hp hn hm hkp htk => ?_⟩, fun D h' tk' ys vs hD hl hpl hlen hPs hF hkp => ⟨e1.1, e2, ?_⟩⟩
    · refine wpAny_tests_one ?_
      have z := ht s₃.drawn s₃.os C i v s₃.heap s₃.gens m₃ hP hn hm fun b o hb e => hkp b o (by simpa using hb) e
      refine wpAny_mono (z.at (s := s₃) ⟨rfl, Nat.le_trans e1.2 htk⟩ rfl) (fun ok s₄ ⟨d1, d2, d3, d4, d5⟩ => ⟨d3, s₄.heap, s₄.toks, ?_, d5⟩) fun _ _ ⟨_, _, f⟩ => f.elim
      obtain ⟨h4, g4, dr4, t4, o4⟩ := s₄
      obtain ⟨h3, g3, dr3, t3, o3⟩ := s₃
      dsimp only at d1 d2 d4 ⊢
      rw [d1, d2, d4]
    · exact wpAny_Name (wpAny_loadName_local hkd hxe hn hm ⟨rfl, s₃.heap, s₃.toks, rfl, fun _ _ e => e⟩) hd
    · refine hQ D h' ys vs hD ?_ hlen hPs ?_ fun b o hb e => hkp b o (by simpa using hb) e
      · obtain ⟨k, e⟩ := hpl
        exact ⟨_, e, k, rfl⟩
      · have : ∀ {a b : List Value}, Paired (fun v y => y = v) a b → b = a := fun {a b} q => by
          induction q with
          | nil => rfl
          | cons h1 _ ih => rw [h1, ih]
        exact this hF
theorem e_compair {elt iter : Expr} {elts : List Expr} {k : Nat} {tp : Pos} {scope : Scope} {cl : List (Str × Addr)} {pos : Pos} {Q : PostV Value}
    (hclos : closureFor scope env = pure cl) (hcell : (scope.names.all fun x => x.2 != .cell) = true) (hkind : scope.kind = .function) (hnames : (scope.names.all fun y => y.2 != .local || decide (scope.names.lookup y.1 = some .local)) = true)
    (y : WP c A (eval iter env) (fun xv h₁ g₁ => WP c A (pyIter xv) (fun it h₂ g₂ => ∀ D C h₃, h₂.get? D = none → h₂.get? C = none → D ≠ C → (∀ b o, h₂.get? b = some o → h₃.get? b = some o) → (∃ o, h₃.get? D = some o ∧ PlA #[] o) → h₃.Ns C (fun _ => none) →
       WP c A (pyIter it) (fun it' h' g' => it' = it ∧ h' = h₃ ∧ g' = g₂) F0 h₃ g₂ ∧
       CP c A (.compLoop (.ListComp elt [⟨.Tuple elts k tp, iter, [], 0⟩] scope pos) 0 it (.ref D) (compEnvC scope cl C env)) (fun r h' g' => r = .ok .next ∧ ∃ m, h'.Ns C m ∧ ∀ h'', Heap.SameBut C h' h'' → Q (.ref D) h'' g') h₃ g₂) E h₁ g₁) E h g)
    (hs : ∀ x, foldedSetIterable iter env x = pure x := by intro _; rfl) :
    WP c A (eval (.ListComp elt [⟨.Tuple elts k tp, iter, [], 0⟩] scope pos) env) Q E h g := by
  intro tk
  rw [eval_ListComp]
  refine wpAny_comprehension_free (use := none) rfl hs hclos hkind (fun y hy q => ?_) (y.step fun xv s₁ e1 e2 q => q.stepAt e1 e2 fun it s₂ e1 e2 q => ?_)
  · have := List.all_eq_true.mp hnames y hy
    rw [q] at this
    simpa using this
  · refine wpAny_newObj_type (wpAny_newFunctionEnv (fun y hy q => ?_) (by intro y hy; simp at hy) (fun h₁ hns₁ hsb₁ => ?_) hkind)
    · have := List.all_eq_true.mp hcell y hy
      rw [q] at this; cases this
    dsimp only at hns₁ hsb₁ ⊢
    generalize hH2 : s₂.heap.push { cls := .type "list", dict := none, data := .seq ([] : List Value).toArray } = H2 at hns₁ hsb₁ ⊢
    have hC : H2.objs.size = s₂.heap.objs.size + 1 := by rw [← hH2, Heap.size_push]
    have hDC : s₂.heap.objs.size ≠ H2.objs.size := by rw [hC]; exact Nat.ne_of_lt (Nat.lt_succ_self _)
    have old : ∀ b o, s₂.heap.get? b = some o → h₁.get? b = some o := fun b o e => hsb₁.extBut b o (by rw [hC]; exact Nat.ne_of_lt (Nat.lt_succ_of_lt (Heap.lt_size e))) (Heap.get?_push_of_some _ (hH2 ▸ Heap.get?_push_of_some _ e))
    have hacc : ∃ o, h₁.get? s₂.heap.objs.size = some o ∧ PlA #[] o := ⟨_, hsb₁.extBut _ _ hDC (Heap.get?_push_of_some _ (hH2 ▸ Heap.get?_push_size _ rfl)), _, rfl⟩
    have hCn : s₂.heap.get? H2.objs.size = none := by
      cases e : s₂.heap.get? H2.objs.size with
      | none => rfl
      | some o => exact absurd (Heap.lt_size e) (by rw [hC]; exact Nat.not_lt.mpr (Nat.le_succ _))
    obtain ⟨z1, z2⟩ := q s₂.heap.objs.size H2.objs.size h₁ Lg.get_size hCn hDC old hacc hns₁
    have fin : ∀ s₃ : Shared, s₃ = { s₂ with heap := h₁, toks := s₂.toks + ([] : List (Str × Value)).length } → codeAny c.M A (.compLoop (.ListComp elt [⟨.Tuple elts k tp, iter, [], 0⟩] scope pos) 0 it (.ref s₂.heap.objs.size) (compEnvC scope cl H2.objs.size env)) (compPost c.M A (fun e s' => s'.drawn = c.d ∧ s'.os = c.o ∧ E e s'.heap s'.gens) none (fun a s' => s'.drawn = c.d ∧ s'.os = c.o ∧ Q a s'.heap s'.gens) (.ref s₂.heap.objs.size) H2.objs.size) s₃ := by
      rintro s₃ rfl
      refine codeAny_mono (z2.at (s := { s₂ with heap := h₁, toks := s₂.toks + ([] : List (Str × Value)).length }) e1 e2) (fun r s' ⟨d1, d2, d3, m, d4, d5⟩ => ?_)
      subst d3
      exact ⟨m, d4, fun h'' hs => ⟨d1, d2, d5 h'' hs⟩⟩
    refine codeAny_compStart_list (fin _ rfl) (wpAny_mono (z1.stepAt (s := { s₂ with heap := h₁, toks := s₂.toks + ([] : List (Str × Value)).length }) (X := fun it' s' => codeAny c.M A (.compLoop (.ListComp elt [⟨.Tuple elts k tp, iter, [], 0⟩] scope pos) 0 it' (.ref s₂.heap.objs.size) (compEnvC scope cl H2.objs.size env)) (compPost c.M A (fun e s' => s'.drawn = c.d ∧ s'.os = c.o ∧ E e s'.heap s'.gens) none (fun a s' => s'.drawn = c.d ∧ s'.os = c.o ∧ Q a s'.heap s'.gens) (.ref s₂.heap.objs.size) H2.objs.size) s') e1 e2 fun it' s' d1 d2 q => ?_) (fun _ _ q => q) fun _ _ ⟨_, _, f⟩ => f.elim)
    obtain ⟨rfl, q2, q3⟩ := q
    rw [← q2, ← q3] at z2
    refine codeAny_mono (z2.at (s := s') d1 d2) (fun r s'' ⟨d1, d2, d3, m, d4, d5⟩ => ?_)
    subst d3
    exact ⟨m, d4, fun h'' hs => ⟨d1, d2, d5 h'' hs⟩⟩
theorem cl_ind {elt iter : Expr} {elts : List Expr} {k : Nat} {tp : Pos} {scope : Scope} {pos : Pos} {it acc : Value} {R : PostV Result} {N : Nat} (J : Nat → Heap → Gens → Prop) (h0 : J 0 h g)
    (step : ∀ i h g, i < N → J i h g → WP c A (pyNext it) (fun o h₁ g₁ => ∃ v, o = some v ∧ WP c A (letOwnedTupleGo (.Tuple elts k tp) it v) (fun _ h₁ g₁ => WP c A (assign (.Tuple elts k tp) env v) (fun _ h₂ g₂ => WP c A (eval elt env)
      (fun x h₃ g₃ => WP c A (call (.builtin "list.append") [acc, x]) (fun _ h₄ g₄ => J (i + 1) h₄ g₄) F0 h₃ g₃) F0 h₂ g₂) F0 h₁ g₁) F0 h₁ g₁) F0 h g)
    (done : ∀ h g, J N h g → WP c A (pyNext it) (fun o h₁ g₁ => o = none ∧ R (.ok .next) h₁ g₁) F0 h g) : CP c A (.compLoop (.ListComp elt [⟨.Tuple elts k tp, iter, [], 0⟩] scope pos) 0 it acc env) R h g := by
  intro tk
  refine LCp.codeAny_compLoop_pair (fun k s => (s.drawn = c.d ∧ c.b + 1 ≤ s.toks) ∧ s.os = c.o ∧ ∃ i, i ≤ N ∧ k = N - i ∧ J i s.heap s.gens) (fun k s hI => ?_) N ⟨⟨rfl, Nat.le_add_left _ _⟩, rfl, 0, Nat.zero_le _, rfl, h0⟩
  obtain ⟨e1, e2, i, hi, rfl, hJ⟩ := hI
  by_cases hlt : i < N
  · refine wpAny_mono ((step i _ _ hlt hJ).stepAt e1 e2 fun o s₁ e1 e2 q => ?_) (fun _ _ q => q) fun _ _ ⟨_, _, f⟩ => f.elim
    obtain ⟨v, rfl, q⟩ := q
    refine wpAny_mono (q.stepAt e1 e2 fun _ s₂ e1 e2 q => ?_) (fun _ _ q => q) fun _ _ ⟨_, _, f⟩ => f.elim
    refine wpAny_mono (q.stepAt e1 e2 fun _ s₂ e1 e2 q => ?_) (fun _ _ q => q) fun _ _ ⟨_, _, f⟩ => f.elim
    refine wpAny_mono (q.stepAt e1 e2 fun _ s₂ e1 e2 q => ?_) (fun _ _ q => q) fun _ _ ⟨_, _, f⟩ => f.elim
    exact wpAny_mono (q.stepAt e1 e2 fun _ s₂ e1 e2 q => ⟨N - (i + 1), by omega, e1, e2, i + 1, hlt, rfl, q⟩) (fun _ _ q => q) fun _ _ ⟨_, _, f⟩ => f.elim
  · obtain rfl : i = N := by omega
    refine wpAny_mono ((done _ _ hJ).at e1 e2) (fun o s₁ ⟨e1, e2, q⟩ => ?_) fun _ _ ⟨_, _, f⟩ => f.elim
    obtain ⟨rfl, q⟩ := q
    exact ⟨e1, e2, q⟩
theorem o_append {l : Addr} {items : Array Value} {x : Value} {Q : PostV Value} (hl : h.IsList l items) (hsz : items.size ≤ 1000) (q : ∀ h', h'.IsList l (items.push x) → Heap.SameBut l h h' → Q .none h' g) : WP c A (call (.builtin "list.append") [.ref l, x]) Q E h g :=
  fun _ => wpAny_list_append hl (fun h' h1 h2 => ⟨rfl, rfl, q h' h1 h2⟩) (by rw [sizeLine_eq]; omega)
theorem i_listiter {it l : Addr} {i : Nat} {Q : PostV Value} (hit : h.IsListIter it l i) (q : Q (.ref it) h g) : WP c A (pyIter (.ref it)) Q E h g := fun _ => wpAny_pyIter_listiter hit ⟨rfl, rfl, q⟩
end
end Mine
end

noncomputable section
open PySem PySem.Builtin PySem.Builtin.Str PySem.W PySem.Calls PyProof.Rows PySem.Spec
set_option Elab.async false
set_option maxRecDepth 100000
set_option linter.unusedVariables false
set_option maxHeartbeats 2000000
set_option pp.deepTerms false
set_option pp.deepTerms.threshold 6
set_option pp.maxSteps 2000
namespace Mine
abbrev lamObj (name qual : Str) (params : Arguments) (body : Expr) (scope : Scope) (clos : List (Str × Addr)) (pm cdv ctv : Value) : Obj :=
  { cls := .type "function", data := .func (kla_fn name qual params body scope clos pm cdv ctv) }
def noHeap : Heap := {}
theorem noHeap_get (b : Addr) : noHeap.get? b = none := Heap.get?_none_of_le (Nat.zero_le _)
def allNews (h : Heap) (L : Addr) : List (Addr × Obj) := (List.range h.objs.size).filterMap fun a => if a = L then none else (h.get? a).map fun o => (a, o)
theorem allNews_mem {h : Heap} {L b : Addr} {o : Obj} (hb : b ≠ L) (e : h.get? b = some o) : (b, o) ∈ allNews h L :=
  List.mem_filterMap.mpr ⟨b, List.mem_range.mpr (Heap.lt_size e), by rw [if_neg hb, e]; rfl⟩
theorem allNews_is {h : Heap} {L : Addr} : News noHeap L h (allNews h L) := fun p hp => by
  obtain ⟨a, ha, e⟩ := List.mem_filterMap.mp hp
  split at e
  · cases e
  · rename_i hne
    cases q : h.get? a with
    | none => rw [q] at e; cases e
    | some o =>
      rw [q] at e
      cases e
      exact ⟨q, hne, noHeap_get _⟩
section
variable {c : Cx} {F : Fix} {A : Around} {n : Nat} {E : PostV Value} {h : Heap} {g : Gens} {env : Env} {gg : Heap} {L : Addr} {m : Str → Option Value} {cs : List Cell}
/-- all but the frame's names stands -/
theorem Lg.but {h' : Heap} (D : Lg F gg L m cs h) (k : ∀ b o, b ≠ L → h.get? b = some o → h'.get? b = some o) (hn : h'.Ns L m) : Lg F gg L m cs h' where
  base := D.base
  keep b o e := k b o (fun q => by rw [q, D.off] at e; cases e) (D.keep b o e)
  tabs := D.tabs.mono fun b o ht e => k b o (fun q => by
    obtain ⟨o', es, ep, h1, h2, _⟩ := D.ns
    rw [q, h1] at e
    cases e
    exact ht (tame_dict h2)) e
  ns := hn
  off := D.off
  own p hp := let ⟨⟨o, h1, h2⟩, h3, h4, h5⟩ := D.own p hp; ⟨⟨o, k _ _ h4 h1, h2⟩, h3, h4, h5⟩
  nd := D.nd
theorem e_lam (S : St F) (D : Lg F gg L m cs h) (hg : ∀ b ∈ F.ns.map (·.P), gg.get? b = none) {nt : NestAt} (mem : nt ∈ F.ns) {cc : Addr} (C : CodeHd F.H cc nt.P)
    {params : Arguments} {body : Expr} {scope : Scope} {pos : Pos} {clos : List (Str × Addr)} {Q : PostV Value} (hpos : nt.pos = pos) (hq : nt.q = env.qual ++ "<lambda>")
    (hcl : closureFor scope env = pure clos) (hge : env.globals = mainGlobals) (hcode : env.code = .ref cc) (hdef : defaultsOf params env = ([], []))
    (x : ∀ f h' cdv ctv pm, h.get? f = none → (∀ b o, b ∉ F.ns.map (·.P) → h.get? b = some o → h'.get? b = some o) → Lg F gg L m ((f, (· = lamObj "<lambda>" nt.q params body scope clos pm cdv ctv)) :: cs) h' → h'.CodeRec cdv nt.q → Q (.ref f) h' g) :
    WP c A (eval (.Lambda params body scope pos) env) Q E h g := by
  intro tk
  refine kla_eval hdef ?_
  rw [← hq]
  subst hpos
  obtain ⟨ps, p1, p2, p3⟩ := D.tabs nt mem
  have hP := S.sep.apart nt.P (List.mem_map_of_mem mem)
  have hgP : mainGlobals ≠ nt.P := fun q => by
    obtain ⟨o, _, _, e, _⟩ := S.g
    rw [q, hP] at e; cases e
  have hb : h.BuiltinsAt F.mg nt.P := by
    obtain ⟨bm, ob, b1, b2, b3, b4, b5, b6⟩ := S.bmain
    refine ⟨bm, ob, b1, b2, fun q => ?_, fun q => ?_, D.st _ _ b3, b4, b5, b6⟩
    · obtain ⟨o, _, _, e, e2, _⟩ := S.g
      rw [q, e] at b3; cases b3
      rw [b6] at e2; cases e2
    · rw [q, hP] at b3; cases b3
  have hgm := S.g.keeps D.st
  have C' := C.keeps D.st
  cases hf : codeAmong nt.pos ps.toList with
  | none =>
    refine kla_makeFunction (s := ⟨h, g, c.d, tk + (c.b + 1), c.o⟩) hcl hge hgm hcode C' p1 p2 hf hgP hb fun c' ctv h' tk' k l1 l2 hr hp => ?_
    have D₁ := D.tabGrown S.sep hg mem k ⟨_, hp, by rw [Array.toList_append]; exact TriplesOk_snoc _ _ _ _ p2, fun cv hc => by
      rw [Array.toList_append] at hc
      have := codeAmong_snoc (c := Value.ref c') _ p2 hf
      rw [show (#[rawInt nt.pos.line, rawInt nt.pos.col, Value.ref c'] : Array Value).toList = [rawInt nt.pos.line, rawInt nt.pos.col, Value.ref c'] from rfl, this] at hc
      cases hc
      obtain ⟨c, o, vs, t, r1, r2, r3, r4⟩ := hr
      exact ⟨c, o, vs, t, r1, r2, r3, r4⟩⟩
    have D₂ := D₁.push (lamObj "<lambda>" nt.q params body scope clos ((F.mg "__name__").getD .none) (.ref c') ctv)
    refine ⟨rfl, rfl, x _ _ (.ref c') ctv _ ?_ (fun b o hb e => Heap.get?_push_of_some _ (k b o (fun q => hb (q ▸ List.mem_map_of_mem mem)) e)) D₂ ?_⟩
    · cases e : h.get? h'.objs.size with
      | none => rfl
      | some o =>
        by_cases q : h'.objs.size = nt.P
        · rw [q] at e
          exact absurd (Heap.lt_size hp) (by rw [q]; exact Nat.lt_irrefl _)
        · exact absurd (Heap.lt_size (k _ _ q e)) (Nat.lt_irrefl _)
    · obtain ⟨c, o, vs, t, r1, r2, r3, r4⟩ := hr
      exact ⟨c, o, vs, t, r1, Heap.get?_push_of_some _ r2, r3, r4⟩
  | some cv =>
    obtain ⟨cq, o, vs, t, r1, r2, r3, r4⟩ := p3 cv hf
    refine kla_makeFunctionHit (s := ⟨h, g, c.d, tk + (c.b + 1), c.o⟩) hcl hge hgm hcode C' p1 p2 hf hb fun ctv h' tk' k l1 => ?_
    have D₂ := (D.more k).push (lamObj "<lambda>" nt.q params body scope clos ((F.mg "__name__").getD .none) cv ctv)
    refine ⟨rfl, rfl, x _ _ cv ctv _ ?_ (fun b o _ e => Heap.get?_push_of_some _ (k b o e)) D₂ ⟨cq, o, vs, t, r1, Heap.get?_push_of_some _ (k _ _ r2), r3, r4⟩⟩
    cases e : h.get? h'.objs.size with
    | none => rfl
    | some o => exact absurd (Heap.lt_size (k _ _ e)) (Nat.lt_irrefl _)
/-- the third of a tuple, told by a lambda -/
theorem lam_turn {prog : Program} {w : World} {A : Around} {s : Shared} {f a : Addr} {qual x : Str} {params : Arguments} {scope : Scope} {pm cdv ctv : Value} {p1 p2 p3 : Pos} {kk : Nat} {items : Array Value} {k : Int} {t : Tok} {need : List (Addr × Obj)}
    (hroom : A.depth < recursionLimit) (ho : s.heap.get? f = some (lamObj "<lambda>" qual params (.Subscript (.Name x p1) (.Constant (.int 2) kk p2) p3) scope [] pm cdv ctv)) (hcd : s.heap.CodeRec cdv qual) (hnl : s.heap.NoLimit)
    (hbind : bindArgs (kla_fn "<lambda>" qual params (.Subscript (.Name x p1) (.Constant (.int 2) kk p2) p3) scope [] pm cdv ctv) ⟨[.ref a], []⟩ = pure [(x, .ref a)]) (hloc : scope.names.lookup x = some .local) (hcell : (scope.names.all fun x => x.2 != .cell) = true)
    (hd : (x == ("__debug__" : Str)) = false) (hco : scope.isCoroutine = false) (hgen : scope.isGenerator = false) (hk : scope.kind = .function)
    (ha : IsTup s.heap a items) (hi : items[2]? = some (.int k t)) (F' : Fr noHeap L s.heap m) (N : News noHeap L s.heap need) :
    wpAny (model prog w) A (call (.ref f) [.ref a]) (KskEnd noHeap L m need k s) (fun _ _ => False) s := by
  refine wpAny_call (kla_callFunE hroom ho rfl hco hgen rfl hcd ?_)
  rw [hbind]
  refine wpAny_pure (wpAny_newFunctionEnv (fun y hy q => ?_) (fun y hy => by rw [List.mem_singleton.mp hy]; exact hloc) (fun h₁ hns hsb => ⟨hnl.fresh _ hsb, ?_⟩) hk)
  · have := List.all_eq_true.mp hcell y hy
    rw [q] at this; cases this
  have hk₁ : ∀ b o, s.heap.get? b = some o → h₁.get? b = some o := fun b o e => hsb.extBut b o (Nat.ne_of_lt (Heap.lt_size e)) (Heap.get?_push_of_some _ e)
  show codeAny _ _ (.expr _ (envX qual scope s.heap.objs.size f cdv [])) _ _
  refine kla_codeExpr ?_
  refine Subscript_Constant (wpAny_Name (wpAny_loadName_local (m := fun y => [(x, Value.ref a)].reverse.lookup y) hk hloc hns (v := .ref a) (by simp [List.lookup]) ?_) hd) (by intro _ _; rfl)
  refine wpAny_Constant_int ⟨"tuple", _, slot_tuple_getitem.lookup, (ha.keeps hk₁).typeIs, PyProof.Rows.getItem_tuple (j := 2) (ha.keeps hk₁) (by decide) (by decide) ?_ hi ?_⟩
  · have : 2 < items.size := (Array.getElem?_eq_some_iff.mp hi).1
    exact StrLaws.seqIndex_nonneg (by decide) (by omega)
  · exact ⟨h₁, _, t, rfl, rfl, F'.keeps hk₁, N.grown hk₁⟩
theorem o_sorted {l f : Addr} {vs : List Value} {kz : List Int} {qual x : Str} {params : Arguments} {scope : Scope} {pm cdv ctv : Value} {p1 p2 p3 : Pos} {kk : Nat} {Q : PostV Value} (S : St F) (D : Lg F gg L m cs h) (hA : A.depth < recursionLimit) (hl : h.IsList l vs.toArray) (hlen : kz.length = vs.length) (h64 : vs.length < 64)
    (ho : h.get? f = some (lamObj "<lambda>" qual params (.Subscript (.Name x p1) (.Constant (.int 2) kk p2) p3) scope [] pm cdv ctv)) (hcd : h.CodeRec cdv qual)
    (hbind : ∀ a, bindArgs (kla_fn "<lambda>" qual params (.Subscript (.Name x p1) (.Constant (.int 2) kk p2) p3) scope [] pm cdv ctv) ⟨[.ref a], []⟩ = pure [(x, .ref a)]) (hloc : scope.names.lookup x = some .local) (hcell : (scope.names.all fun x => x.2 != .cell) = true)
    (hd : (x == ("__debug__" : Str)) = false) (hco : scope.isCoroutine = false) (hgen : scope.isGenerator = false) (hk : scope.kind = .function)
    (hv : ∀ (i : Nat) (v : Value) (k : Int), vs[i]? = some v → kz[i]? = some k → ∃ a items t, v = .ref a ∧ IsTup h a items ∧ items[2]? = some (.int k t))
    (q : ∀ T h' out, Lg F gg L m cs h' → (∀ b o, b ≠ L → h.get? b = some o → h'.get? b = some o) → h.get? T = none → (∃ o, h'.get? T = some o ∧ PlA out o) → KskOut false kz vs out.toList → Q (.ref T) h' g) :
    WP c A (call (.builtin "sorted") [.ref l] [(Str.ofString "key", .ref f)]) Q E h g := by
  intro tk
  have neL : ∀ {b : Addr} {o : Obj}, h.get? b = some o → (∀ es ep, o.data ≠ .dict es ep) → b ≠ L := fun {b o} e hd q => by
    obtain ⟨o', es, ep, h1, h2, _⟩ := D.ns
    rw [q, h1] at e; cases e
    exact hd _ _ h2
  have keeps : ∀ {h₁ : Heap} {own : List (Addr × Obj)}, News noHeap L h₁ (allNews h L ++ own) → ∀ b o, b ≠ L → h.get? b = some o → h₁.get? b = some o := fun N b o hb e => (N (b, o) (List.mem_append_left _ (allNews_mem hb e))).1
  refine ksk_sorted (s := ⟨h, g, c.d, tk + (c.b + 1), c.o⟩) (h₀ := noHeap) (L := L) (m := m) (news := allNews h L) (b := false) ⟨D.ns, (fun b o e => by rw [noHeap_get] at e; cases e), Nat.zero_le _⟩ allNews_is hl hlen h64 (ksk_s1 _ _) (fun _ => ksk_l1 _ _) (fun x => ksk_t1 _ _) (fun i v k hv1 hk1 h₁ tk₁ own F₁ N₁ => ?_) fun T h' tk' out e F' N' l1 ko => ⟨rfl, rfl, ?_⟩
  · obtain ⟨a, items, t, rfl, ha, hi⟩ := hv i v k hv1 hk1
    refine lam_turn hA (keeps N₁ _ _ (neL ho fun _ _ q => by cases q) ho) ?_ ?_ (hbind a) hloc hcell hd hco hgen hk ?_ hi F₁ N₁
    · obtain ⟨cc, oc, vs', t', r1, r2, r3, r4⟩ := hcd
      exact ⟨cc, oc, vs', t', r1, keeps N₁ _ _ (neL r2 fun _ _ q => by rw [r3] at q; cases q) r2, r3, r4⟩
    · exact S.nolimit.keeps fun b o e => keeps N₁ b o (fun q => by rw [q] at e; have := D.base _ _ e; rw [D.off] at this; cases this) (D.st b o e)
    · obtain ⟨o, h1, h2, n1, h3⟩ := ha
      exact ⟨o, keeps N₁ _ _ (neL h1 fun _ _ q => by rw [h3] at q; cases q) h1, h2, n1, h3⟩
  · have k : ∀ b o, b ≠ L → h.get? b = some o → h'.get? b = some o := fun b o hb e => (N' (b, o) (.tail _ (allNews_mem hb e))).1
    refine q T h' out (D.but k F'.ns) k ?_ ⟨_, (N' _ (.head _)).1, e, rfl⟩ ko
    cases z : h.get? T with
    | none => rfl
    | some o => exact absurd (l1 _ (allNews_mem (N' _ (.head _)).2.1 z)) (Nat.lt_irrefl _)
/-- a call with one keyword -/
theorem e_callkw {x kw : Str} {np pos kp : Pos} {id : String} {e value : Expr} {Q : PostV Value} 
    (y : WP c A (eval (.Name x np) env) (fun f h₁ g₁ => f = .builtin id ∧ WP c A (eval e env) (fun v h₂ g₂ => WP c A (eval value env) (fun u h₃ g₃ => WP c A (call (.builtin id) [v] [(kw, u)]) Q E h₃ g₃) E h₂ g₂) E h₁ g₁) E h g)
    (he : starEach [e] env = (false, eval e env) :: starEach [] env := by rfl) :
    WP c A (eval (.Call (.Name x np) [e] [⟨some kw, value, kp⟩] pos) env) Q E h g := by
  intro tk
  show wpAny c.M A (do callWith pos (← eval (.Name x np) env) [] (backTo pos (starEach [e] env)) (backToKw pos (keywordEach [⟨some kw, value, kp⟩] env))) _ _ _
  refine wpAny_bind (y.step fun f s' e1 e2 q => ?_)
  obtain ⟨rfl, q⟩ := q
  have hb := back_cons (pos := pos) he
  refine callWith_kw (kws := [⟨some kw, value, kp⟩]) ?_ hb (by rw [hb]; rfl)
  rw [hb]
  refine Calls.spliced_cons (q.stepAt e1 e2 fun v s₂ e1 e2 q => Calls.spliced_nil (kws_cons (q.stepAt e1 e2 fun u s₃ e1 e2 q => kws_nil ?_)))
  exact q.at e1 e2
end
end Mine
end

noncomputable section
open PySem PySem.Builtin PySem.Builtin.Str PySem.W PySem.Calls PyProof.Rows PySem.Spec
set_option Elab.async false
set_option maxRecDepth 100000
set_option linter.unusedVariables false
set_option maxHeartbeats 2000000
set_option pp.deepTerms false
set_option pp.deepTerms.threshold 6
set_option pp.maxSteps 2000
namespace Mine
def PAIRS : List (Nat × Nat) := [(2,3),(3,2),(1,4),(3,4),(5,2),(3,5)]
def hostsL : List (List Nat) := [[], [40], [97,92,34,41], [41,92,92]]
def stepH (op cl k : Nat) : Int := if k = 0 then (cl : Int) else -(op : Int)
def hgt (op cl : Nat) (ks : List Nat) : Int := (ks.map (stepH op cl)).sum
/-- the ring: kinds, hosts, ports -/
structure IsRing (op cl : Nat) (p0 : Int) (ring : List Pc) (rest : List Nat) : Prop where
  kinds : (ring.map (·.kind) ++ rest).Perm (List.replicate op 0 ++ List.replicate cl 1)
  hosts : ∀ x ∈ ring, x.host ∈ hostsL
  ports : ∀ j x, ring[j]? = some x → x.port = p0 + hgt op cl ((ring.map (·.kind)).take j)
def lamPos : Pos := match (recAt 21).body[21]? with
  | some (Stmt.Assign _ (Expr.Call _ _ (⟨_, Expr.Lambda _ _ _ p, _⟩ :: _) _) _) => p
  | _ => ⟨0, 0, 0, 0⟩
def nest21 : NestAt := ⟨144, lamPos, (recAt 21).name ++ ".<locals>." ++ "<lambda>"⟩
/-- what the law's own text adds -/
structure Tz (F : Fix) (K : Frag) : Prop extends Tx F where
  Y : Hcls F K
  f16 : FnAt F.H F.mg 16 121 (.ref 120)
  f18 : FnAt F.H F.mg 18 128 (.ref 127)
  f19 : FnAt F.H F.mg 19 135 (.ref 134)
  f20 : FnAt F.H F.mg 20 142 (.ref 141)
  n21 : nest21 ∈ F.ns
  c21 : CodeHd F.H 146 144
abbrev LE (L : Addr) : Env := envOfC (recAt 21).name (recAt 21).scope L 147 (.ref 146)
section
variable {c : Cx} {F : Fix} {K : Frag} {A : Around} {n : Nat} {E : PostV Value} {h : Heap} {g : Gens} {L : Addr} {gg : Heap} {m : Str → Option Value} {cs : List Cell} {env : Env}
theorem Lg.dropN (k : Nat) (D : Lg F gg L m cs h) : Lg F gg L m (cs.drop k) h := D.drop (List.drop_sublist k cs)
theorem nl {x : Str} {pos : Pos} {v : Value} {Q : PostV Value} (hE : env = LE L) (hn : h.Ns L m) (hv : m x = some v) (q : Q v h g) (hl : (LE 0).kindOf x = some .local := by kernel_rfl) (hd : (x == ("__debug__" : Str)) = false := by kernel_rfl) : WP c A (eval (.Name x pos) env) Q E h g := by
  subst hE
  exact n_local hn hv q (by kernel_rfl) hl hd
theorem nce {x : Str} {pos : Pos} {a : Addr} {v : Value} {Q : PostV Value} (hE : env = LE L) (hc : (LE L).cells.lookup x = some a) (hn : h.IsCell a (some v)) (q : Q v h g) (hl : (LE 0).kindOf x = some .cell := by kernel_rfl) (hd : (x == ("__debug__" : Str)) = false := by kernel_rfl) : WP c A (eval (.Name x pos) env) Q E h g := by
  subst hE
  exact n_cell hn hc q (by kernel_rfl) hl hd
theorem cell_closing : (LE L).cells.lookup (Str.ofString "closing") = some (L + 1) := by kernel_rfl
theorem cell_count : (LE L).cells.lookup (Str.ofString "count") = some (L + 1 + 1) := by kernel_rfl
theorem ng {x : Str} {pos : Pos} {v : Value} {Q : PostV Value} (hE : env = LE L) (S : St F) (hs : ∀ b o, F.H.get? b = some o → h.get? b = some o) (hv : F.mg x = some v) (q : Q v h g) (hl : (LE 0).kindOf x = some .globalImplicit := by kernel_rfl) (hd : (x == ("__debug__" : Str)) = false := by kernel_rfl) : WP c A (eval (.Name x pos) env) Q E h g := by
  subst hE
  exact n_global (S.g.keeps hs) hv q (by kernel_rfl) hl hd
theorem nb {x : Str} {pos : Pos} {v : Value} {Q : PostV Value} (hE : env = LE L) (S : St F) (hs : ∀ b o, F.H.get? b = some o → h.get? b = some o) (hb : bootBuiltins x = some v) (q : Q v h g)
    (hx : (["sum", "list", "range", "len", "str", "enumerate", "reversed", "divmod", "min", "sorted", "int", "ValueError", "ZeroDivisionError"] : List Str).contains x = true := by kernel_rfl)
    (hne : (x == ("__name__" : Str)) = false := by kernel_rfl) (hl : (LE 0).kindOf x = some .globalImplicit := by kernel_rfl) (hd : (x == ("__debug__" : Str)) = false := by kernel_rfl) : WP c A (eval (.Name x pos) env) Q E h g := by
  subst hE
  exact n_blt S hs hb q hx hne rfl rfl (by kernel_rfl) hl hd
theorem sl {x : Str} {v : Value} {Q : PostV Unit} (hE : env = LE L) (hn : h.Ns L m) (q : ∀ h', h'.Ns L (fun y => if y = x then some v else m y) → Heap.SameBut L h h' → Q () h' g) (hl : (LE 0).kindOf x = some .local := by kernel_rfl) : WP c A (storeName env x v) Q E h g := by
  subst hE
  exact s_local hn q hl (by kernel_rfl)
theorem sce {x : Str} {v : Value} {a : Addr} {v₀ : Option Value} {Q : PostV Unit} (hE : env = LE L) (hc : (LE L).cells.lookup x = some a) (hv : h.IsCell a v₀) (q : ∀ h', h'.IsCell a (some v) → Heap.SameBut a h h' → Q () h' g) (hl : (LE 0).kindOf x = some .cell := by kernel_rfl) : WP c A (storeName env x v) Q E h g := by
  subst hE
  exact s_cell hv hc q (by kernel_rfl) hl
theorem xe {e : Expr} {pos : Pos} {rest : List Stmt} {Q : PostV Flow} (hE : env = LE L) (x : WP c A (eval e env) (fun v h' g' => (∀ a, v ≠ .ref a) ∧ WP c A (execs rest env) Q E h' g') E h g)
    (hs : swapsWith e none pos.line env = pure false := by rfl) : WP c A (execs (.Expr e pos :: rest) env) Q E h g :=
  x_expr x (by subst hE; kernel_rfl) hs
/-- a goal that is not to be looked into -/
structure SegP (p : Prop) : Prop where
  w : p
theorem lt6 {i : Nat} (h : i < 6) : i = 0 ∨ i = 1 ∨ i = 2 ∨ i = 3 ∨ i = 4 ∨ i = 5 := (by decide : ∀ i, i < 6 → i = 0 ∨ i = 1 ∨ i = 2 ∨ i = 3 ∨ i = 4 ∨ i = 5) i h
theorem pairs_at (S : Int) : ∃ i : Nat, i < 6 ∧ S.fmod 6 = (i : Int) := by
  have h1 := Int.fmod_nonneg_of_pos S (show (0 : Int) < 6 by decide)
  have h2 := Int.fmod_lt_of_pos S (show (0 : Int) < 6 by decide)
  exact ⟨(S.fmod 6).toNat, by omega, by omega⟩
/-- what seg1 leaves -/
inductive Rz1 (F : Fix) (gg : Heap) (L ls : Addr) (g : Gens) (h' : Heap) (g' : Gens) : Prop
  | mk (eg : g' = g) (op : Nat) (cl : Nat) (m' : Str → Option Value) (t1 : Tok) (t2 : Tok) (t3 : Tok)
    (e0 : (op, cl) ∈ PAIRS)
    (e1 : Lg F gg L m' [(L + 1 + 1, CellA (some (.int ((op + cl : Nat) : Int) t1))), (L + 1, CellA (some (.int (cl : Nat) t2)))] h')
    (e2 : m' (Str.ofString "opening") = some (.int (op : Nat) t3))
    (e3 : m' (Str.ofString "script") = some (.ref ls)) : Rz1 F gg L ls g h' g'
theorem seg1 (hE : env = LE L) (X : Tz F K) (D : Lg F gg L m [(L + 1 + 1, CellA none), (L + 1, CellA none)] h) (hA : AOk A n) {ls : Addr} {vs : List Value} {ns : List Int} (hm : m (Str.ofString "script") = some (.ref ls)) (hs : gg.IsList ls vs.toArray) (hi : IntsAre vs ns) (hlen : ns.length ≤ 1000) :
    SegP (WP c A (execs ((recAt 21).body.take 3) env) (fun f h' g' => f = .next ∧ Rz1 F gg L ls g h' g') E h g) := by
  refine ⟨?_⟩
  refine @WP.abs _ _ _ _ _ _ _ _ fun Q0 hQ0 => ?_
  have S := X.S
  refine x_assign ?_
  refine @WP.abs _ _ _ _ _ _ _ _ fun Q1 hQ1 => ?_
  refine e_list ?_
  refine a_e ?_
  refine e_tuple ?_
  refine a_e ?_
  refine e_int fun t0 => ?_
  refine a_e ?_
  refine e_int fun u0 => ?_
  refine a_end ?_
  refine ⟨(show 2 ≤ sizeLine by decide), ?_⟩
  have D1 := D.push { cls := .type "tuple", data := .seq #[.int 2 t0, .int 3 u0] }
  generalize h.objs.size = a0 at D1 ⊢
  generalize h.push _ = h1 at D1 ⊢
  refine a_e ?_
  refine e_tuple ?_
  refine a_e ?_
  refine e_int fun t1 => ?_
  refine a_e ?_
  refine e_int fun u1 => ?_
  refine a_end ?_
  refine ⟨(show 2 ≤ sizeLine by decide), ?_⟩
  have D2 := D1.push { cls := .type "tuple", data := .seq #[.int 3 t1, .int 2 u1] }
  generalize h1.objs.size = a1 at D2 ⊢
  generalize h1.push _ = h2 at D2 ⊢
  refine a_e ?_
  refine e_tuple ?_
  refine a_e ?_
  refine e_int fun t2 => ?_
  refine a_e ?_
  refine e_int fun u2 => ?_
  refine a_end ?_
  refine ⟨(show 2 ≤ sizeLine by decide), ?_⟩
  have D3 := D2.push { cls := .type "tuple", data := .seq #[.int 1 t2, .int 4 u2] }
  generalize h2.objs.size = a2 at D3 ⊢
  generalize h2.push _ = h3 at D3 ⊢
  refine a_e ?_
  refine e_tuple ?_
  refine a_e ?_
  refine e_int fun t3 => ?_
  refine a_e ?_
  refine e_int fun u3 => ?_
  refine a_end ?_
  refine ⟨(show 2 ≤ sizeLine by decide), ?_⟩
  have D4 := D3.push { cls := .type "tuple", data := .seq #[.int 3 t3, .int 4 u3] }
  generalize h3.objs.size = a3 at D4 ⊢
  generalize h3.push _ = h4 at D4 ⊢
  refine a_e ?_
  refine e_tuple ?_
  refine a_e ?_
  refine e_int fun t4 => ?_
  refine a_e ?_
  refine e_int fun u4 => ?_
  refine a_end ?_
  refine ⟨(show 2 ≤ sizeLine by decide), ?_⟩
  have D5 := D4.push { cls := .type "tuple", data := .seq #[.int 5 t4, .int 2 u4] }
  generalize h4.objs.size = a4 at D5 ⊢
  generalize h4.push _ = h5 at D5 ⊢
  refine a_e ?_
  refine e_tuple ?_
  refine a_e ?_
  refine e_int fun t5 => ?_
  refine a_e ?_
  refine e_int fun u5 => ?_
  refine a_end ?_
  refine ⟨(show 2 ≤ sizeLine by decide), ?_⟩
  have D6 := D5.push { cls := .type "tuple", data := .seq #[.int 3 t5, .int 5 u5] }
  generalize h5.objs.size = a5 at D6 ⊢
  generalize h5.push _ = h6 at D6 ⊢
  refine a_end ?_
  refine ⟨(show 6 ≤ sizeLine by decide), ?_⟩
  have D7 := D6.newList #[.ref a0, .ref a1, .ref a2, .ref a3, .ref a4, .ref a5]
  generalize h6.objs.size = lp at D7 ⊢
  generalize h6.push _ = h7 at D7 ⊢
  refine hQ1 _ _ _ ?_
  refine sl hE D7.ns fun h8 j1 j2 => ?_
  replace D7 := D7.store j1 j2
  refine x_assignT ?_
  refine e_sub ?_
  refine nl hE j1 rfl ?_
  refine e_bin ?_
  refine e_call ?_
  refine nb hE S D7.st boot_sum ?_
  refine c_blt ?_
  refine a_e ?_
  refine nl hE j1 hm ?_
  refine a_end ?_
  refine o_sum hA.h (l_keeps hs D7.keep) hi fun h9 t k => ?_
  replace D7 := D7.more k
  refine e_int fun t' => ?_
  obtain ⟨i, hi6, hfm⟩ := pairs_at ns.sum
  refine o_mod' (by decide) hfm fun t'' => ?_
  obtain ⟨a, op, cl, to, tc, e1, e2, e3⟩ : ∃ a op cl to tc, (#[.ref a0, .ref a1, .ref a2, .ref a3, .ref a4, .ref a5] : Array Value)[i]? = some (.ref a) ∧ h9.IsTuple a #[.int ((op : Nat) : Int) to, .int ((cl : Nat) : Int) tc] ∧ (op, cl) ∈ PAIRS := by
    have hc := lt6 hi6
    rcases hc with rfl | rfl | rfl | rfl | rfl | rfl
    · exact ⟨a0, 2, 3, t0, u0, rfl, ⟨_, D7.getE M6, rfl, _, rfl⟩, by decide⟩
    · exact ⟨a1, 3, 2, t1, u1, rfl, ⟨_, D7.getE M5, rfl, _, rfl⟩, by decide⟩
    · exact ⟨a2, 1, 4, t2, u2, rfl, ⟨_, D7.getE M4, rfl, _, rfl⟩, by decide⟩
    · exact ⟨a3, 3, 4, t3, u3, rfl, ⟨_, D7.getE M3, rfl, _, rfl⟩, by decide⟩
    · exact ⟨a4, 5, 2, t4, u4, rfl, ⟨_, D7.getE M2, rfl, _, rfl⟩, by decide⟩
    · exact ⟨a5, 3, 5, t5, u5, rfl, ⟨_, D7.getE M1, rfl, _, rfl⟩, by decide⟩
  refine sb_list (D7.isList M0) (Int.natCast_nonneg _) (by omega) (show _[((i : Nat) : Int).toNat]? = _ from e1) ?_
  refine as_pair hA e2 fun h10 kk => ?_
  replace D7 := D7.more kk
  refine sl hE D7.ns fun h11 j1 j2 => ?_
  replace D7 := D7.store j1 j2
  refine sce hE cell_closing (D7.get M8) fun h12 j1 j2 => ?_
  replace D7 := D7.upd U8 j2 j1 (fun _ => cell_tame)
  refine x_assign ?_
  refine e_bin ?_
  refine nl hE D7.ns rfl ?_
  refine nce hE cell_closing (D7.get M8) ?_
  refine o_add' (r := ((op + cl : Nat) : Int)) (by push_cast; rfl) fun t9 => ?_
  refine sce hE cell_count (D7.get M7) fun h13 j1 j2 => ?_
  replace D7 := D7.upd U7 j2 j1 (fun _ => cell_tame)
  have D8 := D7.dropN 7
  exact x_nil <| hQ0 _ _ _ ⟨rfl, rfl, op, cl, _, t9, tc, to, e3, D8, rfl, hm⟩
end
end Mine
end

noncomputable section
open PySem PySem.Builtin PySem.Builtin.Str PySem.W PySem.Calls PyProof.Rows PySem.Spec
set_option Elab.async false
set_option maxRecDepth 100000
set_option linter.unusedVariables false
set_option maxHeartbeats 2000000
set_option pp.deepTerms false
set_option pp.deepTerms.threshold 6
set_option pp.maxSteps 2000
namespace Mine
theorem intsAre_app : ∀ {vs us : List Value} {ns ms : List Int}, IntsAre vs ns → IntsAre us ms → IntsAre (vs ++ us) (ns ++ ms)
  | _, _, _, _, .nil, h => h
  | _, _, _, _, .cons n t r, h => .cons n t (intsAre_app r h)
theorem intsAre_take : ∀ {vs : List Value} {ns : List Int} (k : Nat), IntsAre vs ns → IntsAre (vs.take k) (ns.take k)
  | _, _, 0, _ => by simp; exact .nil
  | _, _, k + 1, .nil => .nil
  | _, _, k + 1, .cons n t r => .cons n t (intsAre_take k r)
/-- numbers in a list's items -/
def NatsAre (items : Array Value) (l : List Nat) : Prop := items.size = l.length ∧ ∀ (j d : Nat), l[j]? = some d → ∃ t, items[j]? = some (.int (d : Nat) t)
theorem natsAre_erase {items : Array Value} {l : List Nat} {i : Nat} (h : NatsAre items l) (hi : i < l.length) : NatsAre (items.eraseIdxIfInBounds i) (l.eraseIdx i) := by
  have hs := h.1
  have e : items.eraseIdxIfInBounds i = items.eraseIdx i (by omega) := by rw [Array.eraseIdxIfInBounds, dif_pos]
  refine ⟨by rw [e, Array.size_eraseIdx, List.length_eraseIdx, if_pos hi, hs], fun j d hd => ?_⟩
  rw [e, Array.getElem?_eraseIdx]
  rw [List.getElem?_eraseIdx] at hd
  split at hd <;> rename_i hc
  · rw [if_pos hc]; exact h.2 _ _ hd
  · rw [if_neg hc]; exact h.2 _ _ hd
theorem natsAre_push {items : Array Value} {l : List Nat} (h : NatsAre items l) (d : Nat) (t : Tok) : NatsAre (items.push (.int (d : Nat) t)) (l ++ [d]) := by
  refine ⟨by simp [h.1], fun j e he => ?_⟩
  have hs := h.1
  by_cases hj : j < l.length
  · rw [List.getElem?_append_left hj] at he
    rw [Array.getElem?_push_lt (by omega), ← Array.getElem?_eq_getElem]
    exact h.2 _ _ he
  · have : j = l.length := by
      refine Nat.le_antisymm (Nat.le_of_lt_succ (Nat.lt_of_not_le fun hle => ?_)) (by omega)
      rw [List.getElem?_eq_none (by simp; omega)] at he
      cases he
    subst this
    simp at he
    subst he
    exact ⟨t, by rw [← hs]; simp⟩
theorem rep_foldV (v : Value) : ∀ (k : Nat) (acc : Array Value), ((List.replicate k (#[v] : Array Value)).foldl (fun x1 x2 => x1 ++ x2) acc) = acc ++ (List.replicate k v).toArray
  | 0, acc => by simp
  | k + 1, acc => by
    rw [List.replicate_succ, List.foldl_cons, rep_foldV v k, List.replicate_succ, Array.append_assoc]
    congr 1
    apply Array.ext'
    simp
def deck0 (op cl : Nat) : List Nat := List.replicate op 0 ++ List.replicate cl 1
theorem natsAre_rep (op cl : Nat) (x0 x1 : Tok) : NatsAre (#[] ++ (List.replicate op (Value.int 0 x0)).toArray ++ (#[] ++ (List.replicate cl (Value.int 1 x1)).toArray)) (deck0 op cl) := by
  have e : (#[] ++ (List.replicate op (Value.int 0 x0)).toArray ++ (#[] ++ (List.replicate cl (Value.int 1 x1)).toArray)) = (List.replicate op (Value.int 0 x0) ++ List.replicate cl (Value.int 1 x1)).toArray := by
    apply Array.ext'
    simp
  rw [e]
  refine ⟨by simp [deck0], fun j d hd => ?_⟩
  rw [List.getElem?_toArray]
  unfold deck0 at hd
  by_cases hj : j < op
  · rw [List.getElem?_append_left (by simpa using hj), List.getElem?_replicate, if_pos hj] at hd
    rw [List.getElem?_append_left (by simpa using hj), List.getElem?_replicate, if_pos hj]
    cases hd
    exact ⟨x0, rfl⟩
  · rw [List.getElem?_append_right (by simp; omega), List.getElem?_replicate] at hd
    rw [List.getElem?_append_right (by simp; omega), List.getElem?_replicate]
    simp only [List.length_replicate] at hd ⊢
    split at hd
    · rename_i hc
      rw [if_pos hc]
      cases hd
      exact ⟨x1, rfl⟩
    · cases hd
def lits8 : List Int := [29, 0, 52, 10, 68, 8, 33, 46]
def cellsL (cnt : Nat) (ns : List Int) : List Int := (ns.take 8 ++ lits8).take cnt
def port0 (ns : List Int) : Int := ns.sum.fmod 1000001 - 500000
/-- the hosts' list -/
def HostsAre (items : Array Value) : Prop := ∀ j, j < 4 → ∃ t, items[j]? = some (.str (T (hostsL.getD j [])) t)
theorem pairs_small : ∀ p ∈ PAIRS, 1 ≤ p.1 ∧ 1 ≤ p.2 ∧ p.1 ≤ 5 ∧ p.2 ≤ 5 ∧ 5 ≤ p.1 + p.2 ∧ p.1 + p.2 ≤ 8 := by decide
theorem cellsL_len {op cl : Nat} (h : (op, cl) ∈ PAIRS) (ns : List Int) : (cellsL (op + cl) ns).length = op + cl := by
  have := pairs_small _ h
  unfold cellsL lits8
  rw [List.length_take, List.length_append]
  simp
  omega
section
variable {c : Cx} {F : Fix} {K : Frag} {A : Around} {n : Nat} {E : PostV Value} {h : Heap} {g : Gens} {L : Addr} {gg : Heap} {m : Str → Option Value} {cs : List Cell} {env : Env}
/-- what seg2 leaves -/
inductive Rz2 (F : Fix) (gg : Heap) (L : Addr) (op cl : Nat) (to t2 t1 : Tok) (ns : List Int) (g : Gens) (h' : Heap) (g' : Gens) : Prop
  | mk (eg : g' = g) (lc : Addr) (cv : Array Value) (lh : Addr) (hv : Array Value) (ld : Addr) (dv : Array Value) (ls : Addr) (sv : Array Value) (lr : Addr) (lhe : Addr) (m' : Str → Option Value) (tp : Tok)
    (e0 : IntsAre cv.toList (cellsL (op + cl) ns))
    (e1 : HostsAre hv)
    (e2 : NatsAre dv (deck0 op cl))
    (e3 : NatsAre sv (List.range (op + cl)))
    (e4 : Lg F gg L m' [(lhe, PlA #[]), (lr, PlA #[]), (ls, PlA sv), (ld, PlA dv), (lh, PlA hv), (lc, PlA cv), (L + 1 + 1, CellA (some (.int ((op + cl : Nat) : Int) t1))), (L + 1, CellA (some (.int (cl : Nat) t2)))] h')
    (e5 : m' (Str.ofString "opening") = some (.int (op : Nat) to))
    (e6 : m' (Str.ofString "cells") = some (.ref lc))
    (e7 : m' (Str.ofString "hosts") = some (.ref lh))
    (e8 : m' (Str.ofString "deck") = some (.ref ld))
    (e9 : m' (Str.ofString "seats") = some (.ref ls))
    (e10 : m' (Str.ofString "port") = some (.int (port0 ns) tp))
    (e11 : m' (Str.ofString "ring") = some (.ref lr))
    (e12 : m' (Str.ofString "hearing") = some (.ref lhe)) : Rz2 F gg L op cl to t2 t1 ns g h' g'
theorem seg2 (hE : env = LE L) (X : Tz F K) {op cl : Nat} {to t2 t1 : Tok} (hp : (op, cl) ∈ PAIRS) (D : Lg F gg L m [(L + 1 + 1, CellA (some (.int ((op + cl : Nat) : Int) t1))), (L + 1, CellA (some (.int (cl : Nat) t2)))] h) (hA : AOk A n) {ls : Addr} {vs : List Value} {ns : List Int} (hm : m (Str.ofString "script") = some (.ref ls)) (hmo : m (Str.ofString "opening") = some (.int (op : Nat) to)) (hs : gg.IsList ls vs.toArray) (hi : IntsAre vs ns) (hlen : ns.length ≤ 1000) :
    SegP (WP c A (execs (((recAt 21).body.drop 3).take 7) env) (fun f h' g' => f = .next ∧ Rz2 F gg L op cl to t2 t1 ns g h' g') E h g) := by
  refine ⟨?_⟩
  refine @WP.abs _ _ _ _ _ _ _ _ fun Q0 hQ0 => ?_
  have S := X.S
  have hps := pairs_small _ hp
  have hvl := hi.length
  refine x_assign ?_
  refine @WP.abs _ _ _ _ _ _ _ _ fun Q1 k1 => ?_
  refine e_sub ?_
  refine @WP.abs _ _ _ _ _ _ _ _ fun Q2 k2 => ?_
  refine e_bin ?_
  refine e_sub ?_
  refine nl hE D.ns hm ?_
  refine e_slice ?_
  refine p_none ?_
  refine p_some ?_
  refine e_int fun u1 => ?_
  have D1 := D.anyPush { cls := .type "slice", data := .fields #[.none, .int 8 u1, .none] }
  refine sb_lslice (l_keeps hs D1.keep) .none (.int _ _) (Heap.IsSliceOf.new ..) (by rw [sizeLine_eq]; simp; omega) ?_
  generalize h.push _ = h1 at D1 ⊢
  have D2 := D1.newList (slicePick vs.toArray none (some 8) none)
  generalize h1.objs.size = lA at D2 ⊢
  generalize h1.push _ = h2 at D2 ⊢
  refine e_list ?_
  refine a_e ?_
  refine e_int fun v0 => ?_
  refine a_e ?_
  refine e_int fun v1 => ?_
  refine a_e ?_
  refine e_int fun v2 => ?_
  refine a_e ?_
  refine e_int fun v3 => ?_
  refine a_e ?_
  refine e_int fun v4 => ?_
  refine a_e ?_
  refine e_int fun v5 => ?_
  refine a_e ?_
  refine e_int fun v6 => ?_
  refine a_e ?_
  refine e_int fun v7 => ?_
  refine a_end ?_
  refine ⟨(show 8 ≤ sizeLine by decide), ?_⟩
  have D3 := D2.newList #[.int 29 v0, Value.int 0 v1, Value.int 52 v2, Value.int 10 v3, Value.int 68 v4, Value.int 8 v5, Value.int 33 v6, Value.int 46 v7]
  generalize h2.objs.size = lB at D3 ⊢
  generalize h2.push _ = h3 at D3 ⊢
  obtain ⟨n1, e1⟩ := D3.isL M1
  obtain ⟨n2, e2⟩ := D3.isL M0
  have hsz : (slicePick vs.toArray none (some 8) none).size ≤ 1000 := Nat.le_trans (slicePick_size_le ..) (by simp; omega)
  refine l_add e1 e2 (by rw [sizeLine_eq]; simp; omega) ?_
  have hcat : IntsAre (slicePick vs.toArray none (some 8) none ++ #[Value.int 29 v0, Value.int 0 v1, Value.int 52 v2, Value.int 10 v3, Value.int 68 v4, Value.int 8 v5, Value.int 33 v6, Value.int 46 v7]).toList (ns.take 8 ++ lits8) := by
    rw [Array.toList_append]
    exact intsAre_app (slice_ints_uptoW hi (by decide)) (.cons _ _ (.cons _ _ (.cons _ _ (.cons _ _ (.cons _ _ (.cons _ _ (.cons _ _ (.cons _ _ .nil))))))))
  have hcsz : (slicePick vs.toArray none (some 8) none ++ #[Value.int 29 v0, Value.int 0 v1, Value.int 52 v2, Value.int 10 v3, Value.int 68 v4, Value.int 8 v5, Value.int 33 v6, Value.int 46 v7]).size ≤ 1008 := by rw [Array.size_append]; simp; omega
  generalize slicePick vs.toArray none (some 8) none ++ #[Value.int 29 v0, Value.int 0 v1, Value.int 52 v2, Value.int 10 v3, Value.int 68 v4, Value.int 8 v5, Value.int 33 v6, Value.int 46 v7] = cat at hcat hcsz ⊢
  have D4 := (D3.dropN 2).newList cat
  generalize h3.objs.size = lC at D4 ⊢
  generalize h3.push _ = h4 at D4 ⊢
  refine k2 _ _ _ ?_
  refine e_slice ?_
  refine p_none ?_
  refine p_some ?_
  refine nce hE cell_count (D4.get M1) ?_
  have D5 := D4.anyPush { cls := .type "slice", data := .fields #[.none, .int ((op + cl : Nat) : Int) t1, .none] }
  refine sb_lslice (D5.isList M0) .none (.int _ _) (Heap.IsSliceOf.new ..) (by rw [sizeLine_eq]; omega) ?_
  generalize h4.push _ = h5 at D5 ⊢
  have hcv : IntsAre (slicePick cat none (some ((op + cl : Nat) : Int)) none).toList (cellsL (op + cl) ns) := by
    rw [slicePick_upto']
    exact intsAre_take _ hcat
  generalize slicePick cat none (some ((op + cl : Nat) : Int)) none = cv at hcv ⊢
  have D6 := (D5.dropN 1).newList cv
  generalize h5.objs.size = lc at D6 ⊢
  generalize h5.push _ = h6 at D6 ⊢
  refine k1 _ _ _ ?_
  refine sl hE D6.ns fun h7 j1 j2 => ?_
  replace D6 := D6.store j1 j2
  refine x_assign ?_
  refine e_list ?_
  refine a_e ?_
  refine e_str fun w0 => ?_
  refine a_e ?_
  refine e_str fun w1 => ?_
  refine a_e ?_
  refine e_str fun w2 => ?_
  refine a_e ?_
  refine e_str fun w3 => ?_
  refine a_end ?_
  refine ⟨(show 4 ≤ sizeLine by decide), ?_⟩
  have D7 := D6.newList #[Value.str (Str.ofString "") w0, Value.str (Str.ofString "(") w1, Value.str (Str.ofString "a\\\")") w2, Value.str (Str.ofString ")\\\\") w3]
  generalize h7.objs.size = lh at D7 ⊢
  generalize h7.push _ = h8 at D7 ⊢
  refine sl hE D7.ns fun h9 j1 j2 => ?_
  replace D7 := D7.store j1 j2
  have hho : HostsAre #[Value.str (Str.ofString "") w0, Value.str (Str.ofString "(") w1, Value.str (Str.ofString "a\\\")") w2, Value.str (Str.ofString ")\\\\") w3] := by
    intro j hj
    have hc := lt4 hj
    rcases hc with rfl | rfl | rfl | rfl
    · exact ⟨w0, congrArg some (congrArg (Value.str · w0) (by decide +kernel))⟩
    · exact ⟨w1, congrArg some (congrArg (Value.str · w1) (by decide +kernel))⟩
    · exact ⟨w2, congrArg some (congrArg (Value.str · w2) (by decide +kernel))⟩
    · exact ⟨w3, congrArg some (congrArg (Value.str · w3) (by decide +kernel))⟩
  generalize #[Value.str (Str.ofString "") w0, Value.str (Str.ofString "(") w1, Value.str (Str.ofString "a\\\")") w2, Value.str (Str.ofString ")\\\\") w3] = hv at hho D7
  refine x_assign ?_
  refine @WP.abs _ _ _ _ _ _ _ _ fun Q3 k3 => ?_
  refine e_bin ?_
  refine e_bin ?_
  refine e_list ?_
  refine a_e ?_
  refine e_int fun x0 => ?_
  refine a_end ?_
  refine ⟨(show 1 ≤ sizeLine by decide), ?_⟩
  have D8 := D7.newList #[.int 0 x0]
  generalize h9.objs.size = l0 at D8 ⊢
  generalize h9.push _ = h10 at D8 ⊢
  refine nl hE D8.ns hmo ?_
  obtain ⟨n3, e3⟩ := D8.isL M0
  refine l_mul e3 (by omega) (by omega) (by simp; omega) ?_
  rw [show (if (#[Value.int 0 x0] : Array Value).isEmpty = true then 0 else ((op : Nat) : Int).toNat) = op from rfl, rep_foldV]
  have D9 := D8.newList (#[] ++ (List.replicate op (Value.int 0 x0)).toArray)
  generalize h10.objs.size = l1 at D9 ⊢
  generalize h10.push _ = h11 at D9 ⊢
  refine e_bin ?_
  refine e_list ?_
  refine a_e ?_
  refine e_int fun x1 => ?_
  refine a_end ?_
  refine ⟨(show 1 ≤ sizeLine by decide), ?_⟩
  have D10 := D9.newList #[.int 1 x1]
  generalize h11.objs.size = l2 at D10 ⊢
  generalize h11.push _ = h12 at D10 ⊢
  refine nce hE cell_closing (D10.get M6) ?_
  obtain ⟨n4, e4⟩ := D10.isL M0
  refine l_mul e4 (by omega) (by omega) (by simp; omega) ?_
  rw [show (if (#[Value.int 1 x1] : Array Value).isEmpty = true then 0 else ((cl : Nat) : Int).toNat) = cl from rfl, rep_foldV]
  have D11 := D10.newList (#[] ++ (List.replicate cl (Value.int 1 x1)).toArray)
  generalize h12.objs.size = l3 at D11 ⊢
  generalize h12.push _ = h13 at D11 ⊢
  obtain ⟨n5, e5⟩ := D11.isL M2
  obtain ⟨n6, e6⟩ := D11.isL M0
  refine l_add e5 e6 (by rw [sizeLine_eq]; simp; omega) ?_
  have hdk := natsAre_rep op cl x0 x1
  generalize #[] ++ (List.replicate op (Value.int 0 x0)).toArray ++ (#[] ++ (List.replicate cl (Value.int 1 x1)).toArray) = dv at hdk ⊢
  have D12 := (D11.dropN 4).newList dv
  generalize h13.objs.size = ld at D12 ⊢
  generalize h13.push _ = h14 at D12 ⊢
  refine k3 _ _ _ ?_
  refine sl hE D12.ns fun h15 j1 j2 => ?_
  replace D12 := D12.store j1 j2
  refine x_assign ?_
  refine e_call ?_
  refine nb hE S D12.st boot_list ?_
  refine c_type ?_
  refine a_e ?_
  refine e_call ?_
  refine nb hE S D12.st boot_range ?_
  refine c_type ?_
  refine a_e ?_
  refine nce hE cell_count (D12.get M3) ?_
  refine a_end ?_
  refine range1 fun y0 y1 => ?_
  have D13 := D12.push { cls := .type "range", data := .fields #[.int 0 y0, .int ((op + cl : Nat) : Int) t1, .int 1 y1] }
  generalize h15.objs.size = lr0 at D13 ⊢
  generalize h15.push _ = h16 at D13 ⊢
  refine a_end ?_
  refine o_listrange hA.h (D13.getE M0) (by omega) fun h17 ys k fr hys hyl hyv => ?_
  have hsv : NatsAre ys.toArray (List.range (op + cl)) := by
    refine ⟨by simp [hyl], fun j d hd => ?_⟩
    have hj : j < op + cl := by
      have := (List.getElem?_eq_some_iff.mp hd).1
      simpa using this
    rw [List.getElem?_range hj] at hd
    cases hd
    obtain ⟨t, ht⟩ := hyv j (ys[j]'(by omega)) (List.getElem?_eq_getElem (by omega))
    exact ⟨t, by rw [List.getElem?_toArray, List.getElem?_eq_getElem (by omega), ht]⟩
  have D14 := (D13.dropN 1).add k fr hys (fun _ p => p.tame)
  generalize h16.objs.size = lse at D14 ⊢
  refine sl hE D14.ns fun h18 j1 j2 => ?_
  replace D14 := D14.store j1 j2
  refine x_assign ?_
  refine e_bin ?_
  refine e_bin ?_
  refine e_call ?_
  refine nb hE S D14.st boot_sum ?_
  refine c_blt ?_
  refine a_e ?_
  refine nl hE j1 hm ?_
  refine a_end ?_
  refine o_sum hA.h (l_keeps hs D14.keep) hi fun h19 z0 k => ?_
  replace D14 := D14.more k
  refine e_int fun z1 => ?_
  refine o_mod (by decide) fun z2 => ?_
  refine e_int fun z3 => ?_
  refine o_sub fun z4 => ?_
  refine sl hE D14.ns fun h20 j1 j2 => ?_
  replace D14 := D14.store j1 j2
  refine x_assign ?_
  refine e_list ?_
  refine a_end ?_
  refine ⟨Nat.zero_le _, ?_⟩
  have D15 := D14.newList #[]
  generalize h20.objs.size = lr at D15 ⊢
  generalize h20.push _ = h21 at D15 ⊢
  refine sl hE D15.ns fun h22 j1 j2 => ?_
  replace D15 := D15.store j1 j2
  refine x_assign ?_
  refine e_list ?_
  refine a_end ?_
  refine ⟨Nat.zero_le _, ?_⟩
  have D16 := D15.newList #[]
  generalize h22.objs.size = lhe at D16 ⊢
  generalize h22.push _ = h23 at D16 ⊢
  refine sl hE D16.ns fun h24 j1 j2 => ?_
  replace D16 := D16.store j1 j2
  exact x_nil <| hQ0 _ _ _ ⟨rfl, rfl, lc, cv, lh, hv, ld, dv, lse, ys.toArray, lr, lhe, _, z4, hcv, hho, hdk, hsv, D16, hmo, rfl, rfl, rfl, rfl, rfl, rfl, rfl⟩
end
end Mine
end

noncomputable section
open PySem PySem.Builtin PySem.Builtin.Str PySem.W PySem.Calls PyProof.Rows PySem.Spec
set_option Elab.async false
set_option maxRecDepth 100000
set_option linter.unusedVariables false
set_option maxHeartbeats 2000000
set_option pp.deepTerms false
set_option pp.deepTerms.threshold 6
set_option pp.maxSteps 2000
namespace Mine
/-- a list's items are tuples that stand among the cells tcs, and tell xs -/
structure Tups {β : Type} (G : β → Array Value → Prop) (tcs : List Cell) (vs : List Value) (xs : List β) : Prop where
  len : vs.length = xs.length
  at_ : ∀ (j : Nat) (x : β), xs[j]? = some x → ∃ a items, vs[j]? = some (.ref a) ∧ (a, TupA items) ∈ tcs ∧ G x items
theorem Tups.nil {β : Type} {G : β → Array Value → Prop} {tcs : List Cell} : Tups G tcs [] [] := ⟨rfl, fun j x h => by simp at h⟩
theorem Tups.mono {β : Type} {G : β → Array Value → Prop} {tcs tcs' : List Cell} {vs : List Value} {xs : List β} (x : Tups G tcs vs xs) (h : ∀ p ∈ tcs, p ∈ tcs') : Tups G tcs' vs xs :=
  ⟨x.len, fun j y hy => let ⟨a, items, e1, e2, e3⟩ := x.at_ j y hy; ⟨a, items, e1, h _ e2, e3⟩⟩
theorem Tups.push {β : Type} {G : β → Array Value → Prop} {tcs : List Cell} {vs : List Value} {xs : List β} (x : Tups G tcs vs xs) {a : Addr} {items : Array Value} (hm : (a, TupA items) ∈ tcs) {y : β} (hy : G y items) : Tups G tcs (vs ++ [.ref a]) (xs ++ [y]) := by
  refine ⟨by simp [x.len], fun j z hz => ?_⟩
  by_cases hj : j < xs.length
  · rw [List.getElem?_append_left hj] at hz
    rw [List.getElem?_append_left (by rw [x.len]; exact hj)]
    exact x.at_ j z hz
  · have : j = xs.length := by
      refine Nat.le_antisymm (Nat.le_of_lt_succ (Nat.lt_of_not_le fun hle => ?_)) (by omega)
      rw [List.getElem?_eq_none (by simp; omega)] at hz
      cases hz
    subst this
    simp at hz
    subst hz
    exact ⟨a, items, by rw [← x.len]; simp, hm, hy⟩
abbrev PcG (x : Pc) (items : Array Value) : Prop := ∃ t u w, items = #[.str (T x.host) t, .int x.kind u, .int x.port w]
section
variable {c : Cx} {F : Fix} {K : Frag} {A : Around} {n : Nat} {E : PostV Value} {h : Heap} {g : Gens} {L : Addr} {gg : Heap} {m : Str → Option Value} {cs cs' : List Cell} {env : Env}
theorem Lg.perm (D : Lg F gg L m cs h) (p : cs.Perm cs') : Lg F gg L m cs' h where
  base := D.base
  keep := D.keep
  tabs := D.tabs
  ns := D.ns
  off := D.off
  own q hq := D.own q (p.mem_iff.mpr hq)
  nd := (p.map _).nodup_iff.mp D.nd
theorem Lg.keepOf (D : Lg F gg L m cs h) (hs : cs'.Sublist cs) : Lg F gg L m cs' h := D.drop hs
theorem Lg.newTup (D : Lg F gg L m cs h) (items : Array Value) : Lg F gg L m ((h.objs.size, TupA items) :: cs) (h.push { cls := .type "tuple", data := .seq items }) := D.push _
/-- the first cell goes behind -/
theorem Lg.behind {x : Cell} {a b : List Cell} (D : Lg F gg L m (x :: (a ++ b)) h) : Lg F gg L m (a ++ x :: b) h := D.perm List.perm_middle.symm
theorem Tups.get {β : Type} {G : β → Array Value → Prop} {tcs : List Cell} {vs : List Value} {xs : List β} (x : Tups G tcs vs xs) (D : Lg F gg L m cs h) (hs : ∀ p ∈ tcs, p ∈ cs) {j : Nat} {y : β} (hy : xs[j]? = some y) :
    ∃ a items, vs[j]? = some (.ref a) ∧ h.get? a = some { cls := .type "tuple", data := .seq items } ∧ G y items := by
  obtain ⟨a, items, e1, e2, e3⟩ := x.at_ j y hy
  obtain ⟨o, h1, h2⟩ := D.get (hs _ e2)
  exact ⟨a, items, e1, h2 ▸ h1, e3⟩
end
theorem fmod_nat (x : Int) {k : Nat} (hk : 0 < k) : ∃ i : Nat, i < k ∧ x.fmod (k : Int) = (i : Int) := by
  have h1 := Int.fmod_nonneg_of_pos x (show (0 : Int) < k by omega)
  have h2 := Int.fmod_lt_of_pos x (show (0 : Int) < k by omega)
  exact ⟨(x.fmod k).toNat, by omega, by omega⟩
theorem hgt_snoc (op cl : Nat) (ks : List Nat) (k : Nat) : hgt op cl (ks ++ [k]) = hgt op cl ks + stepH op cl k := by
  unfold hgt; rw [List.map_append, List.sum_append]; simp
theorem erase_perm (l : List Nat) {i d : Nat} (h : l[i]? = some d) : l.Perm (d :: l.eraseIdx i) := by
  induction l generalizing i with
  | nil => simp at h
  | cons a l ih =>
    cases i with
    | zero => simp at h; subst h; exact .refl _
    | succ i =>
      simp at h
      rw [List.eraseIdx_cons_succ]
      exact (List.Perm.cons a (ih h)).trans (List.Perm.swap d a _)
theorem isRing_push {op cl : Nat} {p0 : Int} {ring : List Pc} {deck : List Nat} (R : IsRing op cl p0 ring deck) {i k : Nat} (hk : deck[i]? = some k) {host : List Nat} (hh : host ∈ hostsL) {port : Int} (hp : port = p0 + hgt op cl (ring.map (·.kind))) :
    IsRing op cl p0 (ring ++ [⟨host, k, port⟩]) (deck.eraseIdx i) where
  kinds := by
    rw [List.map_append, List.append_assoc]
    exact (List.Perm.append_left _ (erase_perm deck hk).symm).trans R.kinds
  hosts x hx := by
    rcases List.mem_append.mp hx with h | h
    · exact R.hosts x h
    · rw [List.mem_singleton.mp h]; exact hh
  ports j x hx := by
    by_cases hj : j < ring.length
    · rw [List.getElem?_append_left hj] at hx
      rw [R.ports j x hx, List.map_append, List.take_append_of_le_length (by simp; omega)]
    · have : j = ring.length := by
        refine Nat.le_antisymm (Nat.le_of_lt_succ (Nat.lt_of_not_le fun hle => ?_)) (by omega)
        rw [List.getElem?_eq_none (by simp; omega)] at hx
        cases hx
      subst this
      simp at hx
      subst hx
      rw [List.map_append, List.take_append_of_le_length (by simp), List.take_of_length_le (by simp)]
      exact hp
section
variable {c : Cx} {F : Fix} {K : Frag} {A : Around} {n : Nat} {E : PostV Value} {h : Heap} {g : Gens} {L : Addr} {gg : Heap} {m : Str → Option Value} {cs cs' : List Cell} {env : Env}
/-- the state ahead of a turn of the first loop -/
inductive J3 (F : Fix) (gg : Heap) (L it lc lh ld lse lr lhe : Addr) (op cl : Nat) (p0 : Int) (to t1 t2 : Tok) (cv hv : Array Value) (i : Nat) (h : Heap) (g : Gens) : Prop
  | mk (m : Str → Option Value) (ring : List Pc) (deck seats hear : List Nat) (rv dv sv hev : Array Value) (tp : Tok) (tcs : List Cell)
    (e0 : Lg F gg L m ([(it, LitA lc i), (lhe, PlA hev), (lr, PlA rv), (lse, PlA sv), (ld, PlA dv), (lh, PlA hv), (lc, PlA cv), (L + 1 + 1, CellA (some (.int ((op + cl : Nat) : Int) t1))), (L + 1, CellA (some (.int (cl : Nat) t2)))] ++ tcs) h)
    (e1 : AllBare g)
    (e2 : IsRing op cl p0 ring deck)
    (e3 : ring.length = i)
    (e4 : Tups PcG tcs rv.toList ring)
    (e5 : NatsAre dv deck)
    (e6 : NatsAre sv seats)
    (e7 : NatsAre hev hear)
    (e8 : (hear ++ seats).Perm (List.range (op + cl)))
    (e9 : hear.length = i)
    (e10 : m (Str.ofString "opening") = some (.int (op : Nat) to))
    (e11 : m (Str.ofString "cells") = some (.ref lc))
    (e12 : m (Str.ofString "hosts") = some (.ref lh))
    (e13 : m (Str.ofString "deck") = some (.ref ld))
    (e14 : m (Str.ofString "seats") = some (.ref lse))
    (e15 : m (Str.ofString "port") = some (.int (p0 + hgt op cl (ring.map (·.kind))) tp))
    (e16 : m (Str.ofString "ring") = some (.ref lr))
    (e17 : m (Str.ofString "hearing") = some (.ref lhe)) : J3 F gg L it lc lh ld lse lr lhe op cl p0 to t1 t2 cv hv i h g
theorem ring_len {op cl : Nat} {p0 : Int} {ring : List Pc} {deck : List Nat} (R : IsRing op cl p0 ring deck) : ring.length + deck.length = op + cl := by
  have := R.kinds.length_eq
  simpa using this
/-- what seg3 leaves -/
inductive Rz3 (F : Fix) (gg : Heap) (L : Addr) (op cl : Nat) (to t2 t1 : Tok) (p0 : Int) (lc lr lhe : Addr) (cv : Array Value) (h' : Heap) (g' : Gens) : Prop
  | mk (m' : Str → Option Value) (ring : List Pc) (hear : List Nat) (rv hev : Array Value) (tcs : List Cell)
    (e0 : Lg F gg L m' ([(lhe, PlA hev), (lr, PlA rv), (lc, PlA cv), (L + 1 + 1, CellA (some (.int ((op + cl : Nat) : Int) t1))), (L + 1, CellA (some (.int (cl : Nat) t2)))] ++ tcs) h')
    (e1 : AllBare g')
    (e2 : IsRing op cl p0 ring [])
    (e3 : Tups PcG tcs rv.toList ring)
    (e4 : NatsAre hev hear)
    (e5 : hear.Perm (List.range (op + cl)))
    (e6 : m' (Str.ofString "opening") = some (.int (op : Nat) to))
    (e7 : m' (Str.ofString "cells") = some (.ref lc))
    (e8 : m' (Str.ofString "ring") = some (.ref lr))
    (e9 : m' (Str.ofString "hearing") = some (.ref lhe)) : Rz3 F gg L op cl to t2 t1 p0 lc lr lhe cv h' g'
theorem seg3 (hE : env = LE L) (X : Tz F K) {op cl : Nat} {to t2 t1 tp : Tok} {p0 : Int} (hp : (op, cl) ∈ PAIRS) {lc lh ld lse lr lhe : Addr} {cv hv dv sv : Array Value} {xs : List Int} (hxs : xs.length = op + cl) (hcv : IntsAre cv.toList xs) (hhv : HostsAre hv) (hdv : NatsAre dv (deck0 op cl)) (hsv : NatsAre sv (List.range (op + cl)))
    (D : Lg F gg L m [(lhe, PlA #[]), (lr, PlA #[]), (lse, PlA sv), (ld, PlA dv), (lh, PlA hv), (lc, PlA cv), (L + 1 + 1, CellA (some (.int ((op + cl : Nat) : Int) t1))), (L + 1, CellA (some (.int (cl : Nat) t2)))] h) (hb : AllBare g) (hA : AOk A n)
    (mo : m (Str.ofString "opening") = some (.int (op : Nat) to)) (mc : m (Str.ofString "cells") = some (.ref lc)) (mh : m (Str.ofString "hosts") = some (.ref lh)) (md : m (Str.ofString "deck") = some (.ref ld)) (ms : m (Str.ofString "seats") = some (.ref lse))
    (mp : m (Str.ofString "port") = some (.int p0 tp)) (mr : m (Str.ofString "ring") = some (.ref lr)) (mhe : m (Str.ofString "hearing") = some (.ref lhe)) :
    SegP (WP c A (execs (((recAt 21).body.drop 10).take 1) env) (fun f h' g' => f = .next ∧ Rz3 F gg L op cl to t2 t1 p0 lc lr lhe cv h' g') E h g) := by
  refine ⟨?_⟩
  refine @WP.abs _ _ _ _ _ _ _ _ fun Q0 hQ0 => ?_
  have S := X.S
  have hps := pairs_small _ hp
  have hcl := hcv.length
  refine x_for ?_
  refine nl hE D.ns mc ?_
  refine i_list (D.isList M5) ?_
  have D1 := D.add (P := LitA lc 0) (h' := h.push { cls := .type "list_iterator", data := .fields #[.ref lc, .int 0 0] }) (fun _ _ e => Heap.get?_push_of_some _ e) Lg.get_size ⟨_, Heap.get?_push_size _ rfl, rfl, rfl⟩ fun _ p => p.tame
  generalize h.objs.size = it at D1 ⊢
  generalize h.push _ = h1 at D1 ⊢
  refine fl_abs (N := op + cl) (J3 F gg L it lc lh ld lse lr lhe op cl p0 to t1 t2 cv hv) ?_ ?_ ?_
  · exact ⟨_, [], deck0 op cl, List.range (op + cl), [], _, _, _, _, tp, [], D1, hb, ⟨.refl _, (fun _ h => by simp at h), fun j x h => by simp at h⟩, rfl, Tups.nil, hdv, hsv, ⟨rfl, fun j d h => by simp at h⟩, .refl _, rfl, mo, mc, mh, md, ms, by rw [mp]; simp [hgt], mr, mhe⟩
  · rintro i h2 g2 hi Q1 hQ1 _ ⟨m, ring, deck, seats, hear, rv, dv, sv, hev, tp, tcs, D, hb, R, hrl, TR, hdv, hsv, hhe, hper, hhl, mo, mc, mh, md, ms, mp, mr, mhe⟩
    obtain ⟨xi, hxi⟩ : ∃ x, xs[i]? = some x := ⟨_, List.getElem?_eq_getElem (by omega)⟩
    obtain ⟨tx, hcx⟩ := hcv.get i xi hxi
    refine next_list (D.get M0) (D.isList M6) (by rw [← Array.getElem?_toList]; exact hcx) fun h3 i1 i2 => ⟨_, rfl, lot_name (as_name ?_)⟩
    replace D := D.upd U0 i2 i1 (fun _ p => LitA.tame p)
    refine sl hE D.ns fun h4 j1 j2 => ?_
    replace D := D.store j1 j2
    have hdl := ring_len R
    have hd0 : 0 < deck.length := by omega
    -- kind
    obtain ⟨i0, hi0, hi1⟩ : ∃ i0 : Nat, i0 < deck.length ∧ xi.fmod deck.length = (i0 : Int) := fmod_nat xi hd0
    obtain ⟨kd, hkd⟩ : ∃ k, deck[i0]? = some k := ⟨_, List.getElem?_eq_getElem hi0⟩
    obtain ⟨tk, hdk⟩ := hdv.2 _ _ hkd
    obtain ⟨nd, ed⟩ := D.isL M4
    refine x_assign ?_
    refine e_pop ?_
    refine nl hE j1 md ?_
    refine ⟨_, _, _, rfl, ed, ?_⟩
    refine e_bin ?_
    refine nl hE j1 rfl ?_
    refine e_call ?_
    refine nb hE S D.st boot_len ?_
    refine c_blt ?_
    refine a_e ?_
    refine nl hE j1 md ?_
    refine a_end ?_
    refine l_len (D.isList M4) (by rw [hdv.1]; omega) fun u0 => ?_
    rw [hdv.1]
    refine o_mod' (by omega) hi1 fun u1 => ?_
    refine ⟨_, _, _, _, _, rfl, by rw [hdv.1, sizeLine_eq]; omega, ed, by omega, by omega, hdk, ?_⟩
    replace D := D.updSeq (fun xs => xs.eraseIdxIfInBounds ((i0 : Nat) : Int).toNat) U4
    generalize h4.update ld _ = h5 at D ⊢
    have hdv' := natsAre_erase hdv hi0
    refine sl hE D.ns fun h6 j1 j2 => ?_
    replace D := D.store j1 j2
    -- ring.append
    obtain ⟨q0, hq0, hq1⟩ : ∃ q0 : Nat, q0 < 4 ∧ (xi.fdiv 3).fmod (4 : Nat) = (q0 : Int) := fmod_nat _ (by decide)
    obtain ⟨th, hth⟩ := hhv q0 hq0
    have hho : hostsL.getD q0 [] ∈ hostsL := by
      have hc := lt4 hq0
      rcases hc with rfl | rfl | rfl | rfl <;> decide
    obtain ⟨nr, er⟩ := D.isL M2
    refine xe hE ?_
    refine e_append ?_
    refine nl hE j1 mr ?_
    refine ⟨_, _, _, rfl, er, ?_⟩
    refine e_tuple ?_
    refine a_e ?_
    refine e_sub ?_
    refine nl hE j1 mh ?_
    refine e_bin ?_
    refine e_bin ?_
    refine nl hE j1 rfl ?_
    refine e_int fun u2 => ?_
    refine o_fdiv (by decide) (by decide) fun u3 => ?_
    refine e_int fun u4 => ?_
    refine o_mod' (by decide) hq1 fun u5 => ?_
    refine sb_list (D.isList M5) (Int.natCast_nonneg _) (by omega) hth ?_
    refine a_e ?_
    refine nl hE j1 rfl ?_
    refine a_e ?_
    refine nl hE j1 mp ?_
    refine a_end ?_
    refine ⟨(show 3 ≤ sizeLine by decide), ?_⟩
    have R' := isRing_push R hkd hho rfl
    have D2 := (D.newTup #[.str (T (hostsL.getD q0 [])) th, .int ((kd : Nat) : Int) tk, .int (p0 + hgt op cl (ring.map (·.kind))) tp]).behind (a := [_, _, _, _, _, _, _, _, _])
    generalize h6.objs.size = ta at D2 ⊢
    generalize h6.push _ = h7 at D2 ⊢
    obtain ⟨nr2, er2⟩ := D2.isL M2
    refine ⟨_, _, by have := TR.len; simp at this; rw [sizeLine_eq]; omega, er2, (fun _ q => by cases q), ?_⟩
    have TR' := (TR.mono (tcs' := (ta, TupA #[.str (T (hostsL.getD q0 [])) th, .int ((kd : Nat) : Int) tk, .int (p0 + hgt op cl (ring.map (·.kind))) tp]) :: tcs) fun _ q => .tail _ q).push (.head _) (y := ⟨hostsL.getD q0 [], kd, p0 + hgt op cl (ring.map (·.kind))⟩) ⟨th, tk, tp, rfl⟩
    replace D2 := D2.updSeq (fun xs => xs.push (.ref ta)) U2
    generalize h7.update lr _ = h8 at D2 ⊢
    -- port
    refine x_assign ?_
    refine e_bin ?_
    refine nl hE D2.ns mp ?_
    refine WP.monoQ (Q := fun v h' g' => h' = h8 ∧ g' = g2 ∧ ∃ t, v = .int (stepH op cl kd) t) ?_ (fun v h' g' ⟨e1, e2, t5, e3⟩ => ?_)
    · refine e_ifexp ?_
      refine t_cmp ?_
      refine nl hE D2.ns rfl ?_
      refine e_int fun u6 => ?_
      refine o_eq ?_
      refine t_bool ?_
      by_cases hk0 : kd = 0
      · rw [if_pos (by simp [hk0])]
        refine nce hE cell_closing (D2.get M8) ?_
        exact ⟨rfl, rfl, t2, by rw [stepH, if_pos hk0]⟩
      · rw [if_neg (by simp; omega)]
        refine e_un ?_
        refine nl hE D2.ns mo ?_
        refine o_neg fun u7 => ?_
        exact ⟨rfl, rfl, u7, by rw [stepH, if_neg hk0]⟩
    subst e1 e2 e3
    refine o_add fun u8 => ?_
    refine sl hE D2.ns fun h9 j1 j2 => ?_
    replace D2 := D2.store j1 j2
    -- hearing.append
    have hsl : seats.length = op + cl - i := by
      have := hper.length_eq
      simp at this
      omega
    have hs0 : 0 < seats.length := by omega
    obtain ⟨i2, hi2, hi3⟩ : ∃ i0 : Nat, i0 < seats.length ∧ (xi.fdiv 7).fmod seats.length = (i0 : Int) := fmod_nat _ hs0
    obtain ⟨st, hst⟩ : ∃ k, seats[i2]? = some k := ⟨_, List.getElem?_eq_getElem hi2⟩
    obtain ⟨ts, hts⟩ := hsv.2 _ _ hst
    obtain ⟨nh, eh⟩ := D2.isL M1
    obtain ⟨ns', es⟩ := D2.isL M3
    refine xe hE ?_
    refine e_append ?_
    refine nl hE j1 mhe ?_
    refine ⟨_, _, _, rfl, eh, ?_⟩
    refine e_pop ?_
    refine nl hE j1 ms ?_
    refine ⟨_, _, _, rfl, es, ?_⟩
    refine e_bin ?_
    refine e_bin ?_
    refine nl hE j1 rfl ?_
    refine e_int fun u9 => ?_
    refine o_fdiv (by decide) (by decide) fun u10 => ?_
    refine e_call ?_
    refine nb hE S D2.st boot_len ?_
    refine c_blt ?_
    refine a_e ?_
    refine nl hE j1 ms ?_
    refine a_end ?_
    refine l_len (D2.isList M3) (by rw [hsv.1]; omega) fun u11 => ?_
    rw [hsv.1]
    refine o_mod' (by omega) hi3 fun u12 => ?_
    refine ⟨_, _, _, _, _, rfl, by rw [hsv.1, sizeLine_eq]; omega, es, by omega, by omega, hts, ?_⟩
    replace D2 := D2.updSeq (fun xs => xs.eraseIdxIfInBounds ((i2 : Nat) : Int).toNat) U3
    generalize h9.update lse _ = h10 at D2 ⊢
    have hsv' := natsAre_erase hsv hi2
    obtain ⟨nh2, eh2⟩ := D2.isL M1
    refine ⟨_, _, by rw [hhe.1, sizeLine_eq]; omega, eh2, (fun _ q => by cases q), ?_⟩
    replace D2 := D2.updSeq (fun xs => xs.push (.int ((st : Nat) : Int) ts)) U1
    have hhe' := natsAre_push hhe st ts
    refine x_nil (hQ1 _ _ ?_)
    refine ⟨_, _, deck.eraseIdx i0, seats.eraseIdx i2, hear ++ [st], _, _, _, _, u8, _, D2, hb, R', by simp [hrl], ?_, hdv', hsv', hhe', ?_, by simp [hhl], mo, mc, mh, md, ms, ?_, mr, mhe⟩
    · rw [Array.toList_push]; exact TR'
    · rw [List.append_assoc]
      exact (List.Perm.append_left _ (erase_perm seats hst).symm).trans hper
    · rw [List.map_append]
      show some (Value.int _ u8) = some (Value.int (p0 + hgt op cl (ring.map (·.kind) ++ [kd])) u8)
      rw [hgt_snoc]
      congr 2
      omega
  · rintro h2 g2 ⟨m, ring, deck, seats, hear, rv, dv, sv, hev, tp, tcs, D, hb, R, hrl, TR, hdv, hsv, hhe, hper, hhl, mo, mc, mh, md, ms, mp, mr, mhe⟩
    refine end_list hA (D.get M0) (D.isList M6) ?_ fun h4 i1 => ⟨rfl, ?_⟩
    · rw [← Array.getElem?_toList, List.getElem?_eq_none (by omega)]
    replace D := D.lose R0 i1
    have hdl := ring_len R
    have e1 : deck = [] := List.eq_nil_of_length_eq_zero (by omega)
    have e2 : seats = [] := by
      have := hper.length_eq
      simp at this
      exact List.eq_nil_of_length_eq_zero (by omega)
    subst e1 e2
    rw [List.append_nil] at hper
    have D2 := D.keepOf (cs' := [(lhe, PlA hev), (lr, PlA rv), (lc, PlA cv), (L + 1 + 1, CellA (some (.int ((op + cl : Nat) : Int) t1))), (L + 1, CellA (some (.int (cl : Nat) t2)))] ++ tcs) (.cons_cons _ (.cons_cons _ (.cons _ (.cons _ (.cons _ (.refl _))))))
    exact x_nil <| hQ0 _ _ _ ⟨rfl, m, ring, hear, rv, hev, tcs, D2, hb, R, TR, hhe, hper, mo, mc, mr, mhe⟩
end
end Mine
end

noncomputable section
open PySem PySem.Builtin PySem.Builtin.Str PySem.W PySem.Calls PyProof.Rows PySem.Spec PySem.NumText
set_option Elab.async false
set_option maxRecDepth 100000
set_option linter.unusedVariables false
set_option maxHeartbeats 2000000
set_option pp.deepTerms false
set_option pp.deepTerms.threshold 6
set_option pp.maxSteps 2000
namespace Mine
def markL : List Nat := [124, 33, 47, 44]
def replyS (mk : Nat) (port : Int) : Str :=
  (((((((Str.ofString "229 ok (" ++ T [mk]) ++ Str.ofString "2") ++ T [mk]) ++ Str.ofString "h") ++ T [mk]) ++ Str.ofString (toString port)) ++ T [mk]) ++ Str.ofString ") go"
/-- what is to be shown of the replies -/
structure RepOk (mk : Nat) (port : Int) : Prop where
  dlen : (Str.ofString (toString port)).length ≤ 20
  good : (part229 (replyS mk port)).1 = none
  num : PySem.intText? (part229 (replyS mk port)).2 = some port
  glen : (part229 (replyS mk port)).2.length ≤ 600
  spoil : ∀ way, way ≤ 5 → way ≠ 1 → ∃ rp, (part229 (spoilS (replyS mk port) (T [mk]) way).2).1 = some rp ∧ (spoilS (replyS mk port) (T [mk]) way).1 = Str.ofString (if rp = true then "another code" else "another shape")
  slen : ∀ way, way ≤ 5 → (spoilS (replyS mk port) (T [mk]) way).2.length ≤ 1000 ∧ (part229 (spoilS (replyS mk port) (T [mk]) way).2).2.length ≤ 600
  sok : ∀ way, way ≤ 5 → PyData.strOk (spoilS (replyS mk port) (T [mk]) way).1 = true ∧ PyData.strOk (spoilS (replyS mk port) (T [mk]) way).2 = true
  bad : (part229 (spoilS (replyS mk port) (T [mk]) 1).2).1 = none ∧ (int_private% "readNumeral") 0 10 (numSeenOf (part229 (spoilS (replyS mk port) (T [mk]) 1).2).2) = int_private% "Numeral.invalid" ∧ (reprText (part229 (spoilS (replyS mk port) (T [mk]) 1).2).2).length ≤ sizeLine ∧
    (spoilS (replyS mk port) (T [mk]) 1).1 = Str.ofString "no number"
def dflt : Pc := ⟨[], 0, 0⟩
def heardL (ring : List Pc) (hear : List Nat) : List (List Nat × Int) := hear.map fun s => ((ring.getD s dflt).host, (ring.getD s dflt).port)
abbrev HdG (x : List Nat × Int) (items : Array Value) : Prop := ∃ t u, items = #[.str (T x.1) t, .int x.2 u]
section
variable {c : Cx} {F : Fix} {K : Frag} {A : Around} {n : Nat} {E : PostV Value} {h : Heap} {g : Gens} {L : Addr} {gg : Heap} {m : Str → Option Value} {cs cs' : List Cell} {env : Env}
theorem Lg.frk (D : Lg F gg L m cs h) (hk : env.scope.kind ≠ .module) (hf : env.frame = some L) : FrK F [env] (baseOf F h) := by
  have mem : ∀ b, b ∈ frs [env] ↔ b = L := fun b => by rw [mem_frs (l := []) hf]; simp
  refine ⟨⟨hideAll h [L], funFrames_of fun e he => ?_⟩, fun b hb => ?_⟩
  · rw [List.mem_singleton.mp he]
    obtain ⟨o, es, ep, h1, h2, _⟩ := D.ns
    exact ⟨hk, L, o, hf, hideAll_none _ (.head _), hideAll_get _ h1 D.offTab, fun vs q => by rw [h2] at q; cases q⟩
  · rw [(mem b).mp hb]
    cases e : F.H.get? L with
    | none => rfl
    | some o => have := D.base _ _ e; rw [D.off] at this; cases this
/-- a text with a fresh token is stored -/
theorem x_assign_te {nm : Str} {pos' pos : Pos} {value : Expr} {rest : List Stmt} {y : Str} {Q : PostV Flow} (z : TE c A (eval value env) y Frs h g)
    (k : ∀ u : Nat, c.b + 1 ≤ u → WP ⟨c.w, c.d, c.o, u⟩ A (storeName env nm (.str y u)) (fun _ h₂ g₂ => WP ⟨c.w, c.d, c.o, u⟩ A (execs rest env) Q E h₂ g₂) E h g)
    (hs : swapsWith value (some (.Name nm pos')) pos.line env = pure false := by rfl) : WP c A (execs (.Assign [.Name nm pos'] value pos :: rest) env) Q E h g := by
  intro tk
  refine wpAny_execs_cons (wpAny_Assign_Name (wpAny_mono (z (tk + (c.b + 1)) (Nat.le_add_left _ _)) (fun v s' q => ?_) fun _ _ f => f.elim) hs)
  obtain ⟨u, tk', e1, e2, e3, e4⟩ := q
  subst e1 e2
  have hu : c.b + 1 ≤ u := Nat.le_trans (Nat.le_add_left _ _) e4.1
  have y := k u hu
  refine y.stepAt (c := ⟨c.w, c.d, c.o, u⟩) (s := ⟨h, g, c.d, tk', c.o⟩) ⟨rfl, e4.2⟩ rfl fun _ s₂ d1 d2 q => ?_
  exact q.at (c := ⟨c.w, c.d, c.o, u⟩) d1 d2
/-- a letter of a text -/
theorem te_sub {value slice : Expr} {pos : Pos} {x : Str} {P1 : Nat → Nat → Nat → Prop} {k cp : Nat} (hv : TE c A (eval value env) x P1 h g) (hs : WP c A (eval slice env) (fun v h' g' => (∃ t, v = .int (k : Nat) t) ∧ h' = h ∧ g' = g) F0 h g) (hx : x.cps[k]? = some cp) (hk : k < 1000)
    (hsub : ∀ t u, subscripted slice false (.str x u) (.int (k : Nat) t) = operate [.str x u, .int (k : Nat) t] (getItem (.str x u) (.int (k : Nat) t)) := by (intros; with_unfolding_all rfl)) : TE c A (eval (.Subscript value slice pos) env) ⟨#[cp]⟩ Frs h g := by
  intro tk htk
  refine Subscript_ (wpAny_mono (hv tk htk) (fun v s' q => ?_) fun _ _ f => f.elim)
  obtain ⟨u, tk1, e1, e2, e3, _⟩ := q
  subst e1 e2
  refine wpAny_with_toks (n := tk1) (Nat.le_refl _) (wpAny_mono (hs.at (s := ⟨h, g, c.d, tk1, c.o⟩) ⟨rfl, Nat.le_trans htk e3⟩ rfl) (fun v s' q ht => ?_) fun _ _ ⟨_, _, f⟩ _ => f.elim)
  obtain ⟨d1, d2, ⟨t, rfl⟩, d3, d4⟩ := q
  obtain ⟨h', g', d', tk2, o'⟩ := s'
  dsimp only at d1 d2 d3 d4 ht
  subst d1 d2 d3 d4
  have hT := typeIs_str (⟨h', g', c.d, tk2, c.o⟩ : Shared) x u
  unfold subscriptTail
  refine wpAny_bind ?_
  rw [getitemInPython_of_ne hT.not_modules]
  refine wpAny_bind (wpAny_specialOf hT F.slot_str_getitem.lookup ?_)
  have hlt : k < x.cps.size := (Array.getElem?_eq_some_iff.mp hx).1
  have fin : wpAny c.M A (subscripted slice false (.str x u) (.int (k : Nat) t)) (fun r s₃ => wpAny c.M A (letTemporaryGo value (.str x u) r >>= fun _ => pure r) (fun v s' => ∃ u tk', v = .str ⟨#[cp]⟩ u ∧ s' = ⟨h', g', c.d, tk', c.o⟩ ∧ tk ≤ tk' ∧ Frs tk u tk') (fun _ _ => False) s₃) (fun _ _ => False) ⟨h', g', c.d, tk2, c.o⟩ := by
    rw [hsub]
    refine wpAny_operating (getItem_str (by simp only [Bool.or_eq_false_iff, decide_eq_false_iff_not]; omega) ?_ (wpAny_bind (wpAny_letTemporaryGo (wpAny_pure ⟨tk2, tk2 + 1, rfl, rfl, by omega, by omega, by omega⟩))))
    rw [StrLaws.seqIndex_nonneg (by omega) (by show ((k : Nat) : Int) < (x.cps.size : Int); omega)]
    exact hx
  first
    | exact wpAny_pure (wpAny_bind fin)
    | exact wpAny_bind (wpAny_pure (wpAny_bind fin))
    | exact wpAny_bind fin
end
end Mine
end

noncomputable section
open PySem PySem.Builtin PySem.Builtin.Str PySem.W PySem.Calls PyProof.Rows PySem.Spec PySem.NumText
set_option Elab.async false
set_option maxRecDepth 100000
set_option linter.unusedVariables false
set_option maxHeartbeats 2000000
set_option pp.deepTerms false
set_option pp.deepTerms.threshold 6
set_option pp.maxSteps 2000
namespace Mine
theorem getD_some {ring : List Pc} {j : Nat} {x : Pc} (h : ring[j]? = some x) : ring.getD j dflt = x := by rw [List.getD_eq_getElem?_getD, h]; rfl
theorem shaped_ss {a b : Str} (ha : PyData.strOk a = true) (hb : PyData.strOk b = true) : SeqAt.shaped (.tuple [.str a, .str b]) = true := by simp [SeqAt.shaped, PyData.canLay0, PyData.canLayAll0, PyData.depth, PyData.depthAll, ha, hb]
theorem log2_small {n : Nat} (h : n ≤ 600000) : n.log2 < 1920 := by
  by_cases h0 : n = 0
  · subst h0; decide
  · exact Nat.lt_trans ((Nat.log2_lt h0).mpr (show n < 2 ^ 20 by omega)) (by decide)
section
variable {c : Cx} {F : Fix} {K : Frag} {A : Around} {n : Nat} {E : PostV Value} {h : Heap} {g : Gens} {L : Addr} {gg : Heap} {m : Str → Option Value} {cs cs' : List Cell} {env : Env}
/-- what stands ahead of a turn of the loop over the seats -/
inductive J4 (F : Fix) (gg : Heap) (L it lc lr lhe lhd : Addr) (op cl : Nat) (to t1 t2 : Tok) (cv rv hev : Array Value) (ring : List Pc) (hear : List Nat) (i : Nat) (h : Heap) (g : Gens) : Prop
  | mk (m : Str → Option Value) (hdv : Array Value) (tcs : List Cell)
    (D : Lg F gg L m ([(it, LitA lhe i), (lhd, PlA hdv), (lhe, PlA hev), (lr, PlA rv), (lc, PlA cv), (L + 1 + 1, CellA (some (.int ((op + cl : Nat) : Int) t1))), (L + 1, CellA (some (.int (cl : Nat) t2)))] ++ tcs) h) (hb : AllBare g)
    (TR : Tups PcG tcs rv.toList ring) (TH : Tups HdG tcs hdv.toList (heardL ring (hear.take i)))
    (mo : m (Str.ofString "opening") = some (.int (op : Nat) to)) (mc : m (Str.ofString "cells") = some (.ref lc)) (mr : m (Str.ofString "ring") = some (.ref lr)) (mhe : m (Str.ofString "hearing") = some (.ref lhe)) (mhd : m (Str.ofString "heard") = some (.ref lhd)) : J4 F gg L it lc lr lhe lhd op cl to t1 t2 cv rv hev ring hear i h g
/-- what seg4 leaves -/
inductive Rz4 (F : Fix) (gg : Heap) (L lr lhe : Addr) (op cl : Nat) (to t1 t2 : Tok) (rv hev : Array Value) (ring : List Pc) (hear : List Nat) (h' : Heap) (g' : Gens) : Prop
  | mk (m' : Str → Option Value) (lhd : Addr) (hdv : Array Value) (tcs : List Cell)
    (e0 : Lg F gg L m' ([(lhd, PlA hdv), (lhe, PlA hev), (lr, PlA rv), (L + 1 + 1, CellA (some (.int ((op + cl : Nat) : Int) t1))), (L + 1, CellA (some (.int (cl : Nat) t2)))] ++ tcs) h')
    (e1 : AllBare g')
    (e2 : Tups PcG tcs rv.toList ring)
    (e3 : Tups HdG tcs hdv.toList (heardL ring hear))
    (e4 : m' (Str.ofString "opening") = some (.int (op : Nat) to))
    (e5 : m' (Str.ofString "ring") = some (.ref lr))
    (e6 : m' (Str.ofString "hearing") = some (.ref lhe))
    (e7 : m' (Str.ofString "heard") = some (.ref lhd)) : Rz4 F gg L lr lhe op cl to t1 t2 rv hev ring hear h' g'
theorem mt1 {p a : Cell} (h : p ∈ cs) : p ∈ a :: cs := .tail _ h
theorem mt2 {p a b : Cell} (h : p ∈ cs) : p ∈ a :: b :: cs := .tail _ (.tail _ h)
theorem mt3 {p a b d : Cell} (h : p ∈ cs) : p ∈ a :: b :: d :: cs := .tail _ (.tail _ (.tail _ h))
theorem seg4 (hE : env = LE L) (X : Tz F K) {lc lr lhe : Addr} {op cl : Nat} {to t1 t2 : Tok} {cv rv hev : Array Value} {xs : List Int} {ring : List Pc} {hear : List Nat} {tcs : List Cell}
    (hrep : ∀ mk ∈ markL, ∀ port : Int, port.natAbs ≤ 600000 → RepOk mk port) (hcv : IntsAre cv.toList xs) (hxs : xs.length = op + cl) (hop : op + cl ≤ 8) (hrl : ring.length = op + cl) (hrp : ∀ x ∈ ring, x.port.natAbs ≤ 600000) (hper : hear.Perm (List.range (op + cl)))
    (D : Lg F gg L m ([(lhe, PlA hev), (lr, PlA rv), (lc, PlA cv), (L + 1 + 1, CellA (some (.int ((op + cl : Nat) : Int) t1))), (L + 1, CellA (some (.int (cl : Nat) t2)))] ++ tcs) h) (hb : AllBare g) (hA : AOk A n) (hn : n ≤ 1) (hfr : A.frames = some [env]) (htab : ∀ b ∈ F.ns.map (·.P), gg.get? b = none)
    (TR : Tups PcG tcs rv.toList ring) (NH : NatsAre hev hear) (mo : m (Str.ofString "opening") = some (.int (op : Nat) to)) (mc : m (Str.ofString "cells") = some (.ref lc)) (mr : m (Str.ofString "ring") = some (.ref lr)) (mhe : m (Str.ofString "hearing") = some (.ref lhe)) :
    SegP (WC c A (execs (((recAt 21).body.drop 11).take 2) env) (fun f h' g' => f = .next ∧ Rz4 F gg L lr lhe op cl to t1 t2 rv hev ring hear h' g') F0 h g) := by
  refine ⟨?_⟩
  refine WC.abs fun Q0 hQ0 => ?_
  have S := X.S
  have hfE : env.frame = some L := by subst hE; rfl
  have hkE : env.scope.kind ≠ .module := by subst hE; intro q; (have e : (LE L).scope.kind = .function := (by kernel_rfl)); rw [e] at q; cases q
  refine wc_assign <| .of ?_
  refine e_list ?_
  refine a_end ?_
  refine ⟨Nat.zero_le _, ?_⟩
  have D0 := D.newList #[]
  generalize h.objs.size = lhd at D0 ⊢
  generalize h.push _ = h0 at D0 ⊢
  refine sl hE D0.ns fun h1 j1 j2 => ?_
  replace D0 := D0.store j1 j2
  refine wc_for ?_
  refine nl hE j1 mhe ?_
  refine i_list (D0.isList M1) ?_
  have D1 := D0.add (P := LitA lhe 0) (h' := h1.push { cls := .type "list_iterator", data := .fields #[.ref lhe, .int 0 0] }) (fun _ _ e => Heap.get?_push_of_some _ e) Lg.get_size ⟨_, Heap.get?_push_size _ rfl, rfl, rfl⟩ fun _ p => p.tame
  generalize h1.objs.size = it at D1 ⊢
  generalize h1.push _ = h2 at D1 ⊢
  have hhl : hear.length = op + cl := by have := hper.length_eq; simpa using this
  refine flc_abs (N := op + cl) (J4 F gg L it lc lr lhe lhd op cl to t1 t2 cv rv hev ring hear) ?_ ?_ ?_
  · exact ⟨_, #[], tcs, D1, hb, TR, Tups.nil, mo, mc, mr, mhe, rfl⟩
  · rintro i h3 g3 hi Q1 hQ1 ⟨m, hdv, tcs, D, hb, TR, TH, mo, mc, mr, mhe, mhd⟩
    obtain ⟨cs, hcs⟩ : ∃ cs : List Cell, cs = [(lhe, PlA hev), (lr, PlA rv), (lc, PlA cv), (L + 1 + 1, CellA (some (.int ((op + cl : Nat) : Int) t1))), (L + 1, CellA (some (.int (cl : Nat) t2)))] ++ tcs := ⟨_, rfl⟩
    have c0 : (lhe, PlA hev) ∈ cs := by rw [hcs]; exact M0
    have c1 : (lr, PlA rv) ∈ cs := by rw [hcs]; exact M1
    have c2 : (lc, PlA cv) ∈ cs := by rw [hcs]; exact M2
    have ct : ∀ p ∈ tcs, p ∈ cs := fun p hp => by rw [hcs]; exact List.mem_append_right _ hp
    replace D : Lg F gg L m ((it, LitA lhe i) :: (lhd, PlA hdv) :: cs) h3 := by rw [hcs]; exact D
    obtain ⟨s, hs⟩ : ∃ s, hear[i]? = some s := ⟨_, List.getElem?_eq_getElem (by omega)⟩
    obtain ⟨ts, hts⟩ := NH.2 _ _ hs
    have hs8 : s < op + cl := by
      have := hper.mem_iff.mp (List.mem_of_getElem? hs)
      simpa using this
    refine next_list (D.get M0) (D.isList (mt2 c0)) hts fun h4 i1 i2 => ⟨_, rfl, lot_name (as_name ?_)⟩
    replace D := D.upd U0 i2 i1 (fun _ p => LitA.tame p)
    refine sl hE D.ns fun h5 j1 j2 => ?_
    replace D := D.store j1 j2
    obtain ⟨x, hx⟩ : ∃ x, ring[s]? = some x := ⟨_, List.getElem?_eq_getElem (by omega)⟩
    obtain ⟨xi, hxi⟩ : ∃ x, xs[s]? = some x := ⟨_, List.getElem?_eq_getElem (by omega)⟩
    have hxp := hrp x (List.mem_of_getElem? hx)
    have ms : (fun y => if y = Str.ofString "seat" then some (Value.int ((s : Nat) : Int) ts) else m y) (Str.ofString "seat") = some (.int (s : Nat) ts) := if_pos rfl
    refine wc_app (a := [_, _, _, _]) (b := [_, _]) (.of ?_)
    -- host, kind, port
    obtain ⟨a, items, e1, e2, th, tk, tp, e3⟩ := TR.get D (fun p hp => mt2 (ct p hp)) hx
    subst e3
    refine x_assignT ?_
    refine e_sub ?_
    refine nl hE j1 mr ?_
    refine nl hE j1 ms ?_
    refine sb_list (D.isList (mt2 c1)) (Int.natCast_nonneg _) (by omega) (by rw [← Array.getElem?_toList]; exact e1) ?_
    refine as_triple hA ⟨_, e2, rfl, _, rfl⟩ fun h1 kk => ?_
    replace D := D.more kk
    refine sl hE D.ns fun h2 j1 j2 => ?_
    replace D := D.store j1 j2
    refine sl hE j1 fun h3 j1 j2 => ?_
    replace D := D.store j1 j2
    refine sl hE j1 fun h4 j1 j2 => ?_
    replace D := D.store j1 j2
    -- mark
    obtain ⟨tx, hcx⟩ := hcv.get s xi hxi
    rw [Array.getElem?_toList] at hcx
    obtain ⟨k, hk4, hkm⟩ := fmod_nat xi (show 0 < 4 by decide)
    obtain ⟨mk, hmk, hmm⟩ : ∃ mk, (Str.ofString "|!/,").cps[k]? = some mk ∧ mk ∈ markL := by
      have hc := lt4 hk4
      have e : (Str.ofString "|!/,").cps = #[124, 33, 47, 44] := by decide +kernel
      rw [e]
      rcases hc with rfl | rfl | rfl | rfl
      · exact ⟨124, rfl, by decide⟩
      · exact ⟨33, rfl, by decide⟩
      · exact ⟨47, rfl, by decide⟩
      · exact ⟨44, rfl, by decide⟩
    have RO := hrep mk hmm x.port hxp
    refine x_assign_te (te_sub te_str (k := k) (cp := mk) ?_ hmk (by omega)) fun u hu => ?_
    · refine e_bin ?_
      refine e_sub ?_
      refine nl hE j1 mc ?_
      refine nl hE j1 ms ?_
      refine sb_list (D.isList (mt2 c2)) (Int.natCast_nonneg _) (by omega) hcx ?_
      refine e_int fun u1 => ?_
      exact o_mod' (by decide) hkm fun u2 => ⟨⟨u2, rfl⟩, rfl, rfl⟩
    refine sl hE j1 fun h5 j1 j2 => ?_
    replace D := D.store j1 j2
    -- reply
    have l1 : (Str.ofString "229 ok (").length = 8 := by decide +kernel
    have l2 : (Str.ofString "2").length = 1 := by decide +kernel
    have l3 : (Str.ofString "h").length = 1 := by decide +kernel
    have l4 : (Str.ofString ") go").length = 4 := by decide +kernel
    have lm : (T [mk]).length = 1 := rfl
    have ld := RO.dlen
    refine x_assign ?_
    refine @WP.abs _ _ _ _ _ _ _ _ fun Q2 k2 => ?_
    refine e_bin ?_
    refine e_bin ?_
    refine e_bin ?_
    refine e_bin ?_
    refine @WP.abs _ _ _ _ _ _ _ _ fun Q3 k3 => ?_
    refine e_bin ?_
    refine e_bin ?_
    refine e_bin ?_
    refine e_bin ?_
    refine e_str fun v0 => ?_
    refine nl hE j1 rfl ?_
    refine str_add (by rw [sizeLine_eq]; simp only [Str.length_append, l1, lm]; omega) fun v1 => ?_
    refine e_str fun v2 => ?_
    refine str_add (by rw [sizeLine_eq]; simp only [Str.length_append, l1, lm, l2]; omega) fun v3 => ?_
    refine nl hE j1 rfl ?_
    refine str_add (by rw [sizeLine_eq]; simp only [Str.length_append, l1, lm, l2]; omega) fun v4 => ?_
    refine e_str fun v5 => ?_
    refine str_add (by rw [sizeLine_eq]; simp only [Str.length_append, l1, lm, l2, l3]; omega) fun v6 => k3 _ _ _ ?_
    refine nl hE j1 rfl ?_
    refine str_add (by rw [sizeLine_eq]; simp only [Str.length_append, l1, lm, l2, l3]; omega) fun v7 => ?_
    refine e_call ?_
    refine nb hE S D.st boot_str ?_
    refine c_type ?_
    refine a_e ?_
    refine nl hE j1 rfl ?_
    refine a_end ?_
    refine o_str (log2_small hxp) fun v8 => ?_
    refine str_add (by rw [sizeLine_eq]; simp only [Str.length_append, l1, lm, l2, l3]; omega) fun v9 => ?_
    refine nl hE j1 rfl ?_
    refine str_add (by rw [sizeLine_eq]; simp only [Str.length_append, l1, lm, l2, l3]; omega) fun v10 => ?_
    refine e_str fun v11 => ?_
    refine str_add (by rw [sizeLine_eq]; simp only [Str.length_append, l1, lm, l2, l3, l4]; omega) fun v12 => ?_
    have hrl2 : (replyS mk x.port).length ≤ 100 := by unfold replyS; simp only [Str.length_append, l1, lm, l2, l3, l4]; omega
    refine k2 _ _ _ ?_
    refine sl hE j1 fun h6 j1 j2 => ?_
    replace D := D.store j1 j2
    -- spoiled
    obtain ⟨way, hw6, hwm⟩ := fmod_nat xi (show 0 < 6 by decide)
    refine x_assign ?_
    refine e_call ?_
    refine ng hE S D.st X.f19.nm ?_
    refine c_fn X.f19 ?_
    refine a_e ?_
    refine nl hE j1 (v := .str (replyS mk x.port) v12) rfl ?_
    refine a_e ?_
    refine nl hE j1 (v := .str (T [mk]) u) rfl ?_
    refine a_e ?_
    refine e_bin ?_
    refine e_sub ?_
    refine nl hE j1 mc ?_
    refine nl hE j1 ms ?_
    refine sb_list (D.isList (mt2 c2)) (Int.natCast_nonneg _) (by omega) hcx ?_
    refine e_int fun v13 => ?_
    refine o_mod' (by decide) hwm fun v14 => ?_
    refine a_end ⟨D.st, ?_⟩
    have hm104 : mk ≠ 104 := by
      intro q
      rw [q] at hmm
      exact absurd hmm (by decide)
    refine (law_spoiled_q X.toTx X.f19 (D.ok hb) hA (le0 hn) (replyS mk x.port) mk way v12 u v14 hrl2 hm104 (by omega) ⟨Nat.le_trans (Nat.le_add_left 1 c.b) hu, Nat.le_refl _⟩).monoQ fun v h' g' qq => ?_
    obtain ⟨G1, O1, sa, tl, tt, e1, hn1, I1⟩ := qq
    subst e1
    replace D := D.adopt (D.after G1 O1.tabs (D.tabs_off htab)) (P := TupA #[.str (spoilS (replyS mk x.port) (T [mk]) way).1 tl, .str (spoilS (replyS mk x.port) (T [mk]) way).2 tt]) hn1 ⟨_, I1, rfl⟩ (fun _ p => TupA.tame p)
    refine sl hE D.ns fun h7 j1 j2 => ?_
    replace D := D.store j1 j2
    refine x_nil ?_
    have hb := O1.bare
    -- the spoiled one is refused
    obtain ⟨sl1, sl2⟩ := RO.slen way (by omega)
    refine wc_if_cmp ?_
    refine wc_ecall ?_
    refine ng hE S D.st X.f18.nm ?_
    refine wc_fn X.f18 ?_
    refine a_e ?_
    refine e_sub ?_
    refine nl hE j1 (v := .ref sa) rfl ?_
    refine e_int fun v15 => ?_
    refine sb_tuple (items := #[.str (spoilS (replyS mk x.port) (T [mk]) way).1 tl, .str (spoilS (replyS mk x.port) (T [mk]) way).2 tt]) ⟨_, D.getE M0, rfl, _, rfl⟩ (by decide) (by decide) rfl ?_
    refine a_e ?_
    refine e_tuple ?_
    refine a_e ?_
    refine nl hE j1 (v := .str (T x.host) th) rfl ?_
    refine a_e ?_
    refine e_int fun v16 => ?_
    refine a_end ⟨(show 2 ≤ sizeLine by decide), ?_⟩
    replace D := D.newTup #[.str (T x.host) th, .int 21 v16]
    generalize h7.objs.size = pa at D ⊢
    generalize h7.push _ = h8 at D ⊢
    refine a_end ⟨D.st, ?_⟩
    have hcall : WC c A (call (.ref 128) [.str (spoilS (replyS mk x.port) (T [mk]) way).2 tt, .ref pa]) (fun v h' g'' => Back F [env] h8 h' ∧ AllBare g'' ∧ Ans h8 v h' fun items => ∃ t1, items = #[.str (spoilS (replyS mk x.port) (T [mk]) way).1 t1, .str (spoilS (replyS mk x.port) (T [mk]) way).2 tt]) F0 h8 g' := by
      by_cases hw1 : way = 1
      · subst hw1
        obtain ⟨b1, b2, b3, b4⟩ := RO.bad
        rw [b4]
        exact heard_bad S X.Y X.f16 X.f18 (D.ok hb) hA (le0 hn) hfr (D.frk hkE hfE) (D.getE M0) sl1 sl2 b3 b1 b2
      · obtain ⟨rp, p1, p2⟩ := RO.spoil way (by omega) hw1
        refine .of ((heard_q S X.Y X.f16 X.f18 (D.ok hb) hA (le0 hn) hfr (D.frk hkE hfE) (D.getE M0) sl1 sl2 fun q => by rw [p1] at q; cases q).monoQ fun v h' g'' ⟨z1, z2, a, items, z3, z4, z5, z6⟩ => ⟨z1, z2, a, items, z3, z4, z5, ?_⟩)
        rcases z6 with ⟨z6, _⟩ | ⟨rp', t1, z6, z7⟩
        · rw [p1] at z6; cases z6
        · rw [p1] at z6; cases z6
          exact ⟨t1, by rw [z7, p2]⟩
    refine hcall.monoQ fun v h' g'' qq => ?_
    obtain ⟨B1, hb1, a1, items, e1, ha1, hg1, tq9, e2⟩ := qq
    subst e1 e2
    replace D := D.adopt (D.back htab hfE B1) (P := TupA #[.str (spoilS (replyS mk x.port) (T [mk]) way).1 tq9, .str (spoilS (replyS mk x.port) (T [mk]) way).2 tt]) ha1 ⟨_, hg1, rfl⟩ (fun _ p => TupA.tame p)
    refine nl hE D.ns (v := .ref sa) rfl ?_
    have hu64 : A.units + 64 < cLine := by have := hA.u; show _ < 9900; omega
    refine o_neD (da := .tuple [.str (spoilS (replyS mk x.port) (T [mk]) way).1, .str (spoilS (replyS mk x.port) (T [mk]) way).2]) (db := .tuple [.str (spoilS (replyS mk x.port) (T [mk]) way).1, .str (spoilS (replyS mk x.port) (T [mk]) way).2])
      (.tuple (D.getE M0) rfl rfl (.cons (.str _ _) (.cons (.str _ _) .nil))) (.tuple (D.getE M2) rfl rfl (.cons (.str _ _) (.cons (.str _ _) .nil))) (shaped_ss (RO.sok way (by omega)).1 (RO.sok way (by omega)).2) (shaped_ss (RO.sok way (by omega)).1 (RO.sok way (by omega)).2) hu64 ?_
    refine t_bool ?_
    rw [show PyData.eqv (.tuple [.str (spoilS (replyS mk x.port) (T [mk]) way).1, .str (spoilS (replyS mk x.port) (T [mk]) way).2]) (.tuple [.str (spoilS (replyS mk x.port) (T [mk]) way).1, .str (spoilS (replyS mk x.port) (T [mk]) way).2]) = true from by simp [PyData.eqv, PyData.eqvAll]]
    rw [if_neg (by simp)]
    refine wc_nil ?_
    -- the good one is heard
    have hb := hb1
    replace D := D.dropN 3
    replace D : Lg F gg L _ ((it, LitA lhe ((i : Nat) + 1)) :: (lhd, PlA hdv) :: cs) _ := D
    refine .of (xe hE ?_)
    obtain ⟨nh, eh⟩ := D.isL M1
    refine e_append ?_
    refine nl hE D.ns (v := .ref lhd) mhd ?_
    refine ⟨_, _, _, rfl, eh, ?_⟩
    refine e_call ?_
    refine ng hE S D.st X.f18.nm ?_
    refine c_fn X.f18 ?_
    refine a_e ?_
    refine nl hE D.ns (v := .str (replyS mk x.port) v12) rfl ?_
    refine a_e ?_
    refine e_tuple ?_
    refine a_e ?_
    refine nl hE D.ns (v := .str (T x.host) th) rfl ?_
    refine a_e ?_
    refine e_int fun v17 => ?_
    refine a_end ⟨(show 2 ≤ sizeLine by decide), ?_⟩
    replace D := D.newTup #[.str (T x.host) th, .int 21 v17]
    generalize h'.objs.size = pb at D ⊢
    generalize h'.push _ = h9 at D ⊢
    refine a_end ⟨D.st, ?_⟩
    refine (heard_q S X.Y X.f16 X.f18 (D.ok hb) hA (le0 hn) hfr (D.frk hkE hfE) (D.getE M0) (by omega) RO.glen fun _ => ⟨_, RO.num⟩).monoQ fun v h10 g10 qq => ?_
    obtain ⟨B2, hb2, a2, items, e1, ha2, hg2, hok⟩ := qq
    obtain ⟨t9, rfl⟩ : ∃ t9, items = #[.str (T x.host) th, .int x.port t9] := by
      rcases hok with ⟨_, num, t', z1, z2⟩ | ⟨rp, t1, z1, _⟩
      · rw [RO.num] at z1; cases z1
        exact ⟨t', z2⟩
      · rw [RO.good] at z1; cases z1
    subst e1
    replace D := D.adopt (D.back htab hfE B2) (P := TupA #[.str (T x.host) th, .int x.port t9]) ha2 ⟨_, hg2, rfl⟩ (fun _ p => TupA.tame p)
    subst hcs
    replace D : Lg F gg L _ ((a2, TupA #[.str (T x.host) th, .int x.port t9]) :: (pb, TupA #[.str (T x.host) th, .int 21 v17]) :: ([(it, LitA lhe (i + 1)), (lhd, PlA hdv), (lhe, PlA hev), (lr, PlA rv), (lc, PlA cv), (L + 1 + 1, CellA (some (.int ((op + cl : Nat) : Int) t1))), (L + 1, CellA (some (.int (cl : Nat) t2)))] ++ tcs)) _ := D
    replace D := (D.keepOf (.cons_cons _ (.cons _ (.refl _)))).behind (a := [_, _, _, _, _, _, _])
    obtain ⟨nh2, eh2⟩ := D.isL M1
    have hlh := TH.len
    refine ⟨_, _, ?_, eh2, (fun _ q => by cases q), ?_⟩
    · rw [sizeLine_eq]
      have : hdv.toList.length ≤ 8 := by rw [hlh]; unfold heardL; simp; omega
      simp at this
      omega
    replace D := D.updSeq (fun xs => xs.push (.ref a2)) U1
    refine x_nil ?_
    refine hQ1 _ _ ?_
    refine ⟨_, _, _, D, hb2, TR.mono fun p hp => .tail _ hp, ?_, mo, mc, mr, mhe, mhd⟩
    rw [Array.toList_push, List.take_add_one, hs]
    show Tups HdG _ (hdv.toList ++ [.ref a2]) (heardL ring (hear.take i ++ [s]))
    rw [show heardL ring (hear.take i ++ [s]) = heardL ring (hear.take i) ++ [(x.host, x.port)] from by unfold heardL; rw [List.map_append, List.map_cons, List.map_nil, getD_some hx]]
    exact (TH.mono fun p hp => .tail _ hp).push (.head _) ⟨th, t9, rfl⟩
  · rintro h3 g3 ⟨m, hdv, tcs, D, hb, TR, TH, mo, mc, mr, mhe, mhd⟩
    refine end_list hA (D.get M0) (D.isList M2) ?_ fun h4 i1 => ⟨rfl, ?_⟩
    · rw [Array.getElem?_eq_none (by rw [NH.1]; omega)]
    replace D := D.lose R0 i1
    rw [List.take_of_length_le (by omega)] at TH
    exact wc_nil <| hQ0 _ _ _ ⟨rfl, m, lhd, hdv, tcs, D.keepOf (.cons_cons _ (.cons_cons _ (.cons_cons _ (.cons _ (.refl _))))), hb, TR, TH, mo, mr, mhe, mhd⟩
end
end Mine
end

noncomputable section
open PySem PySem.Builtin PySem.Builtin.Str PySem.W PySem.Calls PyProof.Rows PySem.Spec PySem.NumText
set_option Elab.async false
set_option maxRecDepth 100000
set_option linter.unusedVariables false
set_option maxHeartbeats 2000000
set_option pp.deepTerms false
set_option pp.deepTerms.threshold 6
set_option pp.maxSteps 2000
namespace Mine
def rot {α : Type} (l : List α) (s : Nat) : List α := l.drop s ++ l.take s
/-- how many of the pieces are closing ones -/
def clo (ps : List Pc) : Nat := (ps.map (·.kind)).count 1
def invOf (op cl : Nat) : Nat := ((List.range (op + cl)).filter fun k => k * cl % (op + cl) == 1).headD 0
theorem inv_facts : ∀ p ∈ PAIRS, 1 ≤ invOf p.1 p.2 ∧ invOf p.1 p.2 < p.1 + p.2 ∧ ((invOf p.1 p.2 : Int) * (p.2 : Int)).fmod ((p.1 + p.2 : Nat) : Int) = 1 ∧ ∀ k, k < invOf p.1 p.2 → ((k : Int) * (p.2 : Int)).fmod ((p.1 + p.2 : Nat) : Int) ≠ 1 := by decide +kernel
theorem filter_first {α : Type} {p : α → Bool} : ∀ {vs : List α} {j : Nat} {v : α}, vs[j]? = some v → p v = true → (∀ i, i < j → ∀ u, vs[i]? = some u → p u = false) → (vs.filter p)[0]? = some v
  | [], j, v, h, _, _ => by simp at h
  | a :: r, 0, v, h, hp, _ => by
    simp at h
    subst h
    rw [List.filter_cons_of_pos hp]
    rfl
  | a :: r, j + 1, v, h, hp, hn => by
    have h0 := hn 0 (Nat.succ_pos _) a rfl
    rw [List.filter_cons_of_neg (by simp [h0])]
    exact filter_first (by simpa using h) hp fun i hi u hu => hn (i + 1) (by omega) u (by simpa using hu)
def invTest (op cl : Nat) : Value → Bool
  | .int k _ => decide ((k * (cl : Int)).fmod ((op + cl : Nat) : Int) = 1)
  | _ => false
section
variable {c : Cx} {F : Fix} {K : Frag} {A : Around} {n : Nat} {E : PostV Value} {h : Heap} {g : Gens} {L : Addr} {gg : Heap} {m : Str → Option Value} {cs cs' : List Cell} {env : Env}
/-- all but one thing stands that is no cell -/
theorem Lg.exceptIt {h' : Heap} {I : Addr} (D : Lg F gg L m cs h) (hc : ∀ p ∈ cs, p.1 ≠ I) (hg : gg.get? I = none) (hL : I ≠ L) (ht : ∃ o, h.get? I = some o ∧ Tame o) (k : ∀ b o, b ≠ I → h.get? b = some o → h'.get? b = some o) : Lg F gg L m cs h' where
  base := D.base
  keep b o e := k b o (fun q => by rw [q, hg] at e; cases e) (D.keep b o e)
  tabs := D.tabs.mono fun b o hn e => k b o (fun q => by
    obtain ⟨o', h1, h2⟩ := ht
    rw [q, h1] at e
    cases e
    exact hn h2) e
  ns := let ⟨o, es, ep, h1, r⟩ := D.ns; ⟨o, es, ep, k _ _ (Ne.symm hL) h1, r⟩
  off := D.off
  own p hp := let ⟨⟨o, h1, h2⟩, r⟩ := D.own p hp; ⟨⟨o, k _ _ (hc p hp) h1, h2⟩, r⟩
  nd := D.nd
theorem seg5 (hE : env = LE L) (X : Tz F K) {op cl : Nat} {t1 t2 : Tok} (hp : (op, cl) ∈ PAIRS)
    (D : Lg F gg L m cs h) (hc1 : (L + 1 + 1, CellA (some (.int ((op + cl : Nat) : Int) t1))) ∈ cs) (hc2 : (L + 1, CellA (some (.int (cl : Nat) t2))) ∈ cs) (hA : AOk A n)  :
    SegP (WP c A (execs (((recAt 21).body.drop 13).take 1) env) (fun f h' g' => f = .next ∧ g' = g ∧ ∃ ti, Lg F gg L (fun y => if y = Str.ofString "inverse" then some (.int (invOf op cl : Nat) ti) else m y) cs h') E h g) := by
  refine ⟨?_⟩
  refine @WP.abs _ _ _ _ _ _ _ _ fun Q0 hQ0 => ?_
  have S := X.S
  have hps := pairs_small _ hp
  obtain ⟨i1, i2, i3, i4⟩ := inv_facts _ hp
  dsimp only at i1 i2 i3 i4
  subst hE
  refine x_assign ?_
  refine e_sub ?_
  refine e_compif (cl := [(Str.ofString "count", L + 1 + 1), (Str.ofString "closing", L + 1)]) (invTest op cl) (by kernel_rfl) (by kernel_rfl) (by kernel_rfl) (by kernel_rfl) (by kernel_rfl) ?_ (by kernel_rfl) (by kernel_rfl)
  refine e_call ?_
  refine nb rfl S D.st boot_range ?_
  refine c_type ?_
  refine a_e ?_
  refine e_int fun u0 => ?_
  refine a_e ?_
  refine nce rfl cell_count (D.get hc1) ?_
  refine a_end ?_
  refine range2 fun u1 => ?_
  have D1 := D.push { cls := .type "range", data := .fields #[.int 1 u0, .int ((op + cl : Nat) : Int) t1, .int 1 u1] }
  generalize h.objs.size = lr at D1 ⊢
  generalize h.push _ = h1 at D1 ⊢
  refine i_range (D1.getE M0) (rsmall 1 _ (by omega) (by omega) (by omega) (by omega)) ?_
  have D2 := D1.push { cls := .type "range_iterator", data := .fields #[rawInt 1, rawInt (Builtin.Range.rangeSize 1 ((op + cl : Nat) : Int) 1), rawInt 1] } rfl (RgA.tame (x := 1) (left := Builtin.Range.rangeSize 1 ((op + cl : Nat) : Int) 1) (step := 1) rfl)
  have hI : h1.objs.size < (h1.push { cls := .type "range_iterator", data := .fields #[rawInt 1, rawInt (Builtin.Range.rangeSize 1 ((op + cl : Nat) : Int) 1), rawInt 1] }).objs.size := by rw [Heap.size_push]; exact Nat.lt_succ_self _
  have hIr := D2.getE M0
  generalize h1.objs.size = I at D2 hI hIr ⊢
  generalize h1.push _ = h2 at D2 hI hIr ⊢
  refine ⟨I, op + cl - 1, _, _, rfl, Walks.range hA.h I 1 1 (op + cl - 1), by rw [sizeLine_eq]; omega, ?_, hI, ?_, ?_⟩
  · show IsRangeIter h2 I (1 + (0 : Nat) * 1) (((op + cl - 1 : Nat) : Int) - (0 : Nat)) 1
    rw [rsize 1 _ (by omega)] at hIr
    have e1 : (1 : Int) + ((0 : Nat) : Int) * 1 = 1 := by omega
    have e2 : ((op + cl - 1 : Nat) : Int) - ((0 : Nat) : Int) = ((op + cl : Nat) : Int) - 1 := by omega
    rw [e1, e2]
    exact hIr
  · rintro d o C i v h3 g3 m3 ⟨tv, rfl⟩ hn hm hk
    have hneI : ∀ {b : Addr} {P : Obj → Prop}, (b, P) ∈ cs → b ≠ I := fun {b P} hb q => by
      obtain ⟨o, e1, e2⟩ := D.get hb
      have := D2.nd
      rw [List.map_cons, List.map_cons, List.nodup_cons, List.nodup_cons] at this
      exact this.1 (.tail _ (List.mem_map.mpr ⟨_, hb, q⟩))
    have hcell : ∀ {b : Addr} {w : Option Value}, (b, CellA w) ∈ cs → h3.IsCell b w := fun {b w} hb => by
      obtain ⟨o, e1, e2⟩ := D2.get (.tail _ (.tail _ hb))
      exact ⟨o, hk _ _ (hneI hb) e1, e2⟩
    refine t_cmp ?_
    refine e_bin ?_
    refine e_bin ?_
    refine n_local hn hm ?_ (by kernel_rfl) (by kernel_rfl) (by kernel_rfl)
    refine n_cell (hcell hc2) (a := L + 1) (by kernel_rfl) ?_ (by kernel_rfl) (by kernel_rfl) (by kernel_rfl)
    refine o_mul (.of_right (intBits_le_64 (by omega) (by omega))) fun u2 => ?_
    refine n_cell (hcell hc1) (a := L + 1 + 1) (by kernel_rfl) ?_ (by kernel_rfl) (by kernel_rfl) (by kernel_rfl)
    refine o_mod (by omega) fun u3 => ?_
    refine e_int fun u4 => ?_
    refine o_eq ?_
    refine t_bool ⟨?_, rfl, fun _ _ e => e⟩
    show _ = decide _
    rw [Bool.eq_iff_iff]
    simp
  · intro T h' ys vs hT hys hlen hP hF hk
    have hv : vs[invOf op cl - 1]? = some (vs[invOf op cl - 1]'(by omega)) := List.getElem?_eq_getElem (by omega)
    obtain ⟨ti, hti⟩ := hP _ _ hv
    have e0 : (1 : Int) + ((invOf op cl - 1 : Nat) : Int) * 1 = (invOf op cl : Int) := by omega
    rw [e0] at hti
    have hff := filter_first (p := invTest op cl) hv (by rw [hti]; exact decide_eq_true i3) fun i hi u hu => by
      obtain ⟨tu, htu⟩ := hP _ _ hu
      rw [htu]
      refine decide_eq_false ?_
      have := i4 (1 + i) (by omega)
      have e : ((1 + i : Nat) : Int) = 1 + (i : Int) * 1 := by omega
      rw [← e]
      exact this
    rw [← hF, hti] at hff
    have D3 := (D2.dropN 2).exceptIt (I := I) (fun p hp q => by
      have := D2.nd
      rw [List.map_cons, List.map_cons, List.nodup_cons, List.nodup_cons] at this
      exact this.1 (.tail _ (List.mem_map.mpr ⟨_, hp, q⟩))) (D2.own _ M0).2.1 (fun q => (D2.own _ M0).2.2.1 q) ⟨_, hIr, (D2.own _ M0).2.2.2 _ rfl⟩ hk
    refine e_int fun u5 => ?_
    refine sb_list (l := T) (items := ys) (x := .int (invOf op cl : Nat) ti) ?_ (by decide) (by decide) ?_ ?_
    · obtain ⟨o, e1, e2⟩ := hys
      exact ⟨o, e1, e2.ls⟩
    · rw [← Array.getElem?_toList]; exact hff
    refine sl rfl D3.ns fun h4 j1 j2 => ?_
    exact x_nil <| hQ0 _ _ _ ⟨rfl, rfl, ti, D3.store j1 j2⟩
end
end Mine
end

noncomputable section
open PySem PySem.Builtin PySem.Builtin.Str PySem.W PySem.Calls PyProof.Rows PySem.Spec PySem.NumText
set_option Elab.async false
set_option maxRecDepth 100000
set_option linter.unusedVariables false
set_option maxHeartbeats 2000000
set_option pp.deepTerms false
set_option pp.deepTerms.threshold 6
set_option pp.maxSteps 2000
namespace Mine
def placeOf (cnt s0 s : Nat) : Nat := (s + cnt - s0) % cnt
def stepW (op cl : Nat) (d : Int) (p : Int) : Int := ((invOf op cl : Int) * (cl : Int)).fdiv ((op + cl : Nat) : Int) * p - ((invOf op cl : Int) * d).fdiv ((op + cl : Nat) : Int)
/-- what is to be shown of the places -/
structure PlaceOk (op cl : Nat) (ring : List Pc) (s0 s : Nat) (d : Int) : Prop where
  b0 : d.natAbs < 2 ^ 17
  b1 : ((invOf op cl : Int) * d).natAbs < 2 ^ 17
  pl : ((invOf op cl : Int) * d).fmod ((op + cl : Nat) : Int) = (placeOf (op + cl) s0 s : Nat)
  b2 : (stepW op cl d (placeOf (op + cl) s0 s : Nat)).natAbs < 2 ^ 17
  rs : (stepW op cl d (placeOf (op + cl) s0 s : Nat)).fmod (invOf op cl : Int) = 0
  ps : (stepW op cl d (placeOf (op + cl) s0 s : Nat)).fdiv (invOf op cl : Int) = (clo ((rot ring s0).take (placeOf (op + cl) s0 s)) : Nat)
  rt : (rot ring s0)[placeOf (op + cl) s0 s]? = ring[s]?
def PlAt (tcs : List Cell) (pv : Array Value) (rr : List Pc) (p : Nat) : Prop := ∃ a items x, rr[p]? = some x ∧ pv[p]? = some (.ref a) ∧ (a, TupA items) ∈ tcs ∧ ∃ t u w, items = #[.str (T x.host) t, .int (clo (rr.take p) : Nat) u, .int x.port w]
theorem PlAt.mono {tcs tcs' : List Cell} {pv : Array Value} {rr : List Pc} {p : Nat} (x : PlAt tcs pv rr p) (h : ∀ q ∈ tcs, q ∈ tcs') : PlAt tcs' pv rr p := let ⟨a, items, y, e1, e2, e3, e4⟩ := x; ⟨a, items, y, e1, e2, h _ e3, e4⟩
theorem PlAt.set {tcs : List Cell} {pv : Array Value} {rr : List Pc} {p q : Nat} (x : PlAt tcs pv rr p) {v : Value} (hne : p ≠ q) : PlAt tcs (pv.setIfInBounds q v) rr p := by
  obtain ⟨a, items, y, e1, e2, e3, e4⟩ := x
  exact ⟨a, items, y, e1, by rw [Array.getElem?_setIfInBounds_ne (Ne.symm hne)]; exact e2, e3, e4⟩
section
variable {c : Cx} {F : Fix} {K : Frag} {A : Around} {n : Nat} {E : PostV Value} {h : Heap} {g : Gens} {L : Addr} {gg : Heap} {m : Str → Option Value} {cs cs' : List Cell} {env : Env}
inductive J6 (F : Fix) (gg : Heap) (L it lp lr lhe lhd : Addr) (op cl s0 : Nat) (to t1 t2 ti : Tok) (rv hev hdv : Array Value) (ring : List Pc) (hear : List Nat) (i : Nat) (h : Heap) (g : Gens) : Prop
  | mk (m : Str → Option Value) (pv : Array Value) (tcs : List Cell)
    (e0 : Lg F gg L m ([(it, LitA lhd i), (lp, LsA pv), (lhd, PlA hdv), (lhe, PlA hev), (lr, PlA rv), (L + 1 + 1, CellA (some (.int ((op + cl : Nat) : Int) t1))), (L + 1, CellA (some (.int (cl : Nat) t2)))] ++ tcs) h)
    (e1 : AllBare g)
    (e2 : Tups PcG tcs rv.toList ring)
    (e3 : Tups HdG tcs hdv.toList (heardL ring hear))
    (e4 : pv.size = op + cl)
    (e5 : (∀ j s, j < i → hear[j]? = some s → PlAt tcs pv (rot ring s0) (placeOf (op + cl) s0 s)))
    (e6 : m (Str.ofString "opening") = some (.int (op : Nat) to))
    (e7 : m (Str.ofString "ring") = some (.ref lr))
    (e8 : m (Str.ofString "hearing") = some (.ref lhe))
    (e9 : m (Str.ofString "heard") = some (.ref lhd))
    (e10 : m (Str.ofString "inverse") = some (.int (invOf op cl : Nat) ti))
    (e11 : m (Str.ofString "places") = some (.ref lp)) : J6 F gg L it lp lr lhe lhd op cl s0 to t1 t2 ti rv hev hdv ring hear i h g
/-- what seg6 leaves -/
inductive Rz6 (F : Fix) (gg : Heap) (L lr lhe lhd : Addr) (op cl s0 : Nat) (to t1 t2 : Tok) (rv hev hdv : Array Value) (ring : List Pc) (hear : List Nat) (h' : Heap) (g' : Gens) : Prop
  | mk (m' : Str → Option Value) (lp : Addr) (pv : Array Value) (tcs : List Cell)
    (e0 : Lg F gg L m' ([(lp, LsA pv), (lhd, PlA hdv), (lhe, PlA hev), (lr, PlA rv), (L + 1 + 1, CellA (some (.int ((op + cl : Nat) : Int) t1))), (L + 1, CellA (some (.int (cl : Nat) t2)))] ++ tcs) h')
    (e1 : AllBare g')
    (e2 : Tups PcG tcs rv.toList ring)
    (e3 : Tups HdG tcs hdv.toList (heardL ring hear))
    (e4 : pv.size = op + cl)
    (e5 : (∀ s ∈ hear, PlAt tcs pv (rot ring s0) (placeOf (op + cl) s0 s)))
    (e6 : m' (Str.ofString "opening") = some (.int (op : Nat) to))
    (e7 : m' (Str.ofString "ring") = some (.ref lr))
    (e8 : m' (Str.ofString "hearing") = some (.ref lhe))
    (e9 : m' (Str.ofString "heard") = some (.ref lhd))
    (e10 : m' (Str.ofString "places") = some (.ref lp)) : Rz6 F gg L lr lhe lhd op cl s0 to t1 t2 rv hev hdv ring hear h' g'
theorem seg6 (hE : env = LE L) (X : Tz F K) {lr lhe lhd : Addr} {op cl s0 : Nat} {to t1 t2 ti : Tok} {rv hev hdv : Array Value} {ring : List Pc} {hear : List Nat} {tcs : List Cell} (hp : (op, cl) ∈ PAIRS)
    (hrl : ring.length = op + cl) (hper : hear.Perm (List.range (op + cl))) (hs0 : hear[0]? = some s0) (hpl : ∀ s, s < op + cl → PlaceOk op cl ring s0 s ((ring.getD s dflt).port - (ring.getD s0 dflt).port))
    (D : Lg F gg L m ([(lhd, PlA hdv), (lhe, PlA hev), (lr, PlA rv), (L + 1 + 1, CellA (some (.int ((op + cl : Nat) : Int) t1))), (L + 1, CellA (some (.int (cl : Nat) t2)))] ++ tcs) h) (hb : AllBare g) (hA : AOk A n) (hn : n ≤ 1) (htab : ∀ b ∈ F.ns.map (·.P), gg.get? b = none)
    (TR : Tups PcG tcs rv.toList ring) (TH : Tups HdG tcs hdv.toList (heardL ring hear)) (mo : m (Str.ofString "opening") = some (.int (op : Nat) to)) (mr : m (Str.ofString "ring") = some (.ref lr)) (mhe : m (Str.ofString "hearing") = some (.ref lhe)) (mhd : m (Str.ofString "heard") = some (.ref lhd)) (mi : m (Str.ofString "inverse") = some (.int (invOf op cl : Nat) ti)) :
    SegP (WP c A (execs (((recAt 21).body.drop 14).take 2) env) (fun f h' g' => f = .next ∧ Rz6 F gg L lr lhe lhd op cl s0 to t1 t2 rv hev hdv ring hear h' g') F0 h g) := by
  refine ⟨?_⟩
  refine @WP.abs _ _ _ _ _ _ _ _ fun Q0 hQ0 => ?_
  have S := X.S
  have hps := pairs_small _ hp
  obtain ⟨i1, i2, _, _⟩ := inv_facts _ hp
  dsimp only at i1 i2 hps
  refine x_assign ?_
  refine e_bin ?_
  refine e_list ?_
  refine a_e ?_
  refine e_none ?_
  refine a_end ?_
  refine ⟨(show 1 ≤ sizeLine by decide), ?_⟩
  have D1 := D.newList #[.none]
  generalize h.objs.size = l0 at D1 ⊢
  generalize h.push _ = h1 at D1 ⊢
  refine nce hE cell_count (D1.get M4) ?_
  obtain ⟨n3, e3⟩ := D1.isL M0
  refine l_mul e3 (by omega) (by omega) (by simp; omega) ?_
  rw [show (if (#[Value.none] : Array Value).isEmpty = true then 0 else ((op + cl : Nat) : Int).toNat) = op + cl from rfl, rep_foldV]
  have D2 := (D1.dropN 1).newList (#[] ++ (List.replicate (op + cl) Value.none).toArray)
  generalize h1.objs.size = lp at D2 ⊢
  generalize h1.push _ = h2 at D2 ⊢
  have hpvs : (#[] ++ (List.replicate (op + cl) Value.none).toArray).size = op + cl := by simp
  generalize #[] ++ (List.replicate (op + cl) Value.none).toArray = pv0 at D2 hpvs ⊢
  have D3 := D2.weak (P' := LsA pv0) U0 (fun _ p => PlA.ls p) (fun _ p => p.tame)
  refine sl hE D3.ns fun h3 j1 j2 => ?_
  replace D3 := D3.store j1 j2
  refine x_for ?_
  refine nl hE j1 mhd ?_
  refine i_list (D3.isList M1) ?_
  have D4 := D3.add (P := LitA lhd 0) (h' := h3.push { cls := .type "list_iterator", data := .fields #[.ref lhd, .int 0 0] }) (fun _ _ e => Heap.get?_push_of_some _ e) Lg.get_size ⟨_, Heap.get?_push_size _ rfl, rfl, rfl⟩ fun _ p => p.tame
  generalize h3.objs.size = it at D4 ⊢
  generalize h3.push _ = h4 at D4 ⊢
  have hhl : hear.length = op + cl := by have := hper.length_eq; simpa using this
  have hdl : hdv.size = op + cl := by have := TH.len; simp [heardL] at this; omega
  have hin : ∀ s, s ∈ hear → s < op + cl := fun s hs => by simpa using hper.mem_iff.mp hs
  have hs0l := hin s0 (List.mem_of_getElem? hs0)
  refine fl_abs (N := op + cl) (J6 F gg L it lp lr lhe lhd op cl s0 to t1 t2 ti rv hev hdv ring hear) ?_ ?_ ?_
  · exact ⟨_, pv0, tcs, D4, hb, TR, TH, hpvs, (fun j s hj => absurd hj (Nat.not_lt_zero _)), mo, mr, mhe, mhd, mi, rfl⟩
  · rintro i h5 g5 hi Q1 hQ1 _ ⟨m, pv, tcs, D, hb, TR, TH, hpv, hat, mo, mr, mhe, mhd, mi, mp⟩
    obtain ⟨cs, hcs⟩ : ∃ cs : List Cell, cs = [(lhd, PlA hdv), (lhe, PlA hev), (lr, PlA rv), (L + 1 + 1, CellA (some (.int ((op + cl : Nat) : Int) t1))), (L + 1, CellA (some (.int (cl : Nat) t2)))] ++ tcs := ⟨_, rfl⟩
    have c0 : (lhd, PlA hdv) ∈ cs := by rw [hcs]; exact M0
    have c3 : (L + 1 + 1, CellA (some (.int ((op + cl : Nat) : Int) t1))) ∈ cs := by rw [hcs]; exact M3
    have c4 : (L + 1, CellA (some (.int (cl : Nat) t2))) ∈ cs := by rw [hcs]; exact M4
    have ct : ∀ p ∈ tcs, p ∈ cs := fun p hp => by rw [hcs]; exact List.mem_append_right _ hp
    replace D : Lg F gg L m ((it, LitA lhd i) :: (lp, LsA pv) :: cs) h5 := by rw [hcs]; exact D
    obtain ⟨s, hs⟩ : ∃ s, hear[i]? = some s := ⟨_, List.getElem?_eq_getElem (by omega)⟩
    have hsl := hin s (List.mem_of_getElem? hs)
    have hx : ring[s]? = some (ring.getD s dflt) := by rw [List.getD_eq_getElem?_getD, List.getElem?_eq_getElem (by omega)]; rfl
    have PO := hpl s hsl
    obtain ⟨a, items, e1, e2, th, tp, e4⟩ := TH.get D (fun p hp => mt2 (ct p hp)) (j := i) (y := ((ring.getD s dflt).host, (ring.getD s dflt).port)) (by unfold heardL; rw [List.getElem?_map, hs]; rfl)
    obtain ⟨a0, items0, f1, f2, th0, tp0, f4⟩ := TH.get D (fun p hp => mt2 (ct p hp)) (j := 0) (y := ((ring.getD s0 dflt).host, (ring.getD s0 dflt).port)) (by unfold heardL; rw [List.getElem?_map, hs0]; rfl)
    subst e4 f4
    rw [Array.getElem?_toList] at e1 f1
    refine next_list (D.get M0) (D.isList (mt2 c0)) e1 fun h6 i1 i2 => ⟨_, rfl, ?_⟩
    have hne : a ≠ it ∧ a0 ≠ it := by
      obtain ⟨o, z1, z2⟩ := D.get M0
      refine ⟨fun q => ?_, fun q => ?_⟩
      · rw [q, z1] at e2; cases e2; cases z2.2
      · rw [q, z1] at f2; cases f2; cases z2.2
    have e2' := (i2.2 _ hne.1).trans e2
    have f2' := (i2.2 _ hne.2).trans f2
    replace D := D.upd U0 i2 i1 (fun _ p => LitA.tame p)
    refine lot_list (D.get M0) (as_pair hA ⟨_, e2', rfl, _, rfl⟩ fun h7 kk => ?_)
    replace D := D.more kk
    have f3 := kk _ _ f2'
    have neL : a0 ≠ L := fun q => by
      obtain ⟨o, es, ep, z1, z2, _⟩ := D.ns
      rw [q, z1] at f3; cases f3; cases z2
    refine sl hE D.ns fun h8 j1 j2 => ?_
    replace D := D.store j1 j2
    have f3 := (j2.2 _ neL).trans f3
    refine sl hE j1 fun h9 j1 j2 => ?_
    replace D := D.store j1 j2
    have f3 := (j2.2 _ neL).trans f3
    -- turns, place
    refine x_assignT ?_
    refine e_call ?_
    refine ng hE S D.st X.f11.nm ?_
    refine c_fn X.f11 ?_
    refine a_e ?_
    refine e_bin ?_
    refine nl hE j1 mi ?_
    refine e_bin ?_
    refine nl hE j1 rfl ?_
    refine e_sub ?_
    refine e_sub ?_
    refine nl hE j1 mhd ?_
    refine e_int fun u0 => ?_
    refine sb_list (D.isList (mt2 c0)) (by decide) (by decide) f1 ?_
    refine e_int fun u1 => ?_
    refine sb_tuple (items := #[.str (T (ring.getD s0 dflt).host) th0, .int (ring.getD s0 dflt).port tp0]) ⟨_, f3, rfl, _, rfl⟩ (by decide) (by decide) rfl ?_
    refine o_sub fun u2 => ?_
    have hb0 := PO.b0
    refine o_mul (.of_right (intBits_le_64 (by omega) (by omega))) fun u3 => ?_
    refine a_e ?_
    refine nce hE cell_count (D.get (mt2 c3)) ?_
    refine a_end ⟨D.st, ?_⟩
    refine (int_divmod X.toTx (D.ok hb) hA (le0 hn) _ (op + cl) _ _ (by omega) (by omega) PO.b1).monoQ fun v h10 g10 qq => ?_
    obtain ⟨G1, O1, y1, tq, tr, e5, hn1, hx1⟩ := qq
    subst e5
    replace D := D.after G1 O1.tabs (D.tabs_off htab)
    refine as_pair hA ⟨_, hx1, rfl, _, rfl⟩ fun h11 kk => ?_
    replace D := D.more kk
    rw [PO.pl]
    refine sl hE D.ns fun h12 j1 j2 => ?_
    replace D := D.store j1 j2
    refine sl hE j1 fun h13 j1 j2 => ?_
    replace D := D.store j1 j2
    -- passed, rest
    refine x_assignT ?_
    refine e_call ?_
    refine ng hE S D.st X.f11.nm ?_
    refine c_fn X.f11 ?_
    refine a_e ?_
    refine e_bin ?_
    refine e_bin ?_
    refine e_bin ?_
    refine e_bin ?_
    refine nl hE j1 mi ?_
    refine nce hE cell_closing (D.get (mt2 c4)) ?_
    refine o_mul (.of_right (intBits_le_64 (by omega) (by omega))) fun u4 => ?_
    refine nce hE cell_count (D.get (mt2 c3)) ?_
    refine o_fdiv (by omega) (by omega) fun u5 => ?_
    refine nl hE j1 rfl ?_
    have hplt : placeOf (op + cl) s0 s < op + cl := Nat.mod_lt _ (by omega)
    refine o_mul (.of_right (intBits_le_64 (by omega) (by omega))) fun u6 => ?_
    refine nl hE j1 rfl ?_
    refine o_sub fun u7 => ?_
    refine a_e ?_
    refine nl hE j1 mi ?_
    refine a_end ⟨D.st, ?_⟩
    refine (int_divmod X.toTx (D.ok O1.bare) hA (le0 hn) (stepW op cl ((ring.getD s dflt).port - (ring.getD s0 dflt).port) (placeOf (op + cl) s0 s : Nat)) (invOf op cl) _ _ (by omega) (by omega) PO.b2).monoQ fun v h14 g14 qq => ?_
    obtain ⟨G2, O2, y2, tq2, tr2, e6, hn2, hx2⟩ := qq
    subst e6
    replace D := D.after G2 O2.tabs (D.tabs_off htab)
    refine as_pair hA ⟨_, hx2, rfl, _, rfl⟩ fun h15 kk => ?_
    replace D := D.more kk
    rw [PO.rs, PO.ps]
    refine sl hE D.ns fun h16 j1 j2 => ?_
    replace D := D.store j1 j2
    refine sl hE j1 fun h17 j1 j2 => ?_
    replace D := D.store j1 j2
    refine x_if ?_
    refine t_cmp ?_
    refine nl hE j1 (v := .int 0 tr2) rfl ?_
    refine e_int fun u8 => ?_
    refine o_ne ?_
    refine t_bool ?_
    rw [if_neg (by decide)]
    refine x_nil ?_
    -- places[place]
    refine x_setsub ?_
    refine e_tuple ?_
    refine a_e ?_
    refine nl hE j1 (v := .str (T (ring.getD s dflt).host) th) rfl ?_
    refine a_e ?_
    refine nl hE j1 (v := .int (clo ((rot ring s0).take (placeOf (op + cl) s0 s)) : Nat) tq2) rfl ?_
    refine a_e ?_
    refine nl hE j1 (v := .int (ring.getD s dflt).port tp) rfl ?_
    refine a_end ⟨(show 3 ≤ sizeLine by decide), ?_⟩
    subst hcs
    replace D := Lg.behind (a := [(it, LitA lhd ((i : Nat) + 1)), (lp, LsA pv), (lhd, PlA hdv), (lhe, PlA hev), (lr, PlA rv), (L + 1 + 1, CellA (some (.int ((op + cl : Nat) : Int) t1))), (L + 1, CellA (some (.int (cl : Nat) t2)))]) (b := tcs) (D.newTup #[.str (T (ring.getD s dflt).host) th, .int (clo ((rot ring s0).take (placeOf (op + cl) s0 s)) : Nat) tq2, .int (ring.getD s dflt).port tp])
    generalize h17.objs.size = ta at D ⊢
    generalize h17.push _ = h18 at D ⊢
    refine nl hE D.ns (v := .ref lp) mp ?_
    refine nl hE D.ns (v := .int (placeOf (op + cl) s0 s : Nat) tr) rfl ?_
    refine l_set (D.get M1) (by omega) (by omega) (by omega) fun h19 j1 j2 => ?_
    replace D := D.upd (P' := LsA (pv.setIfInBounds (placeOf (op + cl) s0 s) (.ref ta))) U1 j2 j1 (fun _ p => LsA.tame p)
    refine x_nil (hQ1 _ _ ?_)
    refine ⟨_, _, _, D, O2.bare, TR.mono fun p hp => .tail _ hp, TH.mono fun p hp => .tail _ hp, by simpa using hpv, fun j s' hj hs' => ?_, mo, mr, mhe, mhd, mi, mp⟩
    by_cases hq : placeOf (op + cl) s0 s' = placeOf (op + cl) s0 s
    · rw [hq]
      exact ⟨ta, _, ring.getD s dflt, PO.rt.trans hx, by rw [Array.getElem?_setIfInBounds_self_of_lt (by omega)], .head _, th, tq2, tp, rfl⟩
    · have hji : j < i := by
        refine Nat.lt_of_le_of_ne (Nat.le_of_lt_succ hj) fun q => ?_
        rw [q, hs] at hs'; cases hs'
        exact hq rfl
      exact ((hat j s' hji hs').mono fun q hq => .tail _ hq).set hq
  · rintro h5 g5 ⟨m, pv, tcs, D, hb, TR, TH, hpv, hat, mo, mr, mhe, mhd, mi, mp⟩
    refine end_list hA (D.get M0) (D.isList M2) ?_ fun h6 i1 => ⟨rfl, ?_⟩
    · rw [Array.getElem?_eq_none (by omega)]
    replace D := D.lose R0 i1
    refine x_nil <| hQ0 _ _ _ ⟨rfl, m, lp, pv, tcs, D, hb, TR, TH, hpv, fun s hs => ?_, mo, mr, mhe, mhd, mp⟩
    obtain ⟨j, hj, rfl⟩ := List.getElem_of_mem hs
    exact hat j _ (by omega) (List.getElem?_eq_getElem hj)
end
end Mine
end

noncomputable section
open PySem PySem.Builtin PySem.Builtin.Str PySem.W PySem.Calls PyProof.Rows PySem.Spec PySem.NumText
set_option Elab.async false
set_option maxRecDepth 100000
set_option linter.unusedVariables false
set_option maxHeartbeats 2000000
set_option pp.deepTerms false
set_option pp.deepTerms.threshold 6
set_option pp.maxSteps 2000
namespace Mine
theorem clo_succ {rr : List Pc} {k : Nat} {x : Pc} (hx : rr[k]? = some x) (h01 : x.kind = 0 ∨ x.kind = 1) : (clo (rr.take (k + 1)) : Int) = (clo (rr.take k) : Int) + (x.kind : Int) := by
  unfold clo
  rw [List.take_add_one, hx, List.map_append, List.count_append]
  rcases h01 with e | e <;> simp [e]
def pcD (x : Pc) : PyData := .tuple [.str (T x.host), .int x.kind, .int x.port]
theorem readsAll_of {h : Heap} : ∀ {vs : List Value} {ds : List PyData}, vs.length = ds.length → (∀ (j : Nat) (d : PyData), ds[j]? = some d → ∃ v, vs[j]? = some v ∧ Reads h v d []) → ReadsAll h vs ds []
  | [], [], _, _ => .nil
  | [], _ :: _, h, _ => by simp at h
  | _ :: _, [], h, _ => by simp at h
  | v :: vs, d :: ds, hl, hr => by
    obtain ⟨v', e1, e2⟩ := hr 0 d rfl
    simp at e1
    subst e1
    exact .cons (as := []) e2 (readsAll_of (by simpa using hl) fun j d' hd => by simpa using hr (j + 1) d' (by simpa using hd))
theorem eqvAll_pc : ∀ ps : List Pc, PyData.eqvAll (ps.map pcD) (ps.map pcD) = true
  | [] => by simp [PyData.eqvAll]
  | x :: r => by simp [PyData.eqvAll, PyData.eqv, pcD, eqvAll_pc r]
theorem canLay_pc : ∀ ps : List Pc, (∀ x ∈ ps, PyData.strOk (T x.host) = true) → PyData.canLayAll0 (ps.map pcD) = true
  | [], _ => by simp [PyData.canLayAll0]
  | x :: r, h => by simp [PyData.canLayAll0, PyData.canLay0, pcD, canLay_pc r fun y hy => h y (.tail _ hy), h x (.head _)]
theorem depth_pc : ∀ ps : List Pc, PyData.depthAll (ps.map pcD) ≤ 1
  | [] => by simp [PyData.depthAll]
  | x :: r => by
    have := depth_pc r
    simp [PyData.depthAll, PyData.depth, pcD]
    omega
theorem shaped_pc (ps : List Pc) (h : ∀ x ∈ ps, PyData.strOk (T x.host) = true) : SeqAt.shaped (.list (ps.map pcD)) = true := by
  have h1 := canLay_pc ps h
  have h2 := depth_pc ps
  simp [SeqAt.shaped, PyData.canLay0, PyData.depth, h1]
  omega
theorem hosts_ok : ∀ x ∈ hostsL, PyData.strOk (T x) = true := by decide +kernel
theorem Tups.reads {tcs : List Cell} {vs : List Value} {ps : List Pc} {h : Heap} (x : Tups PcG tcs vs ps) (hg : ∀ a items, (a, TupA items) ∈ tcs → h.get? a = some { cls := .type "tuple", data := .seq items }) : ReadsAll h vs (ps.map pcD) [] := by
  refine readsAll_of (by simp [x.len]) fun j d hd => ?_
  rw [List.getElem?_map] at hd
  cases hp : ps[j]? with
  | none => rw [hp] at hd; cases hd
  | some y =>
    rw [hp] at hd
    cases hd
    obtain ⟨a, items, e1, e2, t, u, w, rfl⟩ := x.at_ j y hp
    exact ⟨_, e1, .tuple (hg _ _ e2) rfl rfl (.cons (as := []) (.str _ _) (.cons (as := []) (.int _ _) (.cons (as := []) (.int _ _) .nil)))⟩
theorem Tups.rot {β : Type} {G : β → Array Value → Prop} {tcs : List Cell} {vs : List Value} {xs : List β} (x : Tups G tcs vs xs) (s : Nat) : Tups G tcs (rot vs s) (rot xs s) := by
  refine ⟨by simp [Mine.rot, x.len], fun j y hy => ?_⟩
  unfold Mine.rot at hy ⊢
  by_cases hj : j < (xs.drop s).length
  · rw [List.getElem?_append_left hj, List.getElem?_drop] at hy
    rw [List.getElem?_append_left (by simpa [x.len] using hj), List.getElem?_drop]
    exact x.at_ _ y hy
  · rw [List.getElem?_append_right (by omega)] at hy
    rw [List.getElem?_append_right (by simp [x.len] at hj ⊢; omega)]
    simp only [List.length_drop, x.len, List.getElem?_take] at hy ⊢
    split at hy
    · rename_i hc
      rw [if_pos hc]
      exact x.at_ _ y hy
    · cases hy
section
variable {c : Cx} {F : Fix} {K : Frag} {A : Around} {n : Nat} {E : PostV Value} {h : Heap} {g : Gens} {L : Addr} {gg : Heap} {m : Str → Option Value} {cs cs' : List Cell} {env : Env}
inductive J7 (F : Fix) (gg : Heap) (L it lt lp lr lhe lhd : Addr) (op cl : Nat) (to t1 t2 : Tok) (rv hev hdv pv : Array Value) (ring rr : List Pc) (hear : List Nat) (i : Nat) (h : Heap) (g : Gens) : Prop
  | mk (m : Str → Option Value) (tv : Array Value) (tcs : List Cell)
    (e0 : Lg F gg L m ([(it, RgA (i : Nat) (((op + cl : Nat) : Int) - (i : Nat)) 1), (lt, PlA tv), (lp, LsA pv), (lhd, PlA hdv), (lhe, PlA hev), (lr, PlA rv), (L + 1 + 1, CellA (some (.int ((op + cl : Nat) : Int) t1))), (L + 1, CellA (some (.int (cl : Nat) t2)))] ++ tcs) h)
    (e1 : AllBare g)
    (e2 : Tups PcG tcs rv.toList ring)
    (e3 : Tups HdG tcs hdv.toList (heardL ring hear))
    (e4 : Tups PcG tcs tv.toList (rr.take i))
    (e5 : (∀ p, p < op + cl → PlAt tcs pv rr p))
    (e6 : m (Str.ofString "opening") = some (.int (op : Nat) to))
    (e7 : m (Str.ofString "ring") = some (.ref lr))
    (e8 : m (Str.ofString "hearing") = some (.ref lhe))
    (e9 : m (Str.ofString "heard") = some (.ref lhd))
    (e10 : m (Str.ofString "places") = some (.ref lp))
    (e11 : m (Str.ofString "told") = some (.ref lt)) : J7 F gg L it lt lp lr lhe lhd op cl to t1 t2 rv hev hdv pv ring rr hear i h g
/-- what seg7 leaves -/
inductive Rz7 (F : Fix) (gg : Heap) (L lr lhe lhd : Addr) (op cl : Nat) (to t1 t2 : Tok) (rv hev hdv : Array Value) (ring rr : List Pc) (hear : List Nat) (h' : Heap) (g' : Gens) : Prop
  | mk (m' : Str → Option Value) (lt : Addr) (tv : Array Value) (tcs : List Cell)
    (e0 : Lg F gg L m' ([(lt, PlA tv), (lhd, PlA hdv), (lhe, PlA hev), (lr, PlA rv), (L + 1 + 1, CellA (some (.int ((op + cl : Nat) : Int) t1))), (L + 1, CellA (some (.int (cl : Nat) t2)))] ++ tcs) h')
    (e1 : AllBare g')
    (e2 : Tups PcG tcs rv.toList ring)
    (e3 : Tups HdG tcs hdv.toList (heardL ring hear))
    (e4 : Tups PcG tcs tv.toList rr)
    (e5 : m' (Str.ofString "opening") = some (.int (op : Nat) to))
    (e6 : m' (Str.ofString "ring") = some (.ref lr))
    (e7 : m' (Str.ofString "hearing") = some (.ref lhe))
    (e8 : m' (Str.ofString "heard") = some (.ref lhd))
    (e9 : m' (Str.ofString "told") = some (.ref lt)) : Rz7 F gg L lr lhe lhd op cl to t1 t2 rv hev hdv ring rr hear h' g'
theorem seg7 (hE : env = LE L) (X : Tz F K) {lr lhe lhd lp : Addr} {op cl : Nat} {to t1 t2 : Tok} {rv hev hdv pv : Array Value} {ring rr : List Pc} {hear : List Nat} {tcs : List Cell} (hp : (op, cl) ∈ PAIRS)
    (hrl : rr.length = op + cl) (h01 : ∀ x ∈ rr, x.kind = 0 ∨ x.kind = 1) (hclo : clo rr = cl) 
    (D : Lg F gg L m ([(lp, LsA pv), (lhd, PlA hdv), (lhe, PlA hev), (lr, PlA rv), (L + 1 + 1, CellA (some (.int ((op + cl : Nat) : Int) t1))), (L + 1, CellA (some (.int (cl : Nat) t2)))] ++ tcs) h) (hb : AllBare g) (hA : AOk A n) (hn : n ≤ 1)
    (TR : Tups PcG tcs rv.toList ring) (TH : Tups HdG tcs hdv.toList (heardL ring hear)) (hat : ∀ p, p < op + cl → PlAt tcs pv rr p) (mo : m (Str.ofString "opening") = some (.int (op : Nat) to)) (mr : m (Str.ofString "ring") = some (.ref lr)) (mhe : m (Str.ofString "hearing") = some (.ref lhe)) (mhd : m (Str.ofString "heard") = some (.ref lhd)) (mp : m (Str.ofString "places") = some (.ref lp)) :
    SegP (WP c A (execs (((recAt 21).body.drop 16).take 2) env) (fun f h' g' => f = .next ∧ Rz7 F gg L lr lhe lhd op cl to t1 t2 rv hev hdv ring rr hear h' g') F0 h g) := by
  refine ⟨?_⟩
  refine @WP.abs _ _ _ _ _ _ _ _ fun Q0 hQ0 => ?_
  have S := X.S
  have hps := pairs_small _ hp
  dsimp only at hps
  refine x_assign ?_
  refine e_list ?_
  refine a_end ?_
  refine ⟨Nat.zero_le _, ?_⟩
  have D1 := D.newList #[]
  generalize h.objs.size = lt at D1 ⊢
  generalize h.push _ = h1 at D1 ⊢
  refine sl hE D1.ns fun h2 j1 j2 => ?_
  replace D1 := D1.store j1 j2
  refine x_for ?_
  refine e_call ?_
  refine nb hE S D1.st boot_range ?_
  refine c_type ?_
  refine a_e ?_
  refine nce hE cell_count (D1.get M5) ?_
  refine a_end ?_
  refine range1 fun u0 u1 => ?_
  have D2 := D1.push { cls := .type "range", data := .fields #[.int 0 u0, .int ((op + cl : Nat) : Int) t1, .int 1 u1] }
  generalize h2.objs.size = lra at D2 ⊢
  generalize h2.push _ = h3 at D2 ⊢
  refine i_range (D2.getE M0) (rsmall 0 _ (by omega) (by omega) (by omega) (by omega)) ?_
  have D3 := (D2.dropN 1).push { cls := .type "range_iterator", data := .fields #[rawInt 0, rawInt (Builtin.Range.rangeSize 0 ((op + cl : Nat) : Int) 1), rawInt 1] } rfl (RgA.tame (x := 0) (left := Builtin.Range.rangeSize 0 ((op + cl : Nat) : Int) 1) (step := 1) rfl)
  rw [rsize 0 _ (by omega)] at D3 ⊢
  generalize h3.objs.size = it at D3 ⊢
  generalize h3.push _ = h4 at D3 ⊢
  refine fl_abs (N := op + cl) (J7 F gg L it lt lp lr lhe lhd op cl to t1 t2 rv hev hdv pv ring rr hear) ?_ ?_ ?_
  · exact ⟨_, #[], tcs, D3, hb, TR, TH, Tups.nil, hat, mo, mr, mhe, mhd, mp, rfl⟩
  · rintro i h5 g5 hi Q1 hQ1 _ ⟨m, tv, tcs, D, hb, TR, TH, TT, hat, mo, mr, mhe, mhd, mp, mt⟩
    obtain ⟨cs, hcs⟩ : ∃ cs : List Cell, cs = [(lp, LsA pv), (lhd, PlA hdv), (lhe, PlA hev), (lr, PlA rv), (L + 1 + 1, CellA (some (.int ((op + cl : Nat) : Int) t1))), (L + 1, CellA (some (.int (cl : Nat) t2)))] ++ tcs := ⟨_, rfl⟩
    have c0 : (lp, LsA pv) ∈ cs := by rw [hcs]; exact M0
    have c4 : (L + 1 + 1, CellA (some (.int ((op + cl : Nat) : Int) t1))) ∈ cs := by rw [hcs]; exact M4
    have c5 : (L + 1, CellA (some (.int (cl : Nat) t2))) ∈ cs := by rw [hcs]; exact M5
    have ct : ∀ p ∈ tcs, p ∈ cs := fun p hp => by rw [hcs]; exact List.mem_append_right _ hp
    replace D : Lg F gg L m ((it, RgA (i : Nat) (((op + cl : Nat) : Int) - (i : Nat)) 1) :: (lt, PlA tv) :: cs) h5 := by rw [hcs]; exact D
    refine next_range (D.getE M0) (by omega) fun u2 h6 i1 i2 => ⟨_, rfl, lot_name (as_name ?_)⟩
    have e1 : ((i : Nat) : Int) + 1 = ((i + 1 : Nat) : Int) := by omega
    have e2 : ((op + cl : Nat) : Int) - (i : Nat) - 1 = ((op + cl : Nat) : Int) - ((i + 1 : Nat) : Int) := by omega
    rw [e1, e2] at i1
    replace D := D.upd (P' := RgA ((i + 1 : Nat) : Int) (((op + cl : Nat) : Int) - ((i + 1 : Nat) : Int)) 1) U0 i2 ⟨_, i1, rfl⟩ (fun _ p => RgA.tame p)
    refine sl hE D.ns fun h7 j1 j2 => ?_
    replace D := D.store j1 j2
    have tg : ∀ {h' : Heap} {m' : Str → Option Value} {x y : Cell}, Lg F gg L m' (x :: y :: cs) h' → ∀ a items, (a, TupA items) ∈ tcs → h'.get? a = some { cls := .type "tuple", data := .seq items } := fun D a items hm => D.getE (mt2 (ct _ hm))
    obtain ⟨a, items, x, p1, p2, p3, th, tk, tp, p4⟩ := hat i hi
    subst p4
    have hx01 := h01 x (List.mem_of_getElem? p1)
    -- behind
    refine x_assign ?_
    refine WP.monoQ (Q := fun v h' g' => h' = h7 ∧ g' = g5 ∧ ∃ t, v = .int (clo (rr.take (i + 1)) : Nat) t) ?_ (fun v h' g' ⟨d1, d2, tb, d3⟩ => ?_)
    · refine e_ifexp ?_
      refine t_cmp ?_
      refine e_bin ?_
      refine nl hE j1 rfl ?_
      refine e_int fun u3 => ?_
      refine o_add' (r := ((i + 1 : Nat) : Int)) (by omega) fun u4 => ?_
      refine nce hE cell_count (D.get (mt2 c4)) ?_
      refine o_lt ?_
      refine t_bool ?_
      by_cases hc : i + 1 < op + cl
      · rw [if_pos (by simp; omega)]
        obtain ⟨a', items', x', q1, q2, q3, th', tk', tp', q4⟩ := hat (i + 1) hc
        subst q4
        refine e_sub ?_
        refine e_sub ?_
        refine nl hE j1 mp ?_
        refine e_bin ?_
        refine nl hE j1 rfl ?_
        refine e_int fun u5 => ?_
        refine o_add' (r := ((i + 1 : Nat) : Int)) (by omega) fun u6 => ?_
        refine sb_list (D.get (mt2 c0)) (Int.natCast_nonneg _) (by omega) q2 ?_
        refine e_int fun u7 => ?_
        refine sb_tuple (items := #[.str (T x'.host) th', .int (clo (rr.take (i + 1)) : Nat) tk', .int x'.port tp']) ⟨_, tg D _ _ q3, rfl, _, rfl⟩ (by decide) (by decide) rfl ?_
        exact ⟨rfl, rfl, tk', rfl⟩
      · rw [if_neg (by simp; omega)]
        refine nce hE cell_closing (D.get (mt2 c5)) ?_
        exact ⟨rfl, rfl, t2, by rw [List.take_of_length_le (by omega), hclo]⟩
    subst d1 d2 d3
    refine sl hE j1 fun h8 j1 j2 => ?_
    replace D := D.store j1 j2
    -- told.append
    obtain ⟨nt, et⟩ := D.isL M1
    refine xe hE ?_
    refine e_append ?_
    refine nl hE j1 mt ?_
    refine ⟨_, _, _, rfl, et, ?_⟩
    refine e_tuple ?_
    refine a_e ?_
    refine e_sub ?_
    refine e_sub ?_
    refine nl hE j1 mp ?_
    refine nl hE j1 (v := .int (i : Nat) u2) rfl ?_
    refine sb_list (D.get (mt2 c0)) (Int.natCast_nonneg _) (by omega) p2 ?_
    refine e_int fun u8 => ?_
    refine sb_tuple (x := .str (T x.host) th) (items := #[.str (T x.host) th, .int (clo (rr.take i) : Nat) tk, .int x.port tp]) ⟨_, tg D _ _ p3, rfl, _, rfl⟩ (by decide) (by decide) rfl ?_
    refine a_e ?_
    refine e_bin ?_
    refine nl hE j1 rfl ?_
    refine e_sub ?_
    refine e_sub ?_
    refine nl hE j1 mp ?_
    refine nl hE j1 (v := .int (i : Nat) u2) rfl ?_
    refine sb_list (D.get (mt2 c0)) (Int.natCast_nonneg _) (by omega) p2 ?_
    refine e_int fun u9 => ?_
    refine sb_tuple (x := .int (clo (rr.take i) : Nat) tk) (items := #[.str (T x.host) th, .int (clo (rr.take i) : Nat) tk, .int x.port tp]) ⟨_, tg D _ _ p3, rfl, _, rfl⟩ (by decide) (by decide) rfl ?_
    refine o_sub' (r := (x.kind : Int)) (by have := clo_succ p1 hx01; omega) fun u10 => ?_
    refine a_e ?_
    refine e_sub ?_
    refine e_sub ?_
    refine nl hE j1 mp ?_
    refine nl hE j1 (v := .int (i : Nat) u2) rfl ?_
    refine sb_list (D.get (mt2 c0)) (Int.natCast_nonneg _) (by omega) p2 ?_
    refine e_int fun u11 => ?_
    refine sb_tuple (x := .int x.port tp) (items := #[.str (T x.host) th, .int (clo (rr.take i) : Nat) tk, .int x.port tp]) ⟨_, tg D _ _ p3, rfl, _, rfl⟩ (by decide) (by decide) rfl ?_
    refine a_end ⟨(show 3 ≤ sizeLine by decide), ?_⟩
    subst hcs
    replace D := Lg.behind (a := [(it, RgA ((i + 1 : Nat) : Int) (((op + cl : Nat) : Int) - ((i + 1 : Nat) : Int)) 1), (lt, PlA tv), (lp, LsA pv), (lhd, PlA hdv), (lhe, PlA hev), (lr, PlA rv), (L + 1 + 1, CellA (some (.int ((op + cl : Nat) : Int) t1))), (L + 1, CellA (some (.int (cl : Nat) t2)))]) (b := tcs) (D.newTup #[.str (T x.host) th, .int x.kind u10, .int x.port tp])
    generalize h8.objs.size = ta at D ⊢
    generalize h8.push _ = h9 at D ⊢
    obtain ⟨nt2, et2⟩ := D.isL M1
    have htl := TT.len
    refine ⟨_, _, by simp at htl; rw [sizeLine_eq]; omega, et2, (fun _ q => by cases q), ?_⟩
    replace D := D.updSeq (fun xs => xs.push (.ref ta)) U1
    refine x_nil (hQ1 _ _ ?_)
    refine ⟨_, _, _, D, hb, TR.mono fun p hp => .tail _ hp, TH.mono fun p hp => .tail _ hp, ?_, fun p hp => (hat p hp).mono fun q hq => .tail _ hq, mo, mr, mhe, mhd, mp, mt⟩
    rw [Array.toList_push, List.take_add_one, p1]
    exact (TT.mono fun p hp => .tail _ hp).push (.head _) ⟨th, u10, tp, rfl⟩
  · rintro h5 g5 ⟨m, tv, tcs, D, hb, TR, TH, TT, hat, mo, mr, mhe, mhd, mp, mt⟩
    refine end_range hA (D.getE M0) (by omega) fun h6 i1 => ⟨rfl, ?_⟩
    replace D := D.lose R0 i1
    rw [List.take_of_length_le (by omega)] at TT
    exact x_nil <| hQ0 _ _ _ ⟨rfl, m, lt, tv, tcs, D.keepOf (.cons_cons _ (.cons _ (.refl _))), hb, TR, TH, TT, mo, mr, mhe, mhd, mt⟩
end
end Mine
end

noncomputable section
open PySem PySem.Builtin PySem.Builtin.Str PySem.W PySem.Calls PyProof.Rows PySem.Spec PySem.NumText
set_option Elab.async false
set_option maxRecDepth 100000
set_option linter.unusedVariables false
set_option maxHeartbeats 2000000
set_option pp.deepTerms false
set_option pp.deepTerms.threshold 6
set_option pp.maxSteps 2000
namespace Mine
section
variable {c : Cx} {F : Fix} {K : Frag} {A : Around} {n : Nat} {E : PostV Value} {h : Heap} {g : Gens} {L : Addr} {gg : Heap} {m : Str → Option Value} {cs cs' : List Cell} {env : Env}
/-- two fresh things are taken in -/
theorem Lg.adopt2 {h' : Heap} (D : Lg F gg L m cs h) (D' : Lg F gg L m cs h') {a b : Addr} {P Q : Obj → Prop} (ha : h.get? a = none) (hb : h.get? b = none) (hab : a ≠ b) (oa : ∃ o, h'.get? a = some o ∧ P o) (ob : ∃ o, h'.get? b = some o ∧ Q o) (ta : ∀ o, P o → Tame o) (tb : ∀ o, Q o → Tame o) :
    Lg F gg L m ((a, P) :: (b, Q) :: cs) h' := by
  obtain ⟨f1, f2, f3⟩ := D.fresh_off ha
  obtain ⟨g1, g2, g3⟩ := D.fresh_off hb
  refine ⟨D'.base, D'.keep, D'.tabs, D'.ns, D'.off, fun p hp => ?_, ?_⟩
  · rcases List.mem_cons.mp hp with rfl | hp
    · exact ⟨oa, f1, f2, ta⟩
    · rcases List.mem_cons.mp hp with rfl | hp
      · exact ⟨ob, g1, g2, tb⟩
      · exact D'.own p hp
  · rw [List.map_cons, List.map_cons, List.nodup_cons, List.nodup_cons]
    exact ⟨fun q => by
      rcases List.mem_cons.mp q with q | q
      · exact hab q
      · exact f3 q, g3, D.nd⟩
theorem Tups.size {β : Type} {G : β → Array Value → Prop} {tcs : List Cell} {vs : Array Value} {xs : List β} (x : Tups G tcs vs.toList xs) : vs.size = xs.length := by have := x.len; simpa using this
theorem seg8 (hE : env = LE L) (X : Tz F K) {lr lhe lhd lt : Addr} {op cl s0 : Nat} {to t1 t2 : Tok} {rv hev hdv tv : Array Value} {ring : List Pc} {hear : List Nat} {tcs : List Cell} (hop : op + cl ≤ 8)
    (hrl : ring.length = op + cl) (hho : ∀ x ∈ ring, x.host ∈ hostsL) (hs0 : hear[0]? = some s0) (hs0l : s0 < op + cl) (NH : NatsAre hev hear)
    (D : Lg F gg L m ([(lt, PlA tv), (lhd, PlA hdv), (lhe, PlA hev), (lr, PlA rv), (L + 1 + 1, CellA (some (.int ((op + cl : Nat) : Int) t1))), (L + 1, CellA (some (.int (cl : Nat) t2)))] ++ tcs) h) (hA : AOk A n) (hn : n ≤ 1)
    (TR : Tups PcG tcs rv.toList ring) (TT : Tups PcG tcs tv.toList (rot ring s0)) (mr : m (Str.ofString "ring") = some (.ref lr)) (mhe : m (Str.ofString "hearing") = some (.ref lhe)) (mt : m (Str.ofString "told") = some (.ref lt)) :
    SegP (WP c A (execs (((recAt 21).body.drop 18).take 1) env) (fun f h' g' => f = .next ∧ g' = g ∧
      Lg F gg L m ([(lt, PlA tv), (lhd, PlA hdv), (lhe, PlA hev), (lr, PlA rv), (L + 1 + 1, CellA (some (.int ((op + cl : Nat) : Int) t1))), (L + 1, CellA (some (.int (cl : Nat) t2)))] ++ tcs) h') F0 h g) := by
  refine ⟨?_⟩
  refine @WP.abs _ _ _ _ _ _ _ _ fun Q0 hQ0 => ?_
  have S := X.S
  have hrs := TR.size
  obtain ⟨ts, hts⟩ := NH.2 _ _ hs0
  refine x_if ?_
  refine t_cmp ?_
  refine nl hE D.ns mt ?_
  refine e_bin ?_
  refine e_sub ?_
  refine nl hE D.ns mr ?_
  refine e_slice ?_
  refine p_some ?_
  refine e_sub ?_
  refine nl hE D.ns mhe ?_
  refine e_int fun u0 => ?_
  refine sb_list (x := .int (s0 : Nat) ts) (D.isList M2) (by decide) (by decide) hts ?_
  refine p_none ?_
  have D1 := D.anyPush { cls := .type "slice", data := .fields #[.int (s0 : Nat) ts, .none, .none] }
  refine sb_lslice (D1.isList M3) (.int _ _) .none (Heap.IsSliceOf.new ..) (by rw [sizeLine_eq]; omega) ?_
  generalize h.push _ = h1 at D1 ⊢
  rw [slicePick_from']
  have D2 := D1.newList (rv.toList.drop s0).toArray
  generalize h1.objs.size = la at D2 ⊢
  generalize h1.push _ = h2 at D2 ⊢
  refine e_sub ?_
  refine nl hE D2.ns mr ?_
  refine e_slice ?_
  refine p_none ?_
  refine p_some ?_
  refine e_sub ?_
  refine nl hE D2.ns mhe ?_
  refine e_int fun u1 => ?_
  refine sb_list (x := .int (s0 : Nat) ts) (D2.isList M3) (by decide) (by decide) hts ?_
  have D3 := D2.anyPush { cls := .type "slice", data := .fields #[.none, .int (s0 : Nat) ts, .none] }
  refine sb_lslice (D3.isList M4) .none (.int _ _) (Heap.IsSliceOf.new ..) (by rw [sizeLine_eq]; omega) ?_
  generalize h2.push _ = h3 at D3 ⊢
  rw [slicePick_upto']
  have D4 := D3.newList (rv.toList.take s0).toArray
  generalize h3.objs.size = lb at D4 ⊢
  generalize h3.push _ = h4 at D4 ⊢
  obtain ⟨n1, e1⟩ := D4.isL M1
  obtain ⟨n2, e2⟩ := D4.isL M0
  refine l_add e1 e2 (by rw [sizeLine_eq]; simp; omega) ?_
  have D5 := D4.newList ((rv.toList.drop s0).toArray ++ (rv.toList.take s0).toArray)
  generalize h4.objs.size = lc at D5 ⊢
  generalize h4.push _ = h5 at D5 ⊢
  have hu64 : A.units + 64 < cLine := by have := hA.u; show _ < 9900; omega
  have tg : ∀ a items, (a, TupA items) ∈ tcs → h5.get? a = some { cls := .type "tuple", data := .seq items } := fun a items hm => D5.getE (List.mem_append_right [_, _, _, _, _, _, _, _, _] hm)
  have hho' : ∀ x ∈ rot ring s0, PyData.strOk (T x.host) = true := fun x hx => hosts_ok _ (hho x (by
    rcases List.mem_append.mp hx with q | q
    · exact List.mem_of_mem_drop q
    · exact List.mem_of_mem_take q))
  obtain ⟨n3, e3⟩ := D5.isL M3
  obtain ⟨n4, e4⟩ := D5.isL M0
  have r1 : Reads h5 (.ref lt) (.list ((rot ring s0).map pcD)) (lt :: []) := .list e3 rfl rfl (TT.reads tg)
  have r2 : Reads h5 (.ref lc) (.list ((rot ring s0).map pcD)) (lc :: []) := .list e4 rfl rfl (by
    rw [Array.toList_append]
    exact (TR.rot s0).reads tg)
  refine o_neD r1 r2 (shaped_pc _ hho') (shaped_pc _ hho') hu64 ?_
  refine t_bool ?_
  rw [show PyData.eqv (.list ((rot ring s0).map pcD)) (.list ((rot ring s0).map pcD)) = true from by simp [PyData.eqv, eqvAll_pc]]
  rw [if_neg (by simp)]
  refine x_nil (x_nil <| hQ0 _ _ _ ⟨rfl, rfl, D5.dropN 3⟩)
theorem seg9 (hE : env = LE L) (X : Tz F K) {lr lhe lhd lt : Addr} {op cl : Nat} {to t1 t2 : Tok} {rv hev hdv tv : Array Value} {hd : List (List Nat × Int)} {tcs : List Cell} (hop : op + cl ≤ 8)
    (hdl : hd.length = op + cl) (h0 : 0 < op + cl)
    (D : Lg F gg L m ([(lt, PlA tv), (lhd, PlA hdv), (lhe, PlA hev), (lr, PlA rv), (L + 1 + 1, CellA (some (.int ((op + cl : Nat) : Int) t1))), (L + 1, CellA (some (.int (cl : Nat) t2)))] ++ tcs) h) (hb : AllBare g) (hA : AOk A n) (hn : n ≤ 1)
    (TH : Tups HdG tcs hdv.toList hd) (mhd : m (Str.ofString "heard") = some (.ref lhd)) :
    SegP (WP c A (execs (((recAt 21).body.drop 19).take 1) env) (fun f h' g' => f = .next ∧ AllBare g' ∧ ∃ M tm, M ∈ hd.map (·.2) ∧ (∀ x ∈ hd.map (·.2), M ≤ x) ∧
      Lg F gg L (fun y => if y = Str.ofString "least" then some (.int M tm) else m y) ([(lt, PlA tv), (lhd, PlA hdv), (lhe, PlA hev), (lr, PlA rv), (L + 1 + 1, CellA (some (.int ((op + cl : Nat) : Int) t1))), (L + 1, CellA (some (.int (cl : Nat) t2)))] ++ tcs) h') F0 h g) := by
  refine ⟨?_⟩
  refine @WP.abs _ _ _ _ _ _ _ _ fun Q0 hQ0 => ?_
  have S := X.S
  have hsz := TH.size
  subst hE
  refine x_assign ?_
  refine e_call ?_
  refine nb rfl S D.st boot_min ?_
  refine c_blt ?_
  refine a_e ?_
  refine e_compair (cl := []) (by kernel_rfl) (by kernel_rfl) (by kernel_rfl) (by kernel_rfl) ?_
  refine nl rfl D.ns mhd ?_
  refine i_list (D.isList M1) ?_
  have D1 := D.add (P := LitA lhd 0) (h' := h.push { cls := .type "list_iterator", data := .fields #[.ref lhd, .int 0 0] }) (fun _ _ e => Heap.get?_push_of_some _ e) Lg.get_size ⟨_, Heap.get?_push_size _ rfl, rfl, rfl⟩ fun _ p => p.tame
  generalize h.objs.size = it at D1 ⊢
  generalize h.push _ = h1 at D1 ⊢
  intro T0 C h2 hT hC hTC k hacc hns
  have D2 := D1.adopt2 (D1.more k) hT hC hTC hacc (of_ns hns) (fun _ p => PlA.tame p) (fun _ p => DictA.tame p)
  have D2 := D2.weak (P' := LsA #[]) U0 (fun _ p => PlA.ls p) (fun _ p => p.tame)
  refine ⟨i_listiter (D2.get M2) ⟨rfl, rfl, rfl⟩, ?_⟩
  refine cl_ind (N := op + cl) (fun i h' g' => AllBare g' ∧ ∃ mC items, Lg F gg L m ([(T0, LsA items), (C, DictA mC), (it, LitA lhd i), (lt, PlA tv), (lhd, PlA hdv), (lhe, PlA hev), (lr, PlA rv), (L + 1 + 1, CellA (some (.int ((op + cl : Nat) : Int) t1))), (L + 1, CellA (some (.int (cl : Nat) t2)))] ++ tcs) h' ∧ IntsAre items.toList ((hd.map (·.2)).take i)) ?_ ?_ ?_
  · exact ⟨hb, _, _, D2, .nil⟩
  · rintro i h3 g3 hi ⟨hb, mC, items, D, hI⟩
    obtain ⟨y, hy⟩ : ∃ y, hd[i]? = some y := ⟨_, List.getElem?_eq_getElem (by omega)⟩
    obtain ⟨a, its, p1, p2, th, tp, p3⟩ := TH.get D (fun p hp => List.mem_append_right [_, _, _, _, _, _, _, _, _] hp) hy
    subst p3
    rw [Array.getElem?_toList] at p1
    refine next_list (D.get M2) (D.isList M4) p1 fun h4 i1 i2 => ⟨_, rfl, ?_⟩
    have hne : a ≠ it := fun q => by
      obtain ⟨o, z1, z2⟩ := D.get M2
      rw [q, z1] at p2; cases p2; cases z2.2
    have p2 := (i2.2 _ hne).trans p2
    replace D := D.upd U2 i2 i1 (fun _ p => LitA.tame p)
    refine lot_list (D.get M2) (as_pair hA ⟨_, p2, rfl, _, rfl⟩ fun h5 kk => ?_)
    replace D := D.more kk
    refine s_local (ns_of (D.get M1)) (fun h6 j1 j2 => ?_) (by kernel_rfl) (by kernel_rfl)
    replace D := D.upd U1 j2 (of_ns j1) (fun _ p => DictA.tame p)
    refine s_local (ns_of (D.get M1)) (fun h7 j1 j2 => ?_) (by kernel_rfl) (by kernel_rfl)
    replace D := D.upd U1 j2 (of_ns j1) (fun _ p => DictA.tame p)
    refine n_local (v := .int y.2 tp) (ns_of (D.get M1)) rfl ?_ (by kernel_rfl) (by kernel_rfl) (by kernel_rfl)
    have hil : items.size = i := by
      have := hI.length
      simp at this
      omega
    refine o_append (D.get M0) (by omega) fun h8 j1 j2 => ?_
    replace D := D.upd (P' := LsA (items.push (.int y.2 tp))) U0 j2 j1 (fun _ p => LsA.tame p)
    refine ⟨hb, _, _, D, ?_⟩
    rw [Array.toList_push, List.take_add_one, List.getElem?_map, hy]
    exact intsAre_app hI (.cons _ _ .nil)
  · rintro h3 g3 ⟨hb, mC, items, D, hI⟩
    refine end_list hA (D.get M2) (D.isList M4) ?_ fun h4 i1 => ⟨rfl, rfl, ?_⟩
    · rw [Array.getElem?_eq_none (by omega)]
    replace D := D.lose R2 i1
    rw [List.take_of_length_le (by simp; omega)] at hI
    refine ⟨mC, ns_of (D.get M1), fun h5 hs => ?_⟩
    replace D := D.lose R1 hs.extBut
    refine a_end ?_
    refine o_min (vs := items.toList) hA.h (D.get M0) hI (by simp; omega) fun h6 M tm k hM1 hM2 => ?_
    replace D := (D.more k).dropN 1
    refine sl rfl D.ns fun h7 j1 j2 => ?_
    exact x_nil <| hQ0 _ _ _ ⟨rfl, hb, M, tm, hM1, hM2, D.store j1 j2⟩
end
end Mine
end

noncomputable section
open PySem PySem.Builtin PySem.Builtin.Str PySem.W PySem.Calls PyProof.Rows PySem.Spec PySem.NumText
set_option Elab.async false
set_option maxRecDepth 100000
set_option linter.unusedVariables false
set_option maxHeartbeats 2000000
set_option pp.deepTerms false
set_option pp.deepTerms.threshold 6
set_option pp.maxSteps 2000
namespace Mine
/-- brackets by kinds -/
def balK (op cl : Nat) : List Nat → Int → Bool
  | [], a => a == 0
  | k :: r, a => if a + stepH op cl k < 0 then false else balK op cl r (a + stepH op cl k)
def PcOk (x : Pc) : Prop := x.host ∈ hostsL ∧ (x.kind = 0 ∨ x.kind = 1)
/-- what is to be shown of the texts -/
def TxtOk (op cl : Nat) : Prop := ∀ ps : List Pc, (∀ x ∈ ps, PcOk x) → ps.length ≤ 8 → chkS (T (ltext op cl ps)) = balK op cl (ps.map (·.kind)) 0 ∧ (stripS (T (ltext op cl ps))).length ≤ 1000
theorem host_len : ∀ x ∈ hostsL, x.length ≤ 8 := by decide
theorem perm_lift {α β : Type} {f : α → β} {ps qs : List β} (h : ps.Perm qs) : ∀ {l : List α}, qs = l.map f → ∃ l' : List α, l'.Perm l ∧ l'.map f = ps := by
  induction h with
  | nil => intro l e; cases l with
    | nil => exact ⟨[], .nil, rfl⟩
    | cons => cases e
  | cons x _ ih =>
    intro l e
    cases l with
    | nil => cases e
    | cons a l =>
      simp only [List.map_cons, List.cons.injEq] at e
      obtain ⟨l', h1, h2⟩ := ih e.2
      exact ⟨a :: l', .cons a h1, by rw [List.map_cons, h2, e.1]⟩
  | swap x y r =>
    intro l e
    match l, e with
    | [], e => cases e
    | [_], e => simp at e
    | a :: b :: l, e =>
      simp only [List.map_cons, List.cons.injEq] at e
      exact ⟨b :: a :: l, .swap a b l, by rw [List.map_cons, List.map_cons, e.1, e.2.1, e.2.2]⟩
  | trans _ _ ih1 ih2 =>
    intro l e
    obtain ⟨l2, h1, h2⟩ := ih2 e
    obtain ⟨l1, h3, h4⟩ := ih1 h2.symm
    exact ⟨l1, h3.trans h1, h4⟩
/-- what sorting gives -/
theorem sorted_tups {tcs : List Cell} {vs out : List Value} {rr : List Pc} (T : Tups PcG tcs vs rr) (k : KskOut false (rr.map (·.port)) vs out) :
    ∃ sw : List Pc, sw.Perm rr ∧ sw.Pairwise (fun x y => x.port ≤ y.port) ∧ Tups PcG tcs out sw := by
  obtain ⟨ps, h1, h2, h3⟩ := k
  have hlen := T.len
  have hz : (rr.map (·.port)).zip vs = (rr.zip vs).map fun p => (p.1.port, p.2) := by
    rw [List.zip_map_left]; rfl
  obtain ⟨l', h4, h5⟩ := perm_lift h1 hz
  subst h5
  refine ⟨l'.map (·.1), ?_, ?_, ?_⟩
  · have := h4.map (·.1)
    rwa [List.map_fst_zip (by omega)] at this
  · rw [List.pairwise_map] at h3
    rw [List.pairwise_map]
    exact h3.imp fun {a b} q => by simpa using q
  · rw [h2]
    refine ⟨by simp, fun j x hx => ?_⟩
    rw [List.getElem?_map] at hx
    cases hq : l'[j]? with
    | none => rw [hq] at hx; cases hx
    | some p =>
      rw [hq] at hx
      cases hx
      have hm : p ∈ rr.zip vs := h4.mem_iff.mp (List.mem_of_getElem? hq)
      obtain ⟨i, hi⟩ := List.getElem?_of_mem hm
      obtain ⟨a1, a2⟩ := List.getElem?_zip_eq_some.mp hi
      obtain ⟨a, items, e1, e2, e3⟩ := T.at_ i p.1 a1
      rw [a2] at e1
      refine ⟨a, items, ?_, e2, e3⟩
      rw [List.map_map, List.getElem?_map, hq]
      simpa using e1
theorem Tups.take {β : Type} {G : β → Array Value → Prop} {tcs : List Cell} {vs : List Value} {xs : List β} (x : Tups G tcs vs xs) (k : Nat) : Tups G tcs (vs.take k) (xs.take k) := by
  refine ⟨by simp [x.len], fun j y hy => ?_⟩
  rw [List.getElem?_take] at hy ⊢
  split at hy
  · rename_i hc
    rw [if_pos hc]
    exact x.at_ _ y hy
  · cases hy
section
variable {c : Cx} {F : Fix} {K : Frag} {A : Around} {n : Nat} {E : PostV Value} {h : Heap} {g : Gens} {L : Addr} {gg : Heap} {m : Str → Option Value} {cs cs' : List Cell} {env : Env}
theorem Tups.pcs {tcs : List Cell} {vs : List Value} {ps : List Pc} (x : Tups PcG tcs vs ps) (hg : ∀ a items, (a, TupA items) ∈ tcs → h.get? a = some { cls := .type "tuple", data := .seq items }) : PcsAt h vs ps := by
  refine ⟨x.len, fun i y hy => ?_⟩
  obtain ⟨a, items, e1, e2, t, u, w, rfl⟩ := x.at_ i y hy
  exact ⟨_, e1, a, t, u, w, rfl, _, hg _ _ e2, rfl, _, rfl⟩
/-- a row's text is checked -/
theorem e_row (hE : env = LE L) (X : Tz F K) {op cl : Nat} {to t2 : Tok} {l : Addr} {np1 np2 np3 np4 np5 p1 p2 : Pos} {nm : Str} {ps : List Pc} {vs : Array Value} {Q : PostV Value} (hop : op ≤ 8) (hcl : cl ≤ 8) (hx : TxtOk op cl) (hps : ∀ x ∈ ps, PcOk x) (hpl : ps.length ≤ 8)
    (D : Lg F gg L m cs h) (hb : AllBare g) (hA : AOk A n) (hn : n ≤ 1) (htab : ∀ b ∈ F.ns.map (·.P), gg.get? b = none) (hv : h.IsList l vs) (hp : PcsAt h vs.toList ps) (hc2 : (L + 1, CellA (some (.int (cl : Nat) t2))) ∈ cs)
    (hm : m nm = some (.ref l)) (mo : m (Str.ofString "opening") = some (.int (op : Nat) to)) (hl : (LE 0).kindOf nm = some .local) (hd : (nm == ("__debug__" : Str)) = false)
    (q : ∀ h' g', Lg F gg L m cs h' → AllBare g' → Grow F h h' → Q (.bool (balK op cl (ps.map (·.kind)) 0)) h' g') :
    WP c A (eval (.Call (.Name (Str.ofString "_check_parenthesis") np1) [.Call (.Name (Str.ofString "_law_text") np2) [.Name nm np3, .Name (Str.ofString "opening") np4, .Name (Str.ofString "closing") np5] [] p1] [] p2) env) Q E h g := by
  have S := X.S
  refine e_call ?_
  refine ng hE S D.st X.f3.nm ?_
  refine c_fn X.f3 ?_
  refine a_e ?_
  refine e_call ?_
  refine ng hE S D.st X.f20.nm ?_
  refine c_fn X.f20 ?_
  refine a_e ?_
  refine nl hE D.ns hm ?_ hl hd
  refine a_e ?_
  refine nl hE D.ns mo ?_
  refine a_e ?_
  refine nce hE cell_closing (D.get hc2) ?_
  refine a_end ⟨D.st, ?_⟩
  obtain ⟨x1, x2⟩ := hx ps hps hpl
  refine (law_text_q X.toTx X.f20 (D.ok hb) hA (le0 hn) ps op cl _ _ hv hp hop hcl hpl fun x hx => host_len _ (hps x hx).1).monoQ fun v h1 g1 qq => ?_
  obtain ⟨G1, O1, t, e1⟩ := qq
  subst e1
  have D1 := D.after G1 O1.tabs (D.tabs_off htab)
  refine a_end ⟨D1.st, ?_⟩
  have hll := ltext_len (op := op) (cl := cl) hop hcl ps fun x hx => host_len _ (hps x hx).1
  refine (check_q X.toTx (D1.ok O1.bare) hA (le0 hn) (ltext op cl ps) t (by omega) x2).monoQ fun v h2 g2 qq => ?_
  obtain ⟨G2, O2, e2⟩ := qq
  subst e2
  rw [x1]
  exact q h2 g2 (D1.after G2 O2.tabs (D1.tabs_off htab)) O2.bare (G1.trans G2)
inductive J10 (F : Fix) (gg : Heap) (L it lt : Addr) (op cl : Nat) (M : Int) (to t1 t2 tm : Tok) (tv : Array Value) (tcs : List Cell) (i : Nat) (h : Heap) (g : Gens) : Prop
  | mk (m : Str → Option Value) (D : Lg F gg L m ([(it, RgA (i : Nat) (((op + cl : Nat) : Int) - (i : Nat)) 1), (lt, PlA tv), (L + 1 + 1, CellA (some (.int ((op + cl : Nat) : Int) t1))), (L + 1, CellA (some (.int (cl : Nat) t2)))] ++ tcs) h) (hb : AllBare g)
    (mo : m (Str.ofString "opening") = some (.int (op : Nat) to)) (mt : m (Str.ofString "told") = some (.ref lt)) (ml : m (Str.ofString "least") = some (.int M tm)) : J10 F gg L it lt op cl M to t1 t2 tm tv tcs i h g
theorem rot_mem {α : Type} {l : List α} {s : Nat} {x : α} (h : x ∈ rot l s) : x ∈ l := by
  rcases List.mem_append.mp h with q | q
  · exact List.mem_of_mem_drop q
  · exact List.mem_of_mem_take q
theorem rot_len {α : Type} (l : List α) (s : Nat) : (rot l s).length = l.length := by unfold rot; simp; omega
theorem rot_zero {α : Type} {l : List α} {s : Nat} (h : s < l.length) : (rot l s)[0]? = l[s]? := by
  unfold rot
  rw [List.getElem?_append_left (by simp; omega), List.getElem?_drop, Nat.add_zero]
/-- what seg10 leaves -/
inductive Rz10 (F : Fix) (gg : Heap) (L lt : Addr) (op cl : Nat) (to t1 t2 : Tok) (tv : Array Value) (tcs : List Cell) (h' : Heap) (g' : Gens) : Prop
  | mk (m' : Str → Option Value)
    (e0 : Lg F gg L m' ([(lt, PlA tv), (L + 1 + 1, CellA (some (.int ((op + cl : Nat) : Int) t1))), (L + 1, CellA (some (.int (cl : Nat) t2)))] ++ tcs) h')
    (e1 : AllBare g')
    (e2 : m' (Str.ofString "opening") = some (.int (op : Nat) to))
    (e3 : m' (Str.ofString "told") = some (.ref lt)) : Rz10 F gg L lt op cl to t1 t2 tv tcs h' g'
theorem seg10 (hE : env = LE L) (X : Tz F K) {lt : Addr} {op cl : Nat} {M : Int} {to t1 t2 tm : Tok} {tv : Array Value} {rr : List Pc} {tcs : List Cell} (hp : (op, cl) ∈ PAIRS) (hx : TxtOk op cl)
    (hrl : rr.length = op + cl) (hpc : ∀ x ∈ rr, PcOk x) (hbal : ∀ cut, cut < op + cl → balK op cl ((rot rr cut).map (·.kind)) 0 = decide ((rr.getD cut dflt).port = M))
    (D : Lg F gg L m ([(lt, PlA tv), (L + 1 + 1, CellA (some (.int ((op + cl : Nat) : Int) t1))), (L + 1, CellA (some (.int (cl : Nat) t2)))] ++ tcs) h) (hb : AllBare g) (hA : AOk A n) (hn : n ≤ 1) (htab : ∀ b ∈ F.ns.map (·.P), gg.get? b = none)
    (TT : Tups PcG tcs tv.toList rr) (mo : m (Str.ofString "opening") = some (.int (op : Nat) to)) (mt : m (Str.ofString "told") = some (.ref lt)) (ml : m (Str.ofString "least") = some (.int M tm)) :
    SegP (WP c A (execs (((recAt 21).body.drop 20).take 1) env) (fun f h' g' => f = .next ∧ Rz10 F gg L lt op cl to t1 t2 tv tcs h' g') F0 h g) := by
  refine ⟨?_⟩
  refine @WP.abs _ _ _ _ _ _ _ _ fun Q0 hQ0 => ?_
  have S := X.S
  have hps := pairs_small _ hp
  dsimp only at hps
  have htl := TT.size
  refine x_for ?_
  refine e_call ?_
  refine nb hE S D.st boot_range ?_
  refine c_type ?_
  refine a_e ?_
  refine nce hE cell_count (D.get M1) ?_
  refine a_end ?_
  refine range1 fun u0 u1 => ?_
  have D2 := D.push { cls := .type "range", data := .fields #[.int 0 u0, .int ((op + cl : Nat) : Int) t1, .int 1 u1] }
  generalize h.objs.size = lra at D2 ⊢
  generalize h.push _ = h3 at D2 ⊢
  refine i_range (D2.getE M0) (rsmall 0 _ (by omega) (by omega) (by omega) (by omega)) ?_
  have D3 := (D2.dropN 1).push { cls := .type "range_iterator", data := .fields #[rawInt 0, rawInt (Builtin.Range.rangeSize 0 ((op + cl : Nat) : Int) 1), rawInt 1] } rfl (RgA.tame (x := 0) (left := Builtin.Range.rangeSize 0 ((op + cl : Nat) : Int) 1) (step := 1) rfl)
  rw [rsize 0 _ (by omega)] at D3 ⊢
  generalize h3.objs.size = it at D3 ⊢
  generalize h3.push _ = h4 at D3 ⊢
  refine fl_abs (N := op + cl) (J10 F gg L it lt op cl M to t1 t2 tm tv tcs) ?_ ?_ ?_
  · exact ⟨_, D3, hb, mo, mt, ml⟩
  · rintro i h5 g5 hi Q1 hQ1 _ ⟨m, D, hb, mo, mt, ml⟩
    refine next_range (D.getE M0) (by omega) fun u2 h6 i1 i2 => ⟨_, rfl, lot_name (as_name ?_)⟩
    have e1 : ((i : Nat) : Int) + 1 = ((i + 1 : Nat) : Int) := by omega
    have e2 : ((op + cl : Nat) : Int) - (i : Nat) - 1 = ((op + cl : Nat) : Int) - ((i + 1 : Nat) : Int) := by omega
    rw [e1, e2] at i1
    replace D := D.upd (P' := RgA ((i + 1 : Nat) : Int) (((op + cl : Nat) : Int) - ((i + 1 : Nat) : Int)) 1) U0 i2 ⟨_, i1, rfl⟩ (fun _ p => RgA.tame p)
    refine sl hE D.ns fun h7 j1 j2 => ?_
    replace D := D.store j1 j2
    -- row
    refine x_assign ?_
    refine e_bin ?_
    refine e_sub ?_
    refine nl hE j1 mt ?_
    refine e_slice ?_
    refine p_some ?_
    refine nl hE j1 (v := .int (i : Nat) u2) rfl ?_
    refine p_none ?_
    have D1 := D.anyPush { cls := .type "slice", data := .fields #[.int (i : Nat) u2, .none, .none] }
    refine sb_lslice (D1.isList M1) (.int _ _) .none (Heap.IsSliceOf.new ..) (by rw [sizeLine_eq]; omega) ?_
    generalize h7.push _ = h8 at D1 ⊢
    rw [slicePick_from']
    have D2 := D1.newList (tv.toList.drop i).toArray
    generalize h8.objs.size = la at D2 ⊢
    generalize h8.push _ = h9 at D2 ⊢
    refine e_sub ?_
    refine nl hE D2.ns mt ?_
    refine e_slice ?_
    refine p_none ?_
    refine p_some ?_
    refine nl hE D2.ns (v := .int (i : Nat) u2) rfl ?_
    have D3 := D2.anyPush { cls := .type "slice", data := .fields #[.none, .int (i : Nat) u2, .none] }
    refine sb_lslice (D3.isList M2) .none (.int _ _) (Heap.IsSliceOf.new ..) (by rw [sizeLine_eq]; omega) ?_
    generalize h9.push _ = h10 at D3 ⊢
    rw [slicePick_upto']
    have D4 := D3.newList (tv.toList.take i).toArray
    generalize h10.objs.size = lb at D4 ⊢
    generalize h10.push _ = h11 at D4 ⊢
    obtain ⟨n1, z1⟩ := D4.isL M1
    obtain ⟨n2, z2⟩ := D4.isL M0
    refine l_add z1 z2 (by rw [sizeLine_eq]; simp; omega) ?_
    have hrv : ((tv.toList.drop i).toArray ++ (tv.toList.take i).toArray).toList = rot tv.toList i := by rw [Array.toList_append]; rfl
    generalize (tv.toList.drop i).toArray ++ (tv.toList.take i).toArray = rv at hrv ⊢
    have D5 := (D4.dropN 2).newList rv
    generalize h11.objs.size = lw at D5 ⊢
    generalize h11.push _ = h12 at D5 ⊢
    refine sl hE D5.ns fun h13 j1 j2 => ?_
    replace D5 := D5.store j1 j2
    have TW := TT.rot i
    rw [← hrv] at TW
    have tg : ∀ {h' : Heap} {m' : Str → Option Value} {cs'' : List Cell}, Lg F gg L m' (cs'' ++ tcs) h' → ∀ a items, (a, TupA items) ∈ tcs → h'.get? a = some { cls := .type "tuple", data := .seq items } := fun D a items hm => D.getE (List.mem_append_right _ hm)
    refine x_if ?_
    refine t_cmp ?_
    refine e_row hE X (ps := rot rr i) (vs := rv) (by omega) (by omega) hx (fun x hx => hpc x (rot_mem hx)) (by rw [rot_len]; omega) D5 hb hA hn htab (D5.isList M0) (TW.pcs (tg (cs'' := [_, _, _, _, _]) D5)) M4 (l := lw) rfl mo (by kernel_rfl) (by kernel_rfl) fun h14 g14 D6 hb6 G6 => ?_
    rw [hbal i hi]
    have hxi : rr[i]? = some (rr.getD i dflt) := by rw [List.getD_eq_getElem?_getD, List.getElem?_eq_getElem (by omega)]; rfl
    obtain ⟨a, items, p1, p2, th, tk, tp, p4⟩ := TW.get D6 (fun p hp => List.mem_append_right [_, _, _, _, _] hp) (j := 0) (y := rr.getD i dflt) ((rot_zero (by omega)).trans hxi)
    subst p4
    rw [Array.getElem?_toList] at p1
    refine e_cmp ?_
    refine e_sub ?_
    refine e_sub ?_
    refine nl hE D6.ns (v := .ref lw) rfl ?_
    refine e_int fun u3 => ?_
    refine sb_list (D6.isList M0) (by decide) (by decide) p1 ?_
    refine e_int fun u4 => ?_
    refine sb_tuple (x := .int (rr.getD i dflt).port tp) (items := #[.str (T (rr.getD i dflt).host) th, .int (rr.getD i dflt).kind tk, .int (rr.getD i dflt).port tp]) ⟨_, p2, rfl, _, rfl⟩ (by decide) (by decide) rfl ?_
    refine nl hE D6.ns (v := .int M tm) ml ?_
    refine o_eq ?_
    refine o_isnotB ?_
    refine t_bool ?_
    rw [show (decide ((rr.getD i dflt).port = M) != ((rr.getD i dflt).port == M)) = false from by rw [show ((rr.getD i dflt).port == M) = decide ((rr.getD i dflt).port = M) from rfl]; simp]
    rw [if_neg (by simp)]
    exact x_nil (x_nil <| hQ1 _ _ ⟨_, D6.dropN 1, hb6, mo, mt, ml⟩)
  · rintro h5 g5 ⟨m, D, hb, mo, mt, ml⟩
    refine end_range hA (D.getE M0) (by omega) fun h6 i1 => ⟨rfl, ?_⟩
    replace D := D.lose R0 i1
    exact x_nil <| hQ0 _ _ _ ⟨rfl, m, D, hb, mo, mt⟩
end
end Mine
end

noncomputable section
open PySem PySem.Builtin PySem.Builtin.Str PySem.W PySem.Calls PyProof.Rows PySem.Spec PySem.NumText
set_option Elab.async false
set_option maxRecDepth 100000
set_option linter.unusedVariables false
set_option maxHeartbeats 2000000
set_option pp.deepTerms false
set_option pp.deepTerms.threshold 6
set_option pp.maxSteps 2000
namespace Mine
section
variable {c : Cx} {F : Fix} {K : Frag} {A : Around} {n : Nat} {E : PostV Value} {h : Heap} {g : Gens} {L : Addr} {gg : Heap} {m : Str → Option Value} {cs cs' : List Cell} {env : Env}
theorem seg11 (hE : env = LE L) (X : Tz F K) {lt : Addr} {op cl : Nat} {to t1 t2 : Tok} {tv : Array Value} {rr : List Pc} {tcs : List Cell} (hp : (op, cl) ∈ PAIRS) (hx : TxtOk op cl)
    (hrl : rr.length = op + cl) (hpc : ∀ x ∈ rr, PcOk x) (hso : ∀ sw : List Pc, sw.Perm rr → sw.Pairwise (fun x y => x.port ≤ y.port) → balK op cl (sw.map (·.kind)) 0 = true ∧ balK op cl ((sw.take (op + cl - 1)).map (·.kind)) 0 = false)
    (D : Lg F gg L m ([(lt, PlA tv), (L + 1 + 1, CellA (some (.int ((op + cl : Nat) : Int) t1))), (L + 1, CellA (some (.int (cl : Nat) t2)))] ++ tcs) h) (hb : AllBare g) (hA : AOk A n) (hn : n ≤ 1) (htab : ∀ b ∈ F.ns.map (·.P), gg.get? b = none)
    (TT : Tups PcG tcs tv.toList rr) (mo : m (Str.ofString "opening") = some (.int (op : Nat) to)) (mt : m (Str.ofString "told") = some (.ref lt)) :
    SegP (WP c A (execs ((recAt 21).body.drop 21) env) (fun f h' g' => f = .ret (.bool true) ∧ AllBare g' ∧ ∃ m' cs', Lg F gg L m' cs' h') F0 h g) := by
  refine ⟨?_⟩
  refine @WP.abs _ _ _ _ _ _ _ _ fun Q0 hQ0 => ?_
  have S := X.S
  have hps := pairs_small _ hp
  dsimp only at hps
  have htl := TT.size
  have tg : ∀ {h' : Heap} {m' : Str → Option Value} {cs'' : List Cell}, Lg F gg L m' (cs'' ++ tcs) h' → ∀ a items, (a, TupA items) ∈ tcs → h'.get? a = some { cls := .type "tuple", data := .seq items } := fun D a items hm => D.getE (List.mem_append_right _ hm)
  refine x_assign ?_
  refine e_callkw (id := "sorted") ?_
  refine nb hE S D.st boot_sorted ?_
  refine ⟨rfl, ?_⟩
  refine nl hE D.ns mt ?_
  refine e_lam S D htab X.n21 X.c21 (clos := []) (by kernel_rfl) (by subst hE; kernel_rfl) (by subst hE; kernel_rfl) (by subst hE; rfl) (by subst hE; rfl) (by kernel_rfl) fun f h1 cdv ctv pm hfn hkeep D1 hcd => ?_
  refine o_sorted S D1 (vs := tv.toList) (kz := rr.map (·.port)) (hA.room (by omega)) (D1.isList M1) (by simp [htl]) (by simp; omega) (D1.getE M0) hcd (fun a => by kernel_rfl) (by kernel_rfl) (by kernel_rfl) (by kernel_rfl) (by kernel_rfl) (by kernel_rfl) (by kernel_rfl) ?_ ?_
  · intro i v k hv hk
    rw [List.getElem?_map] at hk
    cases hq : rr[i]? with
    | none => rw [hq] at hk; cases hk
    | some x =>
      rw [hq] at hk
      cases hk
      obtain ⟨a, items, e1, e2, th, tk, tp, e3⟩ := TT.at_ i x hq
      rw [hv] at e1
      cases e1
      subst e3
      exact ⟨a, _, tp, rfl, ⟨_, tg (cs'' := [_, _, _, _]) D1 _ _ e2, rfl, _, rfl⟩, rfl⟩
  intro lw h2 out D2 hk2 hfw how ko
  obtain ⟨sw, s1, s2, TS⟩ := sorted_tups TT ko
  obtain ⟨q1, q2⟩ := hso sw s1 s2
  have hsl : sw.length = op + cl := by rw [s1.length_eq, hrl]
  have hol := TS.size
  have D3 := D1.adopt D2 hfw how (fun _ p => PlA.tame p)
  replace D3 := D3.keepOf (cs' := (lw, PlA out) :: _) (.cons_cons _ (.cons _ (.refl _)))
  refine sl hE D3.ns fun h3 j1 j2 => ?_
  replace D3 := D3.store j1 j2
  have hpc' : ∀ x ∈ sw, PcOk x := fun x hx => hpc x (s1.mem_iff.mp hx)
  -- without the last one
  refine x_if ?_
  refine t_cmp ?_
  refine e_call ?_
  refine ng hE S D3.st X.f3.nm ?_
  refine c_fn X.f3 ?_
  refine a_e ?_
  refine e_call ?_
  refine ng hE S D3.st X.f20.nm ?_
  refine c_fn X.f20 ?_
  refine a_e ?_
  refine e_sub ?_
  refine nl hE j1 (v := .ref lw) rfl ?_
  refine e_slice ?_
  refine p_none ?_
  refine p_some ?_
  refine e_un ?_
  refine e_int fun u0 => ?_
  refine o_neg fun u1 => ?_
  have D4 := D3.anyPush { cls := .type "slice", data := .fields #[.none, .int (-1) u1, .none] }
  refine sb_lslice (D4.isList M0) .none (.int _ _) (Heap.IsSliceOf.new ..) (by rw [sizeLine_eq]; omega) ?_
  generalize h3.push _ = h4 at D4 ⊢
  have hsp : slicePick out none (some (-1)) none = (out.toList.take (out.size - 1)).toArray := slicePick_butLast out 1 (Nat.le_refl _)
  rw [hsp]
  have D5 := D4.newList (out.toList.take (out.size - 1)).toArray
  generalize h4.objs.size = lb at D5 ⊢
  generalize h4.push _ = h5 at D5 ⊢
  refine a_e ?_
  refine nl hE D5.ns mo ?_
  refine a_e ?_
  refine nce hE cell_closing (D5.get M4) ?_
  refine a_end ⟨D5.st, ?_⟩
  have TB := TS.take (out.size - 1)
  have hpcb : ∀ x ∈ sw.take (out.size - 1), PcOk x := fun x hx => hpc' x (List.mem_of_mem_take hx)
  obtain ⟨x1, x2⟩ := hx (sw.take (out.size - 1)) hpcb (by simp; omega)
  refine (law_text_q X.toTx X.f20 (D5.ok hb) hA (le0 hn) (sw.take (out.size - 1)) op cl _ _ (D5.isList M0) (TB.pcs (tg (cs'' := [_, _, _, _, _]) D5)) (by omega) (by omega) (by simp; omega) fun x hx => host_len _ (hpcb x hx).1).monoQ fun v h6 g6 qq => ?_
  obtain ⟨G1, O1, t, e1⟩ := qq
  subst e1
  have D6 := D5.after G1 O1.tabs (D5.tabs_off htab)
  refine a_end ⟨D6.st, ?_⟩
  have hll := ltext_len (op := op) (cl := cl) (by omega) (by omega) (sw.take (out.size - 1)) fun x hx => host_len _ (hpcb x hx).1
  rw [List.length_take] at hll
  refine (check_q X.toTx (D6.ok O1.bare) hA (le0 hn) (ltext op cl (sw.take (out.size - 1))) t (by omega) x2).monoQ fun v h7 g7 qq => ?_
  obtain ⟨G2, O2, e2⟩ := qq
  subst e2
  have D7 := (D6.after G2 O2.tabs (D6.tabs_off htab)).dropN 1
  rw [x1, show out.size - 1 = op + cl - 1 by rw [hol, hsl], q2]
  refine e_bool ?_
  refine o_isnotB ?_
  refine t_bool ?_
  rw [if_neg (by decide)]
  refine x_nil ?_
  -- all of them
  refine x_ret ?_
  refine e_cmp ?_
  refine e_row hE X (ps := sw) (vs := out) (by omega) (by omega) hx hpc' (by omega) D7 O2.bare hA hn htab (D7.isList M0) (TS.pcs (tg (cs'' := [_, _, _, _]) D7)) M3 (l := lw) rfl mo (by kernel_rfl) (by kernel_rfl) fun h8 g8 D8 hb8 G8 => ?_
  rw [q1]
  refine e_bool ?_
  refine o_isB ?_
  exact hQ0 _ _ _ ⟨rfl, hb8, _, _, D8⟩
end
end Mine
end

noncomputable section
open PySem PySem.Builtin PySem.Builtin.Str PySem.W PySem.Calls PyProof.Rows PySem.Spec PySem.NumText
set_option Elab.async false
set_option maxRecDepth 100000
set_option linter.unusedVariables false
set_option maxHeartbeats 600000
set_option pp.deepTerms false
set_option pp.deepTerms.threshold 6
set_option pp.maxSteps 2000
namespace Mine
/-- what is to be shown of the ring -/
structure RingOk (op cl : Nat) (ring : List Pc) : Prop where
  len : ring.length = op + cl
  pcs : ∀ x ∈ ring, PcOk x
  ports : ∀ x ∈ ring, x.port.natAbs ≤ 600000
  place : ∀ s0, s0 < op + cl → ∀ s, s < op + cl → PlaceOk op cl ring s0 s ((ring.getD s dflt).port - (ring.getD s0 dflt).port)
  clos : ∀ s0, s0 < op + cl → clo (rot ring s0) = cl
  bal : ∀ s0, s0 < op + cl → ∀ M, M ∈ ring.map (·.port) → (∀ x ∈ ring.map (·.port), M ≤ x) → ∀ cut, cut < op + cl → balK op cl ((rot (rot ring s0) cut).map (·.kind)) 0 = decide (((rot ring s0).getD cut dflt).port = M)
  swept : ∀ s0, s0 < op + cl → ∀ sw : List Pc, sw.Perm (rot ring s0) → sw.Pairwise (fun x y => x.port ≤ y.port) → balK op cl (sw.map (·.kind)) 0 = true ∧ balK op cl ((sw.take (op + cl - 1)).map (·.kind)) 0 = false
structure Pure : Prop where
  rep : ∀ mk ∈ markL, ∀ port : Int, port.natAbs ≤ 600000 → RepOk mk port
  txt : ∀ op cl, (op, cl) ∈ PAIRS → TxtOk op cl
  ring : ∀ op cl, (op, cl) ∈ PAIRS → ∀ p0 : Int, p0.natAbs ≤ 500001 → ∀ ring, IsRing op cl p0 ring [] → RingOk op cl ring
theorem rec_eta (r : DefRec) : r = ⟨r.name, r.params, r.body, r.scope, r.pos⟩ := by cases r; rfl
theorem place_back {cnt s0 p : Nat} (h0 : s0 < cnt) (hp : p < cnt) : placeOf cnt s0 ((s0 + p) % cnt) = p := by
  unfold placeOf
  by_cases h : s0 + p < cnt
  · rw [Nat.mod_eq_of_lt h, show s0 + p + cnt - s0 = p + cnt by omega, Nat.add_mod_right, Nat.mod_eq_of_lt hp]
  · have e : (s0 + p) % cnt = s0 + p - cnt := by rw [Nat.mod_eq_sub_mod (by omega), Nat.mod_eq_of_lt (by omega)]
    rw [e, show s0 + p - cnt + cnt - s0 = p by omega, Nat.mod_eq_of_lt hp]
theorem heard_ports {ring : List Pc} {hear : List Nat} {cnt : Nat} (hl : ring.length = cnt) (hp : hear.Perm (List.range cnt)) (y : Int) : y ∈ (heardL ring hear).map (·.2) ↔ y ∈ ring.map (·.port) := by
  unfold heardL
  rw [List.map_map]
  constructor
  · intro h
    obtain ⟨s, hs, rfl⟩ := List.mem_map.mp h
    have hsl : s < ring.length := by rw [hl]; simpa using hp.mem_iff.mp hs
    refine List.mem_map.mpr ⟨ring[s], List.getElem_mem _, ?_⟩
    show _ = (ring.getD s dflt).port
    rw [getD_some (List.getElem?_eq_getElem hsl)]
  · intro h
    obtain ⟨x, hx, rfl⟩ := List.mem_map.mp h
    obtain ⟨s, hs⟩ := List.getElem?_of_mem hx
    have hsl : s < ring.length := (List.getElem?_eq_some_iff.mp hs).1
    refine List.mem_map.mpr ⟨s, hp.mem_iff.mpr (by simp; omega), ?_⟩
    show (ring.getD s dflt).port = _
    rw [getD_some hs]
theorem port0_small (ns : List Int) : (port0 ns).natAbs ≤ 500001 := by
  unfold port0
  have h1 := Int.fmod_nonneg_of_pos ns.sum (show (0 : Int) < 1000001 by decide)
  have h2 := Int.fmod_lt_of_pos ns.sum (show (0 : Int) < 1000001 by decide)
  omega
theorem lcut (k j : Nat) : (recAt 21).body.drop k = ((recAt 21).body.drop k).take j ++ (recAt 21).body.drop (k + j) := by
  rw [← List.drop_drop, List.take_append_drop]
section
variable {c : Cx} {F : Fix} {K : Frag} {A : Around} {n : Nat} {E : PostV Value} {h : Heap} {g : Gens} {L : Addr} {gg : Heap} {m : Str → Option Value} {cs cs' : List Cell} {env : Env}
theorem seqW {a b : List Stmt} {R : Heap → Gens → Prop} {Q : PostV Flow} (x : SegP (WP c A (execs a env) (fun f h' g' => f = .next ∧ R h' g') E h g)) (k : ∀ h' g', R h' g' → SegP (WP c A (execs b env) Q E h' g')) : SegP (WP c A (execs (a ++ b) env) Q E h g) :=
  ⟨wp_app (x.w.monoQ fun f h' g' q => by obtain ⟨rfl, q⟩ := q; exact (k _ _ q).w)⟩
theorem seqC {a b : List Stmt} {R : Heap → Gens → Prop} {Q : PostV Flow} (x : SegP (WP c A (execs a env) (fun f h' g' => f = .next ∧ R h' g') E h g)) (k : ∀ h' g', R h' g' → SegP (WC c A (execs b env) Q E h' g')) : SegP (WC c A (execs (a ++ b) env) Q E h g) :=
  ⟨wc_app (.of (x.w.monoQ fun f h' g' q => by obtain ⟨rfl, q⟩ := q; exact (k _ _ q).w))⟩
theorem seqCC {a b : List Stmt} {R : Heap → Gens → Prop} {Q : PostV Flow} (x : SegP (WC c A (execs a env) (fun f h' g' => f = .next ∧ R h' g') E h g)) (k : ∀ h' g', R h' g' → SegP (WC c A (execs b env) Q E h' g')) : SegP (WC c A (execs (a ++ b) env) Q E h g) :=
  ⟨wc_app (x.w.monoQ fun f h' g' q => by obtain ⟨rfl, q⟩ := q; exact (k _ _ q).w)⟩
theorem segOf {a : List Stmt} {Q : PostV Flow} (x : SegP (WP c A (execs a env) Q E h g)) : SegP (WC c A (execs a env) Q E h g) := ⟨.of x.w⟩
theorem segEnd {a : List Stmt} {Q Q' : PostV Flow} (x : SegP (WP c A (execs a env) Q E h g)) (k : ∀ f h' g', Q f h' g' → Q' f h' g') : SegP (WP c A (execs a env) Q' E h g) := ⟨x.w.monoQ k⟩
theorem wc_callfnC {i : Nat} {fa : Addr} {cd : Value} {nm : Str} {ps : Arguments} {bd : List Stmt} {sc : Scope} {pos : Pos} {vals : List Value} {binds : List (Str × Value)} {Q : PostV Value}
    (S : St F) (O : Ok F h g) (hA : AOk A n) (hn : n ≤ 50) (hf : FnAt F.H F.mg i fa cd)
    (hrec : recAt i = ⟨nm, ps, bd, sc, pos⟩)
    (hbind : ∀ pm doc, bindArgs (docDef nm ps bd sc pm cd doc) ⟨vals, []⟩ = pure binds)
    (hkind : ∀ n, ∀ x ∈ binds, sc.names.lookup x.1 = some .local ∨ (sc.names.lookup x.1 = some .cell ∧ ((cellsFrom n sc.names []).lookup x.1).isSome = true))
    (hnd : ((cellsFrom 0 sc.names []).map (·.1)).Nodup)
    (x : ∀ L h₁, Lg F (baseOf F h) L (bindL (fun y => sc.names.lookup y) binds fun _ => none) (cellsOf sc binds L) h₁ → AOk (A.deeper (envOfC nm sc L fa cd)) (n + 1) →
      WC c (A.deeper (envOfC nm sc L fa cd)) (execs bd (envOfC nm sc L fa cd)) (fun f h' g' => Q (match f with | .ret v => v | _ => .none) h' g') F0 h₁ g)
    (hco : sc.isCoroutine = false := by rfl) (hgen : sc.isGenerator = false := by rfl) (hk : sc.kind = .function := by rfl) :
    WC c A (call (.ref fa) vals) Q E h g := by
  intro tk
  obtain ⟨o, pm, doc, h1, h2, h3⟩ := hf.ob
  rw [hrec] at h2 h3
  refine wpC_call (codeC_call_function (s := ⟨h, g, c.d, tk + (c.b + 1), c.o⟩) (hA.room (by omega)) (O.base _ _ h1) h2 hco hgen rfl (h3.keeps O.base) ?_)
  rw [hbind pm doc]
  refine wpAny_pure (wpAny_with_toks (n := c.b + 1) (Nat.le_add_left _ _) (wpAny_newFunctionEnv_cells hk (hkind _) fun env he s₁ I ht => ?_))
  subst he
  refine ⟨(S.nolimit.keeps O.base).keeps I.toInCall.keep, ?_⟩
  obtain ⟨h₁, tk', rfl, hk₁⟩ := I.done
  have D₀ := Lg.enter S.sep O I.toInCall.ns Lg.get_size hk₁
  have D : Lg F (baseOf F h) h.objs.size (bindL (fun y => sc.names.lookup y) binds fun _ => none) (cellsOf sc binds h.objs.size) h₁ := by
    refine ⟨D₀.base, D₀.keep, D₀.tabs, D₀.ns, D₀.off, fun p hp => ?_, ?_⟩
    · obtain ⟨⟨y, a⟩, hm, rfl⟩ := List.mem_map.mp hp
      have hl := lookup_of_mem_nodup (cellsFrom_names sc.names 0 (h.objs.size + 1) [] [] rfl ▸ hnd) hm
      have hab := I.above y a hm
      refine ⟨I.cell y a hl, ?_, Nat.ne_of_gt hab, fun _ p => cell_tame p⟩
      cases e : (baseOf F h).get? a with
      | none => rfl
      | some o => exact absurd (Heap.lt_size (of_hideAll _ e)) (Nat.lt_asymm hab)
    · rw [List.map_map]
      exact List.pairwise_map.mpr I.apart
  have ht : c.b + 1 ≤ tk' := ht
  refine codeC_func (wpC_mono ((x _ h₁ D (hA.deeper _)).at (s := ⟨h₁, g, c.d, tk', c.o⟩) ⟨rfl, ht⟩ rfl) (fun f s' q => q) fun e s' ⟨_, _, f⟩ => f.elim)
theorem law_m (ls : Addr) : (bindL (fun y => (recAt 21).scope.names.lookup y) [(Str.ofString "script", .ref ls)] fun _ => none) (Str.ofString "script") = some (.ref ls) := by kernel_rfl
theorem law_q (P : Pure) (X : Tz F K) (hf : FnAt F.H F.mg 21 147 (.ref 146)) (O : Ok F h g) (hA : AOk A 0) (hfr : A.frames = some []) {ls : Addr} {vs : List Value} {ns : List Int} (hls : h.IsList ls vs.toArray) (hi : IntsAre vs ns) (hlen : ns.length ≤ 1000) :
    WC c A (call (.ref 147) [.ref ls]) (fun v h' g' => v = .bool true ∧ AllBare g' ∧ Grow F h h' ∧ Tabs F h') E h g := by
  have S := X.S
  refine wc_callfnC (binds := [(Str.ofString "script", .ref ls)]) S O hA (by decide) hf (rec_eta (recAt 21)) (fun _ _ => ?_) ?_ ?_ (fun L h₁ D hA' => ?_) (by kernel_rfl) (by kernel_rfl) (by kernel_rfl)
  · kernel_rfl
  · intro n x hx
    cases List.mem_singleton.mp hx
    exact .inl (by kernel_rfl)
  · decide +kernel
  have hcs : cellsOf (recAt 21).scope [(Str.ofString "script", .ref ls)] L = [(L + 1 + 1, CellA none), (L + 1, CellA none)] := by kernel_rfl
  rw [hcs] at D
  have hm0 := law_m ls
  generalize bindL (fun y => List.lookup y (recAt 21).scope.names) [(Str.ofString "script", .ref ls)] (fun _ => none) = m0 at D hm0
  have hfr' : (A.deeper (envOfC (recAt 21).name (recAt 21).scope L 147 (.ref 146))).frames = some [envOfC (recAt 21).name (recAt 21).scope L 147 (.ref 146)] := Around.frames_deeper hfr
  generalize A.deeper (envOfC (recAt 21).name (recAt 21).scope L 147 (.ref 146)) = A' at hA' hfr' ⊢
  generalize hE : envOfC (recAt 21).name (recAt 21).scope L 147 (.ref 146) = env at hfr' ⊢
  replace hE : env = LE L := hE.symm
  have gl := base_list (as := []) O hls (by simp)
  rw [← baseOf_eq] at gl
  have htab : ∀ b ∈ F.ns.map (·.P), (baseOf F h).get? b = none := base_off
  refine @WC.abs _ _ _ _ _ _ _ _ fun Q0 hQ0 => ?_
  refine SegP.w ?_
  rw [show (recAt 21).body = (recAt 21).body.take 3 ++ (recAt 21).body.drop 3 from (List.take_append_drop _ _).symm]
  refine seqC (seg1 hE X D hA' hm0 gl hi hlen) ?_
  rintro h1 g1 ⟨e2, op, cl, m1, t1, t2, to, hp, D1, mo, ms⟩
  subst e2
  have hps := pairs_small _ hp
  dsimp only at hps
  rw [lcut 3 7]
  refine seqC (seg2 hE X hp D1 hA' ms mo gl hi hlen) ?_
  rintro h2 g2 ⟨e2, lc, cv, lh, hv, ld, dv, lse, sv, lr, lhe, m2, tp, hcv, hho, hdv, hsv, D2, mo, mc, mh, md, mse, mp, mr, mhe⟩
  subst e2
  rw [lcut 10 1]
  refine seqC (seg3 hE X hp (cellsL_len hp ns) hcv hho hdv hsv D2 O.bare hA' mo mc mh md mse mp mr mhe) ?_
  rintro h3 g3 ⟨m3, ring, hear, rv, hev, tcs, D3, hb3, R, TR, NH, hper, mo, mc, mr, mhe⟩
  have RO := P.ring op cl hp _ (port0_small ns) ring R
  have hhl : hear.length = op + cl := by have := hper.length_eq; simpa using this
  obtain ⟨s0, hs0⟩ : ∃ s, hear[0]? = some s := ⟨_, List.getElem?_eq_getElem (by omega)⟩
  have hs0l : s0 < op + cl := by simpa using hper.mem_iff.mp (List.mem_of_getElem? hs0)
  rw [lcut 11 2]
  refine seqCC (seg4 hE X P.rep hcv (cellsL_len hp ns) (by omega) RO.len RO.ports hper D3 hb3 hA' (by decide) hfr' htab TR NH mo mc mr mhe) ?_
  rintro h4 g4 ⟨m4, lhd, hdv, tcs, D4, hb4, TR, TH, mo, mr, mhe, mhd⟩
  refine segOf ?_
  rw [lcut 13 1]
  refine seqW (seg5 hE X hp D4 (List.mem_append_left _ M3) (List.mem_append_left _ M4) hA') ?_
  rintro h5 g5 ⟨e2, ti, D5⟩
  subst e2
  rw [lcut 14 2]
  refine seqW (seg6 hE X hp RO.len hper hs0 (RO.place s0 hs0l) D5 hb4 hA' (by decide) htab TR TH mo mr mhe mhd (if_pos rfl)) ?_
  rintro h6 g6 ⟨m6, lp, pv, tcs, D6, hb6, TR, TH, hpv, hat, mo, mr, mhe, mhd, mp⟩
  have hat' : ∀ p, p < op + cl → PlAt tcs pv (rot ring s0) p := fun p hpl => by
    have hm : (s0 + p) % (op + cl) ∈ hear := hper.mem_iff.mpr (by simp; exact Nat.mod_lt _ (by omega))
    have := hat _ hm
    rwa [place_back hs0l hpl] at this
  rw [lcut 16 2]
  have hpr : ∀ x ∈ rot ring s0, PcOk x := fun x hx => RO.pcs x (rot_mem hx)
  refine seqW (seg7 hE X hp (by rw [rot_len, RO.len]) (fun x hx => (hpr x hx).2) (RO.clos s0 hs0l) D6 hb6 hA' (by decide) TR TH hat' mo mr mhe mhd mp) ?_
  rintro h7 g7 ⟨m7, lt, tv, tcs, D7, hb7, TR, TH, TT, mo, mr, mhe, mhd, mt⟩
  rw [lcut 18 1]
  refine seqW (seg8 (to := to) hE X (by omega) RO.len (fun x hx => (RO.pcs x hx).1) hs0 hs0l NH D7 hA' (by decide) TR TT mr mhe mt) ?_
  rintro h8 g8 ⟨e2, D8⟩
  subst e2
  rw [lcut 19 1]
  refine seqW (seg9 (to := to) hE X (by omega) (by simp [heardL, hhl]) (by omega) D8 hb7 hA' (by decide) TH mhd) ?_
  rintro h9 g9 ⟨hb9, M, tm, hM1, hM2, D9⟩
  have hports : ∀ y, y ∈ (heardL ring hear).map (·.2) ↔ y ∈ ring.map (·.port) := heard_ports RO.len hper
  rw [lcut 20 1]
  refine seqW (seg10 hE X hp (P.txt op cl hp) (by rw [rot_len, RO.len]) hpr (RO.bal s0 hs0l M ((hports M).mp hM1) fun x hx => hM2 x ((hports x).mpr hx)) (D9.keepOf (.cons_cons _ (.cons _ (.cons _ (.cons _ (.refl _)))))) hb9 hA' (by decide) htab TT mo mt (if_pos rfl)) ?_
  rintro h10 g10 ⟨m10, D10, hb10, mo, mt⟩
  refine segEnd (seg11 hE X hp (P.txt op cl hp) (by rw [rot_len, RO.len]) hpr (RO.swept s0 hs0l) D10 hb10 hA' (by decide) htab TT mo mt) ?_
  rintro f h11 g11 ⟨e1, hb11, m11, cs11, D11⟩
  subst e1
  exact hQ0 _ _ _ ⟨rfl, hb11, D11.grow, D11.tabs⟩
end
end Mine
end

noncomputable section
open PySem PySem.W PySem.Calls PyProof.Rows
set_option Elab.async false
set_option maxRecDepth 100000
set_option linter.unusedVariables false
set_option maxHeartbeats 2000000
namespace Mine
def bits : Nat → List (List Nat)
  | 0 => [[]]
  | n + 1 => (bits n).flatMap fun l => [0 :: l, 1 :: l]
theorem mem_bits : ∀ {ks : List Nat}, (∀ k ∈ ks, k = 0 ∨ k = 1) → ks ∈ bits ks.length
  | [], _ => .head _
  | k :: r, h => by
    refine List.mem_flatMap.mpr ⟨r, mem_bits fun x hx => h x (.tail _ hx), ?_⟩
    rcases h k (.head _) with rfl | rfl <;> simp
def kindsL (op cl : Nat) : List (List Nat) := (bits (op + cl)).filter fun l => l.count 1 == cl
/-- the heights ahead of the pieces -/
def hts (op cl : Nat) : Int → List Nat → List Int
  | _, [] => []
  | a, k :: r => a :: hts op cl (a + stepH op cl k) r
theorem hts_len (op cl : Nat) : ∀ (a : Int) (ks : List Nat), (hts op cl a ks).length = ks.length
  | _, [] => rfl
  | a, k :: r => by rw [hts, List.length_cons, hts_len, List.length_cons]
theorem hts_get (op cl : Nat) : ∀ (a : Int) (ks : List Nat) (j : Nat), j < ks.length → (hts op cl a ks).getD j 0 = a + hgt op cl (ks.take j)
  | _, [], j, h => by simp at h
  | a, k :: r, 0, _ => by simp [hts, hgt]
  | a, k :: r, j + 1, h => by
    rw [hts, List.getD_cons_succ, hts_get op cl _ r j (by simpa using h), List.take_succ_cons]
    unfold hgt
    rw [List.map_cons, List.sum_cons]
    omega
def okPlace (op cl inv cnt : Nat) (ks : List Nat) (hs : List Int) (s0 s : Nat) : Bool :=
  let d := hs.getD s 0 - hs.getD s0 0
  let p := placeOf cnt s0 s
  let w := ((inv : Int) * (cl : Int)).fdiv (cnt : Int) * (p : Int) - ((inv : Int) * d).fdiv (cnt : Int)
  decide (((inv : Int) * d).fmod (cnt : Int) = (p : Int)) && decide (w.fmod (inv : Int) = 0) && decide (w.fdiv (inv : Int) = (((rot ks s0).take p).count 1 : Nat)) && decide (w.natAbs < 1000)
def ins (x : Int × Nat) : List (Int × Nat) → List (Int × Nat)
  | [] => [x]
  | y :: r => if x.1 ≤ y.1 then x :: y :: r else y :: ins x r
def isort (l : List (Int × Nat)) : List (Int × Nat) := l.foldr ins []
def incr : List (Int × Nat) → Bool
  | x :: y :: r => decide (x.1 < y.1) && incr (y :: r)
  | _ => true
def okRing (op cl : Nat) (ks : List Nat) : Bool :=
  let cnt := op + cl
  let inv := invOf op cl
  let hs := hts op cl 0 ks
  let S := isort (hs.zip ks)
  ((List.range cnt).all fun s0 => (List.range cnt).all fun s => okPlace op cl inv cnt ks hs s0 s) &&
  ((List.range cnt).all fun m => balK op cl (rot ks m) 0 == hs.all fun x => decide (hs.getD m 0 ≤ x)) &&
  incr S && balK op cl (S.map (·.2)) 0 && !(balK op cl ((S.take (cnt - 1)).map (·.2)) 0)
theorem ok23 : ∀ ks ∈ kindsL 2 3, okRing 2 3 ks = true := by decide +kernel
theorem ok32 : ∀ ks ∈ kindsL 3 2, okRing 3 2 ks = true := by decide +kernel
theorem ok14 : ∀ ks ∈ kindsL 1 4, okRing 1 4 ks = true := by decide +kernel
theorem ok34 : ∀ ks ∈ kindsL 3 4, okRing 3 4 ks = true := by decide +kernel
theorem ok52 : ∀ ks ∈ kindsL 5 2, okRing 5 2 ks = true := by decide +kernel
theorem ok35 : ∀ ks ∈ kindsL 3 5, okRing 3 5 ks = true := by decide +kernel
theorem ok_all {op cl : Nat} (hp : (op, cl) ∈ PAIRS) : ∀ ks ∈ kindsL op cl, okRing op cl ks = true := by
  unfold PAIRS at hp
  simp only [List.mem_cons, Prod.mk.injEq, List.not_mem_nil, or_false] at hp
  rcases hp with ⟨rfl, rfl⟩ | ⟨rfl, rfl⟩ | ⟨rfl, rfl⟩ | ⟨rfl, rfl⟩ | ⟨rfl, rfl⟩ | ⟨rfl, rfl⟩
  · exact ok23
  · exact ok32
  · exact ok14
  · exact ok34
  · exact ok52
  · exact ok35
end Mine
end

noncomputable section
open PySem PySem.W PySem.Calls PyProof.Rows
set_option Elab.async false
set_option maxRecDepth 100000
set_option linter.unusedVariables false
set_option maxHeartbeats 2000000
namespace Mine
theorem rot_rot {α : Type} {l : List α} {s c : Nat} (hs : s < l.length) (hc : c < l.length) : rot (rot l s) c = rot l ((s + c) % l.length) := by
  unfold rot
  by_cases h : s + c < l.length
  · rw [Nat.mod_eq_of_lt h, List.drop_append_of_le_length (by simp; omega), List.take_append_of_le_length (by simp; omega), List.drop_drop, List.append_assoc, ← List.take_add]
  · have e : (s + c) % l.length = s + c - l.length := by rw [Nat.mod_eq_sub_mod (by omega), Nat.mod_eq_of_lt (by omega)]
    rw [e]
    have h1 : (l.drop s ++ l.take s).drop c = (l.take s).drop (s + c - l.length) := by
      rw [List.drop_append, List.drop_of_length_le (by rw [List.length_drop]; omega), List.nil_append, List.length_drop]
      congr 1; omega
    have h2 : (l.drop s ++ l.take s).take c = l.drop s ++ (l.take s).take (s + c - l.length) := by
      rw [List.take_append, List.take_of_length_le (by rw [List.length_drop]; omega), List.length_drop]
      congr 2; omega
    rw [h1, h2]
    generalize hr : s + c - l.length = r
    rw [List.take_take, Nat.min_eq_left (by omega), ← List.append_assoc]
    congr 1
    have := List.take_append_drop s l
    conv => rhs; rw [← this]
    rw [List.drop_append_of_le_length (by simp; omega)]
theorem rot_map {α β : Type} (f : α → β) (l : List α) (s : Nat) : (rot l s).map f = rot (l.map f) s := by
  unfold rot; rw [List.map_append, List.map_drop, List.map_take]
theorem rot_perm {α : Type} (l : List α) (s : Nat) : (rot l s).Perm l := by
  unfold rot
  exact List.perm_append_comm.trans (by rw [List.take_append_drop])
theorem rot_get {α : Type} {l : List α} {s j : Nat} (hs : s < l.length) (hj : j < l.length) : (rot l s)[j]? = l[(s + j) % l.length]? := by
  unfold rot
  by_cases h : s + j < l.length
  · rw [List.getElem?_append_left (by simp; omega), List.getElem?_drop, Nat.mod_eq_of_lt h]
  · have e : (s + j) % l.length = s + j - l.length := by rw [Nat.mod_eq_sub_mod (by omega), Nat.mod_eq_of_lt (by omega)]
    rw [e, List.getElem?_append_right (by simp; omega), List.getElem?_take, if_pos (by simp; omega)]
    congr 1
    simp
    omega
theorem place_to {cnt s0 s : Nat} (h0 : s0 < cnt) (hs : s < cnt) : (s0 + placeOf cnt s0 s) % cnt = s := by
  unfold placeOf
  by_cases h : s < s0
  · rw [Nat.mod_eq_of_lt (show s + cnt - s0 < cnt by omega), show s0 + (s + cnt - s0) = s + cnt by omega, Nat.add_mod_right, Nat.mod_eq_of_lt hs]
  · have e : (s + cnt - s0) % cnt = s - s0 := by rw [Nat.mod_eq_sub_mod (by omega), show s + cnt - s0 - cnt = s - s0 by omega, Nat.mod_eq_of_lt (by omega)]
    rw [e, show s0 + (s - s0) = s by omega, Nat.mod_eq_of_lt hs]
theorem hgt_small {op cl : Nat} (ho : op ≤ 5) (hc : cl ≤ 5) : ∀ ks : List Nat, (hgt op cl ks).natAbs ≤ 5 * ks.length
  | [] => by simp [hgt]
  | k :: r => by
    have ih := hgt_small ho hc r
    have e : hgt op cl (k :: r) = stepH op cl k + hgt op cl r := by unfold hgt; rw [List.map_cons, List.sum_cons]
    have e2 : (stepH op cl k).natAbs ≤ 5 := by
      unfold stepH
      split <;> omega
    rw [e, List.length_cons]
    refine Nat.le_trans (Int.natAbs_add_le _ _) ?_
    rw [Nat.mul_add, Nat.mul_one, Nat.add_comm]
    exact Nat.add_le_add ih e2
theorem isort_perm : ∀ l, (isort l).Perm l
  | [] => .refl _
  | x :: r => by
    have : ∀ (y : Int × Nat) (l : List (Int × Nat)), (ins y l).Perm (y :: l) := fun y l => by
      induction l with
      | nil => exact .refl _
      | cons z l ih =>
        unfold ins
        split
        · exact .refl _
        · exact (List.Perm.cons z ih).trans (List.Perm.swap y z l)
    exact (this x (isort r)).trans (List.Perm.cons x (isort_perm r))
theorem incr_pair : ∀ {l : List (Int × Nat)}, incr l = true → l.Pairwise fun a b => a.1 < b.1
  | [], _ => .nil
  | [_], _ => List.pairwise_singleton ..
  | x :: y :: r, h => by
    unfold incr at h
    obtain ⟨h1, h2⟩ := Bool.and_eq_true_iff.mp h
    have ih := incr_pair h2
    have h1 := of_decide_eq_true h1
    refine List.pairwise_cons.mpr ⟨fun z hz => ?_, ih⟩
    rcases List.mem_cons.mp hz with rfl | hz
    · exact h1
    · exact Int.lt_trans h1 ((List.pairwise_cons.mp ih).1 z hz)
theorem pairwise_inj {l : List (Int × Nat)} (h : l.Pairwise fun a b => a.1 < b.1) {a b : Int × Nat} (ha : a ∈ l) (hb : b ∈ l) (e : a.1 = b.1) : a = b := by
  induction h with
  | nil => cases ha
  | cons h1 _ ih =>
    rcases List.mem_cons.mp ha with rfl | ha' <;> rcases List.mem_cons.mp hb with rfl | hb'
    · rfl
    · have := h1 _ hb'; omega
    · have := h1 _ ha'; omega
    · exact ih ha' hb'
theorem ring_ok {op cl : Nat} (hp : (op, cl) ∈ PAIRS) {p0 : Int} (h0 : p0.natAbs ≤ 500001) {ring : List Pc} (R : IsRing op cl p0 ring []) : RingOk op cl ring := by
  have hps := pairs_small _ hp
  dsimp only at hps
  have hk := R.kinds
  rw [List.append_nil] at hk
  have hl : ring.length = op + cl := by have := hk.length_eq; simpa using this
  obtain ⟨ks, hks⟩ : ∃ ks, ks = ring.map (·.kind) := ⟨_, rfl⟩
  rw [← hks] at hk
  have hkl : ks.length = op + cl := by rw [hks]; simpa using hl
  have h01 : ∀ k ∈ ks, k = 0 ∨ k = 1 := fun k hk' => by
    rcases List.mem_append.mp (hk.mem_iff.mp hk') with h | h
    · exact .inl (List.eq_of_mem_replicate h)
    · exact .inr (List.eq_of_mem_replicate h)
  have hcnt : ks.count 1 = cl := by
    rw [hk.count_eq, List.count_append, List.count_replicate, List.count_replicate]
    simp
  have hmem : ks ∈ kindsL op cl := by
    refine List.mem_filter.mpr ⟨?_, by simp [hcnt]⟩
    have := mem_bits h01
    rwa [hkl] at this
  have hok := ok_all hp ks hmem
  unfold okRing at hok
  simp only [Bool.and_eq_true, List.all_eq_true, List.mem_range, beq_iff_eq, Bool.not_eq_true'] at hok
  obtain ⟨⟨⟨⟨k1, k2⟩, k3⟩, k4⟩, k5⟩ := hok
  have hport : ∀ j, j < op + cl → (ring.getD j dflt).port = p0 + (hts op cl 0 ks).getD j 0 := fun j hj => by
    have hx : ring[j]? = some (ring.getD j dflt) := by rw [List.getD_eq_getElem?_getD, List.getElem?_eq_getElem (by omega)]; rfl
    rw [R.ports j _ hx, hts_get op cl 0 ks j (by omega), ← hks]
    omega
  have hsm : ∀ j, j < op + cl → ((hts op cl 0 ks).getD j 0).natAbs ≤ 40 := fun j hj => by
    rw [hts_get op cl 0 ks j (by omega)]
    have := hgt_small (op := op) (cl := cl) (by omega) (by omega) (ks.take j)
    have h2 : (ks.take j).length ≤ 8 := by simp; omega
    rw [Int.zero_add]
    exact Nat.le_trans this (Nat.mul_le_mul_left 5 h2)
  obtain ⟨i1, i2, _, _⟩ := inv_facts _ hp
  dsimp only at i1 i2
  refine ⟨hl, fun x hx => ⟨R.hosts x hx, h01 _ (by rw [hks]; exact List.mem_map_of_mem hx)⟩, fun x hx => ?_, fun s0 hs0 s hs => ?_, fun s0 hs0 => ?_, fun s0 hs0 M hM1 hM2 cut hcut => ?_, fun s0 hs0 sw hsw hpw => ?_⟩
  · obtain ⟨j, hj⟩ := List.getElem?_of_mem hx
    have hjl : j < op + cl := by have := (List.getElem?_eq_some_iff.mp hj).1; omega
    have e := hport j hjl
    rw [getD_some hj] at e
    rw [e]
    exact Nat.le_trans (Int.natAbs_add_le _ _) (Nat.le_trans (Nat.add_le_add h0 (hsm j hjl)) (by decide))
  · have z := k1 s0 hs0 s hs
    unfold okPlace at z
    simp only [Bool.and_eq_true, decide_eq_true_eq] at z
    obtain ⟨⟨⟨z1, z2⟩, z3⟩, z4⟩ := z
    have e : (ring.getD s dflt).port - (ring.getD s0 dflt).port = (hts op cl 0 ks).getD s 0 - (hts op cl 0 ks).getD s0 0 := by
      rw [hport s hs, hport s0 hs0]; omega
    rw [e]
    have b1 := hsm s hs
    have b2 := hsm s0 hs0
    have hclo : clo ((rot ring s0).take (placeOf (op + cl) s0 s)) = ((rot ks s0).take (placeOf (op + cl) s0 s)).count 1 := by
      unfold clo
      rw [List.map_take, rot_map, ← hks]
    refine ⟨by omega, ?_, z1, by unfold stepW; omega, by unfold stepW; exact z2, by unfold stepW; rw [hclo]; exact z3, ?_⟩
    · have h8 : invOf op cl ≤ 8 := by omega
      have : ((invOf op cl : Int) * ((hts op cl 0 ks).getD s 0 - (hts op cl 0 ks).getD s0 0)).natAbs ≤ 8 * 80 := by
        rw [Int.natAbs_mul]
        exact Nat.mul_le_mul h8 (Nat.le_trans (Int.natAbs_sub_le _ _) (Nat.add_le_add b1 b2))
      omega
    · rw [rot_get (by omega) (by rw [hl]; exact Nat.mod_lt _ (by omega)), hl, place_to hs0 hs]
  · unfold clo
    rw [rot_map, (rot_perm _ _).count_eq, ← hks, hcnt]
  · rw [rot_map, rot_map, ← hks, rot_rot (by omega) (by omega), hkl]
    have hm : (s0 + cut) % (op + cl) < op + cl := Nat.mod_lt _ (by omega)
    rw [k2 _ hm]
    have hrr : (rot ring s0).getD cut dflt = ring.getD ((s0 + cut) % (op + cl)) dflt := by
      rw [List.getD_eq_getElem?_getD, rot_get (by omega) (by omega), hl, ← List.getD_eq_getElem?_getD]
    rw [hrr, hport _ hm]
    rw [Bool.eq_iff_iff, List.all_eq_true, decide_eq_true_eq]
    have hin : ∀ j, j < op + cl → p0 + (hts op cl 0 ks).getD j 0 ∈ ring.map (·.port) := fun j hj => by
      rw [← hport j hj]
      refine List.mem_map_of_mem ?_
      rw [List.getD_eq_getElem?_getD, List.getElem?_eq_getElem (by omega)]
      exact List.getElem_mem _
    constructor
    · intro h
      refine Int.le_antisymm ?_ (hM2 _ (hin _ hm))
      obtain ⟨x, hx, rfl⟩ := List.mem_map.mp hM1
      obtain ⟨j, hj⟩ := List.getElem?_of_mem hx
      have hjl : j < op + cl := by have := (List.getElem?_eq_some_iff.mp hj).1; omega
      have e := hport j hjl
      rw [getD_some hj] at e
      rw [e]
      have hmem2 : (hts op cl 0 ks).getD j 0 ∈ hts op cl 0 ks := by
        rw [List.getD_eq_getElem?_getD, List.getElem?_eq_getElem (by rw [hts_len]; omega)]
        exact List.getElem_mem _
      have := of_decide_eq_true (h _ hmem2)
      omega
    · intro h x hx
      obtain ⟨j, hj⟩ := List.getElem?_of_mem hx
      have hjl : j < op + cl := by have := (List.getElem?_eq_some_iff.mp hj).1; rw [hts_len] at this; omega
      have := hM2 _ (hin j hjl)
      have e : (hts op cl 0 ks).getD j 0 = x := by rw [List.getD_eq_getElem?_getD, hj]; rfl
      rw [e] at this
      exact decide_eq_true (by omega)
  · have hsr : sw.Perm ring := hsw.trans (rot_perm _ _)
    have hB : (ring.map fun x => (x.port - p0, x.kind)) = (hts op cl 0 ks).zip ks := by
      refine List.ext_getElem? fun j => ?_
      rw [List.getElem?_map, List.zip, List.getElem?_zipWith]
      by_cases hj : j < op + cl
      · have e1 : ring[j]? = some (ring.getD j dflt) := by rw [List.getD_eq_getElem?_getD, List.getElem?_eq_getElem (by omega)]; rfl
        have e2 : (hts op cl 0 ks)[j]? = some ((hts op cl 0 ks).getD j 0) := by rw [List.getD_eq_getElem?_getD, List.getElem?_eq_getElem (by rw [hts_len]; omega)]; rfl
        have e3 : ks[j]? = some (ring.getD j dflt).kind := by rw [hks, List.getElem?_map, e1]; rfl
        rw [e1, e2, e3]
        show some ((ring.getD j dflt).port - p0, (ring.getD j dflt).kind) = some ((hts op cl 0 ks).getD j 0, (ring.getD j dflt).kind)
        rw [hport j hj, show p0 + (hts op cl 0 ks).getD j 0 - p0 = (hts op cl 0 ks).getD j 0 by omega]
      · rw [List.getElem?_eq_none (by omega), List.getElem?_eq_none (show (hts op cl 0 ks).length ≤ j by rw [hts_len]; omega)]
        rfl
    have hperm : (sw.map fun x => (x.port - p0, x.kind)).Perm (isort ((hts op cl 0 ks).zip ks)) := by
      refine (hsr.map _).trans ?_
      rw [hB]
      exact (isort_perm _).symm
    have hin := incr_pair k3
    have heq : (sw.map fun x => (x.port - p0, x.kind)) = isort ((hts op cl 0 ks).zip ks) := by
      refine List.Perm.eq_of_pairwise (le := fun a b => a.1 ≤ b.1) (fun a b ha hb h1 h2 => pairwise_inj hin (hperm.mem_iff.mp ha) hb (Int.le_antisymm h1 h2)) ?_ (hin.imp fun h => Int.le_of_lt h) hperm
      rw [List.pairwise_map]
      exact hpw.imp fun {a b} h => by simp; omega
    have e1 : sw.map (·.kind) = (isort ((hts op cl 0 ks).zip ks)).map (·.2) := by rw [← heq, List.map_map]; rfl
    have e2 : (sw.take (op + cl - 1)).map (·.kind) = ((isort ((hts op cl 0 ks).zip ks)).take (op + cl - 1)).map (·.2) := by
      rw [List.map_take, e1, ← List.map_take]
    rw [e1, e2]
    exact ⟨k4, k5⟩
end Mine
end

noncomputable section
open PySem PySem.Builtin PySem.Builtin.Str PySem.W PySem.Calls PyProof.Rows
set_option Elab.async false
set_option maxRecDepth 100000
set_option linter.unusedVariables false
set_option maxHeartbeats 2000000
namespace Mine
theorem slice_T (l : List Nat) {a b : Nat} (hab : a ≤ b) (hb : b ≤ l.length) : Txt.slice (T l) (some (a : Int)) (some (b : Int)) = T ((l.drop a).take (b - a)) := by
  have := StrLaws.sliceText_nat (T l) hab (by rw [T_len]; exact hb)
  exact this
theorem slice_T_end (l : List Nat) {a : Nat} (ha : a ≤ l.length) : Txt.slice (T l) (some (a : Int)) none = T (l.drop a) := by
  unfold Txt.slice
  rw [StrLaws.sliceIdx_none_hi]
  have := slice_T l (a := a) (b := (T l).length) (by rw [T_len]; exact ha) (by rw [T_len]; exact Nat.le_refl _)
  unfold Txt.slice at this
  rw [this, T_len, List.take_of_length_le (by simp)]
def catS (ys : List Str) : List Nat := ys.flatMap fun y => y.cps.toList
theorem foldl_cat : ∀ (ys : List Str) (acc : Array Nat), (ys.foldl (fun acc p => acc ++ (Str.ofString "").cps ++ p.cps) acc).toList = acc.toList ++ catS ys
  | [], acc => by simp [catS]
  | y :: r, acc => by
    have e : (Str.ofString "").cps = #[] := by decide +kernel
    rw [List.foldl_cons, foldl_cat r, e]
    simp [catS]
theorem join_cat (ys : List Str) : Txt.join (Str.ofString "") ys = T (catS ys) := by
  unfold Txt.join glued
  cases ys with
  | nil => rfl
  | cons y r =>
    show (⟨_⟩ : Str) = ⟨_⟩
    congr 1
    apply Array.ext'
    have := foldl_cat r y.cps
    simp only [List.drop_succ_cons, List.drop_zero, List.headD_cons]
    rw [this]
    simp [catS]
theorem catS_snoc (ys : List Str) (l : List Nat) : catS (ys ++ [T l]) = catS ys ++ l := by unfold catS; simp
def brk (op cl : Nat) (x : Pc) : List Nat := if x.kind = 1 then List.replicate op 41 else List.replicate cl 40
theorem brk_plain {op cl : Nat} {x : Pc} : ∀ k ∈ brk op cl x, k ≠ 92 ∧ k ≠ 34 := fun k hk => by
  unfold brk at hk
  split at hk <;> rw [List.eq_of_mem_replicate hk] <;> decide
theorem run_br (y : Str) : ∀ (br r : List Nat) (i : Nat) (s : SS), (∀ k ∈ br, k ≠ 92 ∧ k ≠ 34) → (esc (br ++ r) i false).foldl (sstep y) s = (esc r (i + br.length) false).foldl (sstep y) s
  | [], r, i, s, _ => rfl
  | k :: br, r, i, s, h => by
    have hk := h k (.head _)
    rw [List.cons_append, esc, if_neg (by simp), if_neg hk.1, List.foldl_cons]
    have : sstep y s (i, [k]) = s := by
      unfold sstep
      rw [if_neg (by simpa using hk.2)]
    rw [this, run_br y br r (i + 1) s fun x hx => h x (.tail _ hx), List.length_cons]
    congr 2
    omega
theorem run_quote (y : Str) {host : List Nat} (hh : host ∈ hostsL) (r : List Nat) (i : Nat) (st : Nat) (res : List Str) :
    (esc (34 :: host ++ 34 :: r) i false).foldl (sstep y) ⟨st, none, res⟩ = (esc r (i + host.length + 2) false).foldl (sstep y) ⟨i + host.length + 2, none, if st = i then res else res ++ [Txt.slice y (some (st : Int)) (some (i : Int))]⟩ := by
  unfold hostsL at hh
  simp only [List.mem_cons, List.not_mem_nil, or_false] at hh
  rcases hh with rfl | rfl | rfl | rfl <;> simp [esc, sstep, Nat.add_assoc]
theorem run_ps (op cl : Nat) (y : Str) (full : List Nat) (hy : y = T full) : ∀ (ps : List Pc) (pre : List Nat) (st : Nat) (res : List Str), (∀ x ∈ ps, x.host ∈ hostsL) → full = pre ++ ltext op cl ps → st ≤ pre.length →
    ∃ st' res', (esc (ltext op cl ps) pre.length false).foldl (sstep y) ⟨st, none, res⟩ = ⟨st', none, res'⟩ ∧ st' ≤ full.length ∧ catS res' ++ full.drop st' = catS res ++ pre.drop st ++ ps.flatMap (brk op cl)
  | [], pre, st, res, _, hf, hst => by
    refine ⟨st, res, rfl, by rw [hf]; simp; omega, ?_⟩
    rw [hf]
    simp [ltext]
  | x :: ps, pre, st, res, hh, hf, hst => by
    have hx := hh x (.head _)
    have hl : ltext op cl (x :: ps) = brk op cl x ++ ((if x.host = [] then [] else 34 :: x.host ++ [34]) ++ ltext op cl ps) := by
      unfold ltext
      rw [List.flatMap_cons]
      unfold pcText brk
      rw [List.append_assoc]
    rw [hl] at hf ⊢
    rw [run_br y _ _ _ _ brk_plain]
    by_cases h0 : x.host = []
    · rw [if_pos h0, List.nil_append] at hf ⊢
      obtain ⟨st', res', e1, e2, e3⟩ := run_ps op cl y full hy ps (pre ++ brk op cl x) st res (fun z hz => hh z (.tail _ hz)) (by rw [hf]; simp) (by simp; omega)
      rw [List.length_append] at e1
      refine ⟨st', res', e1, e2, ?_⟩
      rw [e3, List.drop_append_of_le_length hst, List.flatMap_cons]
      simp
    · rw [if_neg h0] at hf ⊢
      have e0 : 34 :: x.host ++ [34] ++ ltext op cl ps = 34 :: x.host ++ 34 :: ltext op cl ps := by simp
      rw [e0] at hf ⊢
      rw [run_quote y hx]
      have hpl : (pre ++ brk op cl x ++ (34 :: x.host ++ [34])).length = pre.length + (brk op cl x).length + x.host.length + 2 := by simp; omega
      obtain ⟨st', res', e1, e2, e3⟩ := run_ps op cl y full hy ps (pre ++ brk op cl x ++ (34 :: x.host ++ [34])) (pre.length + (brk op cl x).length + x.host.length + 2)
        (if st = pre.length + (brk op cl x).length then res else res ++ [Txt.slice y (some (st : Int)) (some ((pre.length + (brk op cl x).length : Nat) : Int))]) (fun z hz => hh z (.tail _ hz)) (by rw [hf]; simp) (by rw [hpl]; exact Nat.le_refl _)
      rw [hpl] at e1
      refine ⟨st', res', e1, e2, ?_⟩
      rw [e3, List.drop_of_length_le (by rw [hpl]; exact Nat.le_refl _), List.append_nil, List.flatMap_cons]
      by_cases hq : st = pre.length + (brk op cl x).length
      · rw [if_pos hq]
        have hb : brk op cl x = [] := List.eq_nil_of_length_eq_zero (by omega)
        rw [hb, List.drop_of_length_le (by omega)]
        simp
      · rw [if_neg hq, hy, slice_T full (by omega) (by rw [hf]; simp), catS_snoc]
        have : (full.drop st).take (pre.length + (brk op cl x).length - st) = pre.drop st ++ brk op cl x := by
          rw [hf, ← List.append_assoc, List.drop_append_of_le_length (by simp; omega), List.take_append_of_le_length (by simp), List.take_of_length_le (by simp), List.drop_append_of_le_length hst]
        rw [this]
        simp
theorem no_quote {l : List Nat} (h : (occurrences (T l) (Str.ofString "\"") 0 (T l).length 1).isEmpty = true) : 34 ∉ l := fun hm => by
  obtain ⟨i, hi⟩ := List.getElem?_of_mem hm
  have hlt := (List.getElem?_eq_some_iff.mp hi).1
  have := (StrLaws.found_iff (T l) (Str.ofString "\"")).mpr ⟨i, by
    rw [q34]
    exact (StrLaws.subAt_one (T l) 34 i).mpr (by simpa using hi)⟩
  rw [h] at this
  cases this
theorem strip_brk (op cl : Nat) (ps : List Pc) (hh : ∀ x ∈ ps, x.host ∈ hostsL) : stripS (T (ltext op cl ps)) = T (ps.flatMap (brk op cl)) := by
  unfold stripS
  by_cases h0 : (occurrences (T (ltext op cl ps)) (Str.ofString "\"") 0 (T (ltext op cl ps)).length 1).isEmpty = true
  · rw [if_pos h0]
    have hq := no_quote h0
    have : ∀ x ∈ ps, pcText op cl x = brk op cl x := fun x hx => by
      unfold pcText brk
      by_cases he : x.host = []
      · rw [if_pos he, List.append_nil]
      · refine absurd ?_ hq
        unfold ltext
        refine List.mem_flatMap.mpr ⟨x, hx, ?_⟩
        unfold pcText
        rw [if_neg he]
        simp
    have e : ps.flatMap (pcText op cl) = ps.flatMap (brk op cl) := by rw [List.flatMap_def, List.flatMap_def, List.map_congr_left this]
    unfold ltext
    rw [e]
  · rw [if_neg h0]
    obtain ⟨st, res, e1, e2, e3⟩ := run_ps op cl (T (ltext op cl ps)) (ltext op cl ps) rfl ps [] 0 [] hh rfl (Nat.le_refl _)
    have es : srun (T (ltext op cl ps)) (esc (T (ltext op cl ps)).cps.toList 0 false) = ⟨st, none, res⟩ := e1
    dsimp only
    rw [es, join_cat]
    congr 1
    dsimp only
    rw [T_len]
    have e4 : catS res ++ (ltext op cl ps).drop st = ps.flatMap (brk op cl) := by rw [e3]; simp [catS]
    by_cases hlt : st < (ltext op cl ps).length
    · rw [if_pos hlt, slice_T_end _ (by omega), catS_snoc, e4]
    · rw [if_neg hlt, ← e4, List.drop_of_length_le (by omega), List.append_nil]
theorem chk_open (r : List Nat) : ∀ (k i : Nat) (a : Int), chk (esc (List.replicate k 40 ++ r) i false) a = chk (esc r (i + k) false) (a + k)
  | 0, i, a => by simp
  | k + 1, i, a => by
    rw [List.replicate_succ, List.cons_append, esc, if_neg (by simp), if_neg (by decide), chk, if_pos rfl, chk_open r k, show i + 1 + k = i + (k + 1) by omega, show a + 1 + (k : Int) = a + ((k + 1 : Nat) : Int) by omega]
theorem chk_close (r : List Nat) : ∀ (k i : Nat) (a : Int), 0 ≤ a → chk (esc (List.replicate k 41 ++ r) i false) a = if a - k < 0 then false else chk (esc r (i + k) false) (a - k)
  | 0, i, a, ha => by simp; omega
  | k + 1, i, a, ha => by
    rw [List.replicate_succ, List.cons_append, esc, if_neg (by simp), if_neg (by decide), chk, if_neg (by decide), if_pos rfl]
    by_cases h : a - 1 < 0
    · rw [if_pos h, if_pos (by omega)]
    · rw [if_neg h, chk_close r k (i + 1) (a - 1) (by omega)]
      have e1 : a - 1 - (k : Int) = a - ((k + 1 : Nat) : Int) := by omega
      rw [e1, show i + 1 + k = i + (k + 1) by omega]
theorem chk_bal (op cl : Nat) : ∀ (ps : List Pc) (i : Nat) (a : Int), (∀ x ∈ ps, x.kind = 0 ∨ x.kind = 1) → 0 ≤ a → chk (esc (ps.flatMap (brk op cl)) i false) a = balK op cl (ps.map (·.kind)) a
  | [], i, a, _, _ => by simp [esc, chk, balK]
  | x :: ps, i, a, h, ha => by
    rw [List.flatMap_cons, List.map_cons, balK]
    rcases h x (.head _) with hk | hk
    · unfold brk stepH
      rw [if_neg (by omega), if_pos hk, if_neg (by omega), chk_open]
      exact chk_bal op cl ps _ _ (fun y hy => h y (.tail _ hy)) (by omega)
    · rw [show brk op cl x = List.replicate op 41 from by unfold brk; rw [if_pos hk], show stepH op cl x.kind = -(op : Int) from by unfold stepH; rw [if_neg (by omega)], chk_close _ _ _ _ ha]
      by_cases hn : a - op < 0
      · rw [if_pos hn, if_pos (by omega)]
      · rw [if_neg hn, if_neg (by omega), show a + -(op : Int) = a - op by omega]
        exact chk_bal op cl ps _ _ (fun y hy => h y (.tail _ hy)) (by omega)
theorem brk_len {op cl : Nat} (ho : op ≤ 8) (hc : cl ≤ 8) : ∀ ps : List Pc, (ps.flatMap (brk op cl)).length ≤ 8 * ps.length
  | [] => by simp
  | x :: ps => by
    have ih := brk_len ho hc ps
    rw [List.flatMap_cons, List.length_append, List.length_cons]
    have : (brk op cl x).length ≤ 8 := by unfold brk; split <;> simpa
    omega
theorem txt_ok {op cl : Nat} (hp : (op, cl) ∈ PAIRS) : TxtOk op cl := fun ps hps hl => by
  have h := pairs_small _ hp
  dsimp only at h
  have e := strip_brk op cl ps fun x hx => (hps x hx).1
  refine ⟨?_, ?_⟩
  · unfold chkS
    rw [e]
    exact chk_bal op cl ps 0 0 (fun x hx => (hps x hx).2) (Int.le_refl _)
  · rw [e, T_len]
    have := brk_len (op := op) (cl := cl) (by omega) (by omega) ps
    omega
end Mine
end

noncomputable section
open PySem PySem.Builtin PySem.Builtin.Str PySem.W PySem.Calls PyProof.Rows
set_option Elab.async false
set_option maxRecDepth 100000
set_option linter.unusedVariables false
set_option maxHeartbeats 2000000
namespace Mine
/- where a text stands in another, by lists -/
def isPre : List Nat → List Nat → Bool
  | [], _ => true
  | _ :: _, [] => false
  | a :: s, b :: l => a == b && isPre s l
theorem isPre_take : ∀ s l : List Nat, isPre s l = (l.take s.length == s)
  | [], l => by simp [isPre]
  | a :: s, [] => by simp [isPre]
  | a :: s, b :: l => by
    rw [isPre, isPre_take s l, List.length_cons, List.take_succ_cons, List.cons_beq_cons, Bool.beq_comm (a := a)]
theorem isPre_len : ∀ {s l : List Nat}, isPre s l = true → s.length ≤ l.length
  | [], l, _ => Nat.zero_le _
  | a :: s, [], h => by cases h
  | a :: s, b :: l, h => Nat.succ_le_succ (isPre_len (Bool.and_eq_true_iff.mp h).2)
def scan (s : List Nat) : List Nat → Nat → Nat → List Nat
  | [], _, _ => []
  | c :: r, i, free => if free ≤ i ∧ isPre s (c :: r) = true then i :: scan s r (i + 1) (i + s.length) else scan s r (i + 1) free
theorem occ_go (l s : List Nat) (hs : s ≠ []) (limit : Nat) : ∀ (rest : List Nat) (i : Nat) (st : Array Nat × Nat), l.drop i = rest → i ≤ l.length →
    (forIn (List.range' i (rest.length + 1)) st (StrLaws.occBody (T l) (T s) l.length limit)).run.fst.toList = st.fst.toList ++ (scan s rest i st.snd).take (limit - st.fst.size)
  | [], i, st, hr, hi => by
    have hlen : l.length ≤ i := List.drop_eq_nil_iff.mp hr
    have h0 : 0 < s.length := List.length_pos_iff.mpr hs
    rw [List.length_nil, List.range'_succ, List.forIn_cons]
    unfold StrLaws.occBody
    rw [T_len, if_neg (fun h => by have := h.1.2; omega)]
    simp [scan]
  | c :: r, i, st, hr, hi => by
    have hl : (c :: r).length = l.length - i := by rw [← hr, List.length_drop]
    rw [List.length_cons] at hl
    have hr' : l.drop (i + 1) = r := by rw [← List.drop_drop, hr]; rfl
    have hsub : StrLaws.occBody (T l) (T s) l.length limit i st = if (st.fst.size < limit ∧ st.snd ≤ i) ∧ isPre s (c :: r) = true then pure (ForInStep.yield (st.fst.push i, i + s.length)) else pure (ForInStep.yield (st.fst, st.snd)) := by
      unfold StrLaws.occBody
      rw [StrLaws.subAt_eq, T_len]
      have e : (((T l).cps.toList.drop i).take s.length == (T s).cps.toList) = isPre s (c :: r) := by
        rw [isPre_take, ← hr]
      rw [e]
      by_cases h : isPre s (c :: r) = true
      · have := isPre_len h
        rw [List.length_cons] at this
        by_cases h2 : st.fst.size < limit ∧ st.snd ≤ i
        · rw [if_pos ⟨⟨h2, by omega⟩, h⟩, if_pos ⟨h2, h⟩]
        · rw [if_neg (fun q => h2 q.1.1), if_neg (fun q => h2 q.1)]
      · rw [if_neg (fun q => h q.2), if_neg (fun q => h q.2)]
    rw [List.length_cons, List.range'_succ, List.forIn_cons, hsub]
    unfold scan
    by_cases h : st.snd ≤ i ∧ isPre s (c :: r) = true
    · rw [if_pos h]
      by_cases h2 : st.fst.size < limit
      · rw [if_pos ⟨⟨h2, h.1⟩, h.2⟩]
        have ih := occ_go l s hs limit r (i + 1) (st.fst.push i, i + s.length) hr' (by omega)
        refine ih.trans ?_
        dsimp only
        rw [Array.size_push, Array.toList_push, List.append_assoc, show limit - st.fst.size = (limit - (st.fst.size + 1)) + 1 from (Nat.sub_add_cancel (Nat.sub_pos_of_lt h2)).symm, List.take_succ_cons]
        rfl
      · rw [if_neg (fun q => h2 q.1.1)]
        have ih := occ_go l s hs limit r (i + 1) st hr' (by omega)
        refine ih.trans ?_
        rw [show limit - st.fst.size = 0 by omega]
        simp
    · rw [if_neg h, if_neg (fun q => h ⟨q.1.2, q.2⟩)]
      exact occ_go l s hs limit r (i + 1) st hr' (by omega)
theorem occ_T {l s : List Nat} (hs : s ≠ []) {lo limit : Nat} (h : lo ≤ l.length) : occurrences (T l) (T s) lo (T l).length limit = (scan s (l.drop lo) lo lo).take limit := by
  rw [StrLaws.occ_eq, T_len, show l.length + 1 - lo = (l.drop lo).length + 1 by rw [List.length_drop]; exact Nat.sub_add_comm h]
  refine (occ_go l s hs limit (l.drop lo) lo (#[], lo) rfl h).trans ?_
  simp
theorem scan_len (s : List Nat) : ∀ (r : List Nat) (i free : Nat), (scan s r i free).length ≤ r.length
  | [], _, _ => Nat.le_refl _
  | c :: r, i, free => by
    unfold scan
    split
    · exact Nat.succ_le_succ (scan_len s r _ _)
    · exact Nat.le_succ_of_le (scan_len s r _ _)
theorem scan_lt (s : List Nat) : ∀ (r : List Nat) (i free : Nat), ∀ k ∈ scan s r i free, i ≤ k ∧ k < i + r.length
  | [], _, _, k, h => by cases h
  | c :: r, i, free, k, h => by
    unfold scan at h
    rw [List.length_cons]
    split at h
    · rcases List.mem_cons.mp h with rfl | h
      · omega
      · have := scan_lt s r _ _ k h
        omega
    · have := scan_lt s r _ _ k h
      omega
theorem scan_skip {a : Nat} {s' : List Nat} : ∀ (D B : List Nat) (i free : Nat), a ∉ D → scan (a :: s') (D ++ B) i free = scan (a :: s') B (i + D.length) free
  | [], B, i, free, _ => rfl
  | c :: D, B, i, free, h => by
    have h1 : a ≠ c := fun e => h (e ▸ .head _)
    rw [List.cons_append, scan, if_neg (fun q => by
      have := (Bool.and_eq_true_iff.mp q.2).1
      exact h1 (beq_iff_eq.mp this)), scan_skip D B _ _ (fun q => h (.tail _ q)), List.length_cons, show i + 1 + D.length = i + (D.length + 1) by omega]
/-- the parts between -/
def sp (s : List Nat) : List Nat → Nat → List Nat → List (List Nat)
  | [], _, acc => [acc]
  | c :: r, 0, acc => if isPre s (c :: r) = true then acc :: sp s r (s.length - 1) [] else sp s r 0 (acc ++ [c])
  | _ :: r, k + 1, acc => sp s r k acc
theorem sp_skip {a : Nat} {s' : List Nat} : ∀ (D B acc : List Nat), a ∉ D → sp (a :: s') (D ++ B) 0 acc = sp (a :: s') B 0 (acc ++ D)
  | [], B, acc, _ => by simp
  | c :: D, B, acc, h => by
    have h1 : a ≠ c := fun e => h (e ▸ .head _)
    rw [List.cons_append, sp, if_neg (fun q => by
      have := (Bool.and_eq_true_iff.mp q).1
      exact h1 (beq_iff_eq.mp this)), sp_skip D B _ (fun q => h (.tail _ q)), List.append_assoc]
    rfl
def cutsGo (l : List Nat) (w : Nat) : Nat → List Nat → List Str
  | st, [] => [strSub (T l) st l.length]
  | st, c :: cs => strSub (T l) st c :: cutsGo l w (c + w) cs
theorem parts_go (l : List Nat) (w : Nat) : ∀ (cuts : List Nat) (st : Nat), ((st :: cuts.map (· + w)).zip (cuts ++ [(T l).length])).map (fun p => strSub (T l) p.1 p.2) = cutsGo l w st cuts
  | [], st => by simp [cutsGo]; rfl
  | c :: cs, st => by
    have ih := parts_go l w cs (c + w)
    rw [List.map_cons, List.cons_append, List.zip_cons_cons, List.map_cons, ih]
    rfl
theorem parts_eq (l : List Nat) (w : Nat) (cuts : List Nat) : partsBetween (T l) cuts w = cutsGo l w 0 cuts := parts_go l w cuts 0
theorem strSub_T (l : List Nat) (i j : Nat) : strSub (T l) i j = T ((l.drop i).take (j - i)) := by
  refine Str.ext' (Array.ext' ?_)
  rw [StrLaws.strSub_toList]
theorem sp_go (l s : List Nat) (hs : s ≠ []) : ∀ (rest pre : List Nat) (st : Nat), l = pre ++ rest → (st ≤ pre.length ∨ pre.length < st) → cutsGo l s.length st (scan s rest pre.length st) = (sp s rest (st - pre.length) (pre.drop st)).map T
  | [], pre, st, hl, _ => by
    rw [List.append_nil] at hl
    subst hl
    rw [scan, sp, cutsGo, strSub_T, List.take_of_length_le (by simp)]
    rfl
  | c :: r, pre, st, hl, hst => by
    have h0 : 0 < s.length := List.length_pos_iff.mpr hs
    have hl' : l = (pre ++ [c]) ++ r := by rw [hl]; simp
    have hpl : (pre ++ [c]).length = pre.length + 1 := by simp
    by_cases h1 : st ≤ pre.length
    · rw [show st - pre.length = 0 by omega]
      unfold scan sp
      by_cases h2 : isPre s (c :: r) = true
      · rw [if_pos ⟨h1, h2⟩, if_pos h2, cutsGo, List.map_cons, strSub_T]
        have ih := sp_go l s hs r (pre ++ [c]) (pre.length + s.length) hl' (by omega)
        rw [hpl] at ih
        rw [ih]
        congr 1
        · congr 1
          rw [hl, List.drop_append_of_le_length h1, List.take_append_of_le_length (by simp), List.take_of_length_le (by simp)]
        · rw [List.drop_of_length_le (by rw [hpl]; omega), show pre.length + s.length - (pre.length + 1) = s.length - 1 from Nat.add_sub_add_left ..]
      · rw [if_neg (fun q => h2 q.2), if_neg h2]
        have ih := sp_go l s hs r (pre ++ [c]) st hl' (by omega)
        rw [hpl] at ih
        rw [ih, show st - (pre.length + 1) = 0 by omega, List.drop_append_of_le_length h1]
    · rw [show st - pre.length = (st - pre.length - 1) + 1 from (Nat.sub_add_cancel (Nat.sub_pos_of_lt (Nat.lt_of_not_le h1))).symm]
      unfold scan sp
      rw [if_neg (fun q => h1 q.1)]
      have ih := sp_go l s hs r (pre ++ [c]) st hl' (by omega)
      rw [hpl] at ih
      rw [ih, show st - (pre.length + 1) = st - pre.length - 1 by omega, List.drop_of_length_le (by rw [hpl]; omega), List.drop_of_length_le (by omega)]
theorem sp_parts {l s : List Nat} (hs : s ≠ []) : partsBetween (T l) (scan s l 0 0) s.length = (sp s l 0 []).map T := by
  rw [parts_eq]
  exact sp_go l s hs l [] 0 rfl (.inl (Nat.zero_le _))
theorem occ_all {l s : List Nat} (hs : s ≠ []) : occurrences (T l) (T s) 0 (T l).length ((T l).length + 1) = scan s l 0 0 := by
  rw [occ_T hs (Nat.zero_le _), List.drop_zero, List.take_of_length_le]
  rw [T_len]
  exact Nat.le_succ_of_le (scan_len s l 0 0)
theorem sp_none {l s : List Nat} (hs : s ≠ []) (h : scan s l 0 0 = []) : (sp s l 0 []).map T = [T l] := by
  rw [← sp_parts hs, h, parts_eq, cutsGo, strSub_T, List.drop_zero, List.take_of_length_le (by simp)]
theorem find_T {l s : List Nat} (hs : s ≠ []) : Txt.find (T l) (T s) = match scan s l 0 0 with | i :: _ => (i : Int) | [] => -1 := by
  unfold Txt.find
  rw [occ_T hs (Nat.zero_le _), List.drop_zero]
  cases scan s l 0 0 <;> rfl
theorem find3_T {l s : List Nat} (hs : s ≠ []) {k : Nat} (hk : k ≤ l.length) : Txt.find3 (T l) (T s) (k : Int) = match scan s (l.drop k) k k with | i :: _ => (i : Int) | [] => -1 := by
  unfold Txt.find3
  have e : fromIndex (T l).length (k : Int) = k := by unfold fromIndex; rw [if_neg (by omega)]; omega
  rw [e, occ_T hs hk]
  cases scan s (l.drop k) k k <;> rfl
theorem strKind_pos (x : Str) : 1 ≤ PySem.Builtin.Str.strKind x := by unfold PySem.Builtin.Str.strKind; split <;> (try split) <;> decide
theorem split_T {l : List Nat} {a : Nat} (ha : a < 256) : Txt.split (T l) (T [a]) = (sp [a] l 0 []).map T := by
  unfold Txt.split
  have hk : PySem.Builtin.Str.strKind (T [a]) = 1 := by unfold PySem.Builtin.Str.strKind; rw [if_pos (by simpa using ha)]
  have hk2 := strKind_pos (T l)
  have hs : [a] ≠ [] := by simp
  by_cases h1 : (decide ((T l).length < (T [a]).length) || decide (PySem.Builtin.Str.strKind (T l) < PySem.Builtin.Str.strKind (T [a]))) = true
  · rw [if_pos h1]
    rw [hk, T_len, T_len] at h1
    simp only [Bool.or_eq_true, decide_eq_true_eq, List.length_cons, List.length_nil] at h1
    have : l = [] := List.eq_nil_of_length_eq_zero (by omega)
    subst this
    rfl
  · rw [if_neg h1, occ_all hs]
    by_cases h2 : scan [a] l 0 0 = []
    · rw [h2, sp_none hs h2]; rfl
    · rw [if_neg (by simpa using h2), T_len, sp_parts hs]
def joinL (z : List Nat) : List (List Nat) → List Nat
  | [] => []
  | p :: r => p ++ r.flatMap (z ++ ·)
theorem glued_go (z : List Nat) : ∀ (r : List (List Nat)) (acc : Array Nat), ((r.map T).foldl (fun acc p => acc ++ (T z).cps ++ p.cps) acc).toList = acc.toList ++ r.flatMap (z ++ ·)
  | [], acc => by simp
  | p :: r, acc => by
    rw [List.map_cons, List.foldl_cons, glued_go z r]
    simp
theorem glued_T (z : List Nat) (ps : List (List Nat)) : glued (T z) (ps.map T) = T (joinL z ps) := by
  cases ps with
  | nil => rfl
  | cons p r =>
    refine Str.ext' (Array.ext' ?_)
    unfold glued
    rw [List.map_cons, List.drop_succ_cons, List.drop_zero]
    refine (glued_go z r _).trans ?_
    simp [joinL]
theorem replace_T {l s z : List Nat} (hs : s ≠ []) : Txt.replace (T l) (T s) (T z) = T (joinL z (sp s l 0 [])) := by
  unfold Txt.replace
  rw [occ_all hs]
  have h0 : ((T s).length == 0) = false := by
    rw [T_len]
    exact beq_eq_false_iff_ne.mpr fun q => hs (List.eq_nil_of_length_eq_zero q)
  rw [h0, Bool.false_and, Bool.or_false]
  by_cases h2 : scan s l 0 0 = []
  · rw [if_pos (by rw [h2]; rfl), ← glued_T, sp_none hs h2]
    rfl
  · rw [if_neg (by simpa using h2), T_len, sp_parts hs, glued_T]
end Mine
end

noncomputable section
open PySem PySem.Builtin PySem.Builtin.Str PySem.W PySem.Calls PyProof.Rows PySem.NumText
set_option Elab.async false
set_option maxRecDepth 100000
set_option linter.unusedVariables false
set_option maxHeartbeats 2000000
namespace Mine
theorem head_T (l : List Nat) (h : 3 ≤ l.length) : Txt.slice (T l) none (some 3) = T (l.take 3) := by
  have := StrLaws.sliceText_to (x := T l) (j := 3) ⟨by decide, by simp; omega⟩
  exact this
theorem cut_T (l : List Nat) {a b : Nat} (hab : a ≤ b) (hb : b ≤ l.length) : Txt.slice (T l) (some (a : Int)) (some (b : Int)) = T ((l.drop a).take (b - a)) :=
  StrLaws.sliceText_nat (T l) hab (by rw [T_len]; exact hb)
theorem tail_T (l : List Nat) {a : Nat} (ha : a ≤ l.length) : Txt.slice (T l) (some (a : Int)) none = T (l.drop a) := by
  unfold Txt.slice
  rw [StrLaws.sliceIdx_none_hi]
  have := cut_T l (a := a) (b := (T l).length) (by rw [T_len]; exact ha) (by rw [T_len]; exact Nat.le_refl _)
  unfold Txt.slice at this
  rw [this, T_len, List.take_of_length_le (by simp)]
theorem bne_T (a b : List Nat) : (T a != T b) = decide (a ≠ b) := by
  by_cases h : a = b
  · subst h; simp
  · have : T a ≠ T b := fun q => h (by have := congrArg (fun x : Str => x.cps.toList) q; simpa using this)
    rw [bne_iff_ne.mpr this, decide_eq_true h]
theorem q229 : Str.ofString "229" = T [50, 50, 57] := by decide +kernel
theorem qT40 : Str.ofString "(" = T [40] := by decide +kernel
theorem qT41 : Str.ofString ")" = T [41] := by decide +kernel
theorem getD_T {ps : List (List Nat)} {k : Nat} (h : k < ps.length) : (ps.map T).getD k Str.empty = T (ps.getD k []) := by
  rw [List.getD_eq_getElem?_getD, List.getD_eq_getElem?_getD, List.getElem?_map, List.getElem?_eq_getElem h]
  rfl
/-- part229, by lists -/
def partL (l : List Nat) : Option Bool × List Nat :=
  if l.take 3 ≠ [50, 50, 57] then (some true, l) else
  match scan [40] l 0 0 with
  | [] => (some false, l)
  | i :: _ => match scan [41] (l.drop (i + 1)) (i + 1) (i + 1) with
    | [] => (some false, l)
    | j :: _ => if l.getD (i + 1) 0 ≠ l.getD (j - 1) 0 then (some false, l) else
      if (sp [l.getD (i + 1) 0] ((l.drop (i + 1)).take (j - (i + 1))) 0 []).length = 5 then (none, (sp [l.getD (i + 1) 0] ((l.drop (i + 1)).take (j - (i + 1))) 0 []).getD 3 []) else (some false, l)
theorem part_T {l : List Nat} (h3 : 3 ≤ l.length) (ha : ∀ c ∈ l, c < 256) : part229 (T l) = ((partL l).1, T (partL l).2) := by
  unfold part229 partL
  rw [head_T l h3, q229, bne_T, qT40, qT41, find_T (by simp)]
  by_cases h1 : l.take 3 ≠ [50, 50, 57]
  · rw [if_pos (decide_eq_true h1), if_pos h1]
  rw [if_neg (by simpa using h1), if_neg h1]
  dsimp only
  rcases hs : scan [40] l 0 0 with _ | ⟨i, is⟩
  · rw [if_pos (by decide)]
  have hi := scan_lt [40] l 0 0 i (by rw [hs]; exact .head _)
  dsimp only
  rw [if_neg (by omega), show (i : Int) + 1 = ((i + 1 : Nat) : Int) by omega, find3_T (by simp) (by omega)]
  rcases ht : scan [41] (l.drop (i + 1)) (i + 1) (i + 1) with _ | ⟨j, js⟩
  · rw [if_pos (by decide)]
  have hj := scan_lt [41] (l.drop (i + 1)) (i + 1) (i + 1) j (by rw [ht]; exact .head _)
  rw [List.length_drop] at hj
  dsimp only
  rw [if_neg (by omega), show ((i + 1 : Nat) : Int).toNat = i + 1 by omega, show ((j : Int) - 1).toNat = j - 1 from Int.toNat_sub j 1]
  have eD : ∀ k, (T l).cps.getD k 0 = l.getD k 0 := fun k => by
    rw [Array.getD_eq_getD_getElem?, List.getD_eq_getElem?_getD]
    simp
  rw [eD, eD]
  have e1 : ((⟨#[l.getD (i + 1) 0]⟩ : Str) != ⟨#[l.getD (j - 1) 0]⟩) = decide (l.getD (i + 1) 0 ≠ l.getD (j - 1) 0) := by
    refine (bne_T [l.getD (i + 1) 0] [l.getD (j - 1) 0]).trans ?_
    simp
  rw [e1]
  by_cases h4 : l.getD (i + 1) 0 ≠ l.getD (j - 1) 0
  · rw [if_pos (decide_eq_true h4), if_pos h4]
  rw [if_neg (by simpa using h4), if_neg h4]
  have hlt : l.getD (i + 1) 0 < 256 := by
    rw [List.getD_eq_getElem?_getD, List.getElem?_eq_getElem (by omega)]
    exact ha _ (List.getElem_mem _)
  rw [cut_T l (by omega) (by omega), show (⟨#[l.getD (i + 1) 0]⟩ : Str) = T [l.getD (i + 1) 0] from rfl, split_T hlt, List.length_map]
  split
  · rename_i h5
    rw [getD_T (by omega)]
  · rfl
/-- the port's signs -/
structure Dig (D : List Nat) : Prop where
  ne : D ≠ []
  ok : ∀ c ∈ D, c = 45 ∨ (48 ≤ c ∧ c ≤ 57)
  len : D.length ≤ 12
def rl (mk : Nat) (D : List Nat) : List Nat := 50 :: 50 :: 57 :: 32 :: 111 :: 107 :: 32 :: 40 :: mk :: 50 :: mk :: 104 :: mk :: (D ++ [mk, 41, 32, 103, 111])
theorem reply_T {mk : Nat} {port : Int} {D : List Nat} (hD : Str.ofString (toString port) = T D) : replyS mk port = T (rl mk D) := by
  unfold replyS
  rw [hD, show Str.ofString "229 ok (" = T [50, 50, 57, 32, 111, 107, 32, 40] by decide +kernel, show Str.ofString "2" = T [50] by decide +kernel, show Str.ofString "h" = T [104] by decide +kernel, show Str.ofString ") go" = T [41, 32, 103, 111] by decide +kernel]
  simp only [T_append]
  unfold rl
  simp
theorem dig_port {port : Int} (h : port.natAbs ≤ 600000) : ∃ D, Dig D ∧ Str.ofString (toString port) = T D ∧ PySem.intText? (T D) = some port := by
  have key : ∀ m : Nat, m ≤ 600000 → AllDigits ((Nat.toDigits 10 m).map Char.toNat) ∧ (Nat.toDigits 10 m).map Char.toNat ≠ [] ∧ ((Nat.toDigits 10 m).map Char.toNat).length ≤ 10 ∧ Str.ofString (toString ((m : Nat) : Int)) = T ((Nat.toDigits 10 m).map Char.toNat) := fun m hm => by
    have e := KIN.signs_num m
    have hT : Str.ofString (toString ((m : Nat) : Int)) = T ((Nat.toDigits 10 m).map Char.toNat) := Str.ext' (Array.ext' (by rw [e]))
    refine ⟨fun c hc => ?_, fun q => ?_, ?_, hT⟩
    · obtain ⟨ch, hch, rfl⟩ := List.mem_map.mp hc
      exact digit_range (Nat.isDigit_of_mem_toDigits (by decide) (by decide) hch)
    · have h := toDigits_len_ge 10 m
      rw [List.map_eq_nil_iff.mp q] at h
      exact absurd h (by decide)
    · have := KT.len_num (n := (m : Int)) (by omega) (by omega)
      rw [hT, T_len] at this
      exact this
  have hpos : ∀ m : Nat, m ≤ 600000 → PySem.intText? (T ((Nat.toDigits 10 m).map Char.toNat)) = some (m : Int) := fun m hm => by
    rw [← (key m hm).2.2.2]
    exact KIN.num_reads (by omega) (by omega)
  rcases Int.le_total 0 port with h0 | h0
  · obtain ⟨m, rfl⟩ := Int.eq_ofNat_of_zero_le h0
    obtain ⟨k1, k2, k3, k4⟩ := key m (by omega)
    exact ⟨_, ⟨k2, fun c hc => .inr (k1 c hc), by omega⟩, k4, hpos m (by omega)⟩
  · obtain ⟨m, rfl⟩ : ∃ m : Nat, port = -(m : Int) := ⟨port.natAbs, by omega⟩
    by_cases hm : m = 0
    · subst hm
      obtain ⟨k1, k2, k3, k4⟩ := key 0 (by omega)
      exact ⟨_, ⟨k2, fun c hc => .inr (k1 c hc), by omega⟩, k4, hpos 0 (by omega)⟩
    · obtain ⟨k1, k2, k3, k4⟩ := key m (by omega)
      have e : Str.ofString (toString (-(m : Int))) = T (45 :: (Nat.toDigits 10 m).map Char.toNat) := by
        refine Str.ext' (Array.ext' ?_)
        rw [signs_ofString]
        have e2 : toString (-(m : Int)) = "-" ++ Nat.repr m := by
          obtain ⟨q, rfl⟩ : ∃ q, m = q + 1 := ⟨m - 1, by omega⟩
          rfl
        rw [e2]
        have e3 : ("-" ++ Nat.repr m).toList = '-' :: (Nat.repr m).toList := by
          rw [String.toList_append]; rfl
        rw [e3, Nat.toList_repr]
        rfl
      refine ⟨_, ⟨by simp, fun c hc => ?_, by rw [List.length_cons]; omega⟩, e, ?_⟩
      · rcases List.mem_cons.mp hc with rfl | hc
        · exact .inl rfl
        · exact .inr (k1 c hc)
      · rw [intText_neg (x := T (45 :: (Nat.toDigits 10 m).map Char.toNat)) rfl k1 k2 (by rw [T_len, List.length_cons]; omega), KIN.val_back]
end Mine
end

noncomputable section
open PySem PySem.Builtin PySem.Builtin.Str PySem.W PySem.Calls PyProof.Rows PySem.NumText
set_option Elab.async false
set_option maxRecDepth 100000
set_option linter.unusedVariables false
set_option maxHeartbeats 2000000
namespace Mine
theorem scan_none {a : Nat} {s' l : List Nat} {i free : Nat} (h : a ∉ l) : scan (a :: s') l i free = [] := by
  have := scan_skip (s' := s') l [] i free h
  rw [List.append_nil] at this
  rw [this, scan]
theorem isPre_41 {D B : List Nat} (h0 : D ≠ []) (h : 41 ∉ D) : isPre [41] (D ++ B) = false := by
  cases D with
  | nil => exact absurd rfl h0
  | cons c r =>
    have : (41 : Nat) ≠ c := fun e => h (e ▸ .head _)
    rw [List.cons_append, isPre, beq_eq_false_iff_ne.mpr this, Bool.false_and]
theorem take_D (D r : List Nat) (k : Nat) : (D ++ k :: r).take (D.length + 1) = D ++ [k] := by
  rw [List.take_append, List.take_of_length_le (by omega), show D.length + 1 - D.length = 1 by omega]
  rfl
theorem scan_hit {a : Nat} {r : List Nat} {i free : Nat} (h : free ≤ i) : scan [a] (a :: r) i free = i :: scan [a] r (i + 1) (i + 1) := by
  rw [scan, if_pos ⟨h, by rw [isPre, beq_self_eq_true]; rfl⟩]
  rfl
theorem sp_hit {a : Nat} {r acc : List Nat} : sp [a] (a :: r) 0 acc = acc :: sp [a] r 0 [] := by
  rw [sp, if_pos (by rw [isPre, beq_self_eq_true]; rfl)]
  rfl
theorem sp_end {a : Nat} {l acc : List Nat} (h : a ∉ l) : sp [a] l 0 acc = [acc ++ l] := by
  have := sp_skip (s' := []) l [] acc h
  rw [List.append_nil] at this
  rw [this, sp]
theorem sp_no {s r acc : List Nat} {c : Nat} (h : isPre s (c :: r) = false) : sp s (c :: r) 0 acc = sp s r 0 (acc ++ [c]) := by
  rw [sp, if_neg (by rw [h]; exact Bool.false_ne_true)]
/-- a reply's text from its parts -/
def PQ (way mk : Nat) : List Nat × List Nat :=
  if way = 0 then ([50, 50, 55, 32, 111, 107, 32, 40, mk, 50, mk, 104, mk], [mk, 41, 32, 103, 111])
  else if way = 1 then ([50, 50, 57, 32, 111, 107, 32, 40, mk, 50, mk, 104, mk], [120, mk, 41, 32, 103, 111])
  else if way = 2 then ([50, 50, 57, 32, 111, 107, 32, 60, mk, 50, mk, 104, mk], [mk, 41, 32, 103, 111])
  else if way = 3 then ([50, 50, 57, 32, 111, 107, 32, 40, mk, 50, mk, 104, mk], [mk, 62, 32, 103, 111])
  else if way = 4 then ([50, 50, 57, 32, 111, 107, 32, 40, mk, 50, mk, 104, mk], [41, 32, 103, 111])
  else ([50, 50, 57, 32, 111, 107, 32, 40, mk, 50, mk, mk, mk], [mk, 41, 32, 103, 111])
def SL (way mk : Nat) (D : List Nat) : List Nat := (PQ way mk).1 ++ (D ++ (PQ way mk).2)
theorem pq_ok : ∀ mk ∈ markL, ∀ way, way < 6 → (∀ c ∈ (PQ way mk).1 ++ (PQ way mk).2, c < 256) ∧ (PQ way mk).1.length = 13 ∧ (PQ way mk).2.length ≤ 6 := by decide
theorem mk_ok : ∀ mk ∈ markL, mk ≠ 40 ∧ mk ≠ 41 ∧ mk ≠ 104 ∧ mk ≠ 50 ∧ mk ≠ 120 ∧ mk ≠ 45 ∧ (mk < 48 ∨ 57 < mk) ∧ mk ≠ 62 := by decide
theorem pre_40 : ∀ mk ∈ markL, 40 ∉ [mk, 50, mk, 104, mk] ∧ 41 ∉ [mk, 50, mk, 104, mk] ∧ 40 ∉ [mk, 41, 32, 103, 111] ∧ mk ∉ [50, 50, 57, 32, 111, 107, 32, 40] ∧ 104 ∉ [50, 50, 57, 32, 111, 107, 32, 40, mk, 50, mk] ∧ 104 ∉ [mk, 41, 32, 103, 111] ∧ 41 ∉ [50, 50, 57, 32, 111, 107, 32, 40, mk, 50, mk, 104, mk] ∧
  41 ∉ [mk, 62, 32, 103, 111] ∧ 41 ∉ [mk] ∧ mk ∉ [32, 103, 111] ∧ mk ∉ [50] ∧ mk ∉ [104] ∧ 40 ∉ [50, 50, 57, 32, 111, 107, 32, 60, mk, 50, mk, 104, mk] ∧ 41 ∉ [mk, 50, mk, mk, mk] := by decide
section
variable {mk : Nat} {D : List Nat}
theorem Dig.no (d : Dig D) {c : Nat} (h : c ≠ 45 ∧ (c < 48 ∨ 57 < c)) : c ∉ D := fun q => by have := d.ok c q; omega
theorem mark_no (d : Dig D) (hm : mk ∈ markL) : mk ∉ D := d.no ⟨(mk_ok mk hm).2.2.2.2.2.1, (mk_ok mk hm).2.2.2.2.2.2.1⟩
/-- the first round bracket -/
theorem head7 (B : List Nat) : scan [40] (50 :: 50 :: 57 :: 32 :: 111 :: 107 :: 32 :: 40 :: B) 0 0 = 7 :: scan [40] B 8 8 :=
  (scan_skip (s' := []) [50, 50, 57, 32, 111, 107, 32] (40 :: B) 0 0 (by decide)).trans (scan_hit (Nat.zero_le _))
/-- the parts between the marks -/
theorem sp_parts5 {x y : Nat} (hx : mk ≠ x) (hy : mk ≠ y) (h1 : mk ∉ D) : sp [mk] (mk :: x :: mk :: y :: mk :: (D ++ [mk])) 0 [] = [[], [x], [y], D, []] := by
  rw [sp_hit, sp_no (c := x) (by rw [isPre, beq_eq_false_iff_ne.mpr hx]; rfl), sp_hit, sp_no (c := y) (by rw [isPre, beq_eq_false_iff_ne.mpr hy]; rfl), sp_hit, sp_skip _ _ _ h1, sp_hit, sp]
  rfl
theorem sp_parts6 {x : Nat} (hx : mk ≠ x) (h1 : mk ∉ D) : sp [mk] (mk :: x :: mk :: mk :: mk :: (D ++ [mk])) 0 [] = [[], [x], [], [], D, []] := by
  rw [sp_hit, sp_no (c := x) (by rw [isPre, beq_eq_false_iff_ne.mpr hx]; rfl), sp_hit, sp_hit, sp_hit, sp_skip _ _ _ h1, sp_hit, sp]
  rfl
/-- where the closing bracket stands -/
theorem scan_41 {p : List Nat} (hp : 41 ∉ p) (hpl : p.length = 5) (h1 : 41 ∉ D) (hm : mk ≠ 41) (r : List Nat) : ∃ r', scan [41] (p ++ (D ++ mk :: 41 :: r)) 8 8 = (14 + D.length) :: r' := by
  have e := scan_skip (s' := []) [mk] (41 :: r) (8 + p.length + D.length) 8 (by simpa using Ne.symm hm)
  rw [scan_skip _ _ _ _ hp, scan_skip _ _ _ _ h1]
  refine ⟨_, e.trans ((scan_hit (by omega)).trans (congrArg (· :: _) ?_))⟩
  rw [hpl]
  simp
  omega
theorem get_mk {p q : List Nat} (hp : p.length = 13) : (p ++ (D ++ mk :: q)).getD (13 + D.length) 0 = mk := by
  rw [List.getD_eq_getElem?_getD, List.getElem?_append_right (by omega), hp, List.getElem?_append_right (by omega), show 13 + D.length - 13 - D.length = 0 by omega]
  rfl
theorem cut_D {a b d e f : Nat} (q : List Nat) : ((a :: b :: d :: e :: f :: (D ++ mk :: q))).take (14 + D.length - 8) = a :: b :: d :: e :: f :: (D ++ [mk]) := by
  rw [show 14 + D.length - 8 = (D.length + 1) + 5 by omega]
  simp only [List.take_succ_cons, take_D]
/-- what the good reply and the one without a number have in common -/
theorem part_good (hm : mk ∈ markL) (h1 : mk ∉ D) (h2 : 41 ∉ D) : partL (rl mk D) = (none, D) := by
  obtain ⟨_, n41, n104, n50, _⟩ := mk_ok mk hm
  obtain ⟨_, p41, _⟩ := pre_40 mk hm
  obtain ⟨r2, hs2⟩ := scan_41 (D := D) p41 rfl h2 n41 [32, 103, 111]
  have hs2 : scan [41] ((rl mk D).drop 8) 8 8 = (14 + D.length) :: r2 := hs2
  have hg2 : (rl mk D).getD (13 + D.length) 0 = mk := get_mk (p := [50, 50, 57, 32, 111, 107, 32, 40, mk, 50, mk, 104, mk]) rfl
  have hsl : ((rl mk D).drop 8).take (14 + D.length - 8) = mk :: 50 :: mk :: 104 :: mk :: (D ++ [mk]) := cut_D _
  unfold partL
  rw [if_neg (by simp [rl]), show scan [40] (rl mk D) 0 0 = _ from head7 _]
  dsimp only
  rw [hs2]
  dsimp only
  rw [show (rl mk D).getD 8 0 = mk from rfl, show 14 + D.length - 1 = 13 + D.length by omega, hg2, if_neg (by simp), hsl, sp_parts5 n50 n104 h1]
  rfl
theorem sp_40 (d : Dig D) (hm : mk ∈ markL) : sp [40] (rl mk D) 0 [] = [[50, 50, 57, 32, 111, 107, 32], mk :: 50 :: mk :: 104 :: mk :: (D ++ [mk, 41, 32, 103, 111])] := by
  obtain ⟨p1, _, p3, _⟩ := pre_40 mk hm
  have e : sp [40] (rl mk D) 0 [] = [50, 50, 57, 32, 111, 107, 32] :: sp [40] ([mk, 50, mk, 104, mk] ++ (D ++ [mk, 41, 32, 103, 111])) 0 [] :=
    (sp_skip (s' := []) [50, 50, 57, 32, 111, 107, 32] _ [] (by decide)).trans sp_hit
  rw [e, sp_skip _ _ _ p1, sp_skip _ _ _ (d.no (c := 40) (by decide)), sp_end p3]
  simp
theorem sp_41 (d : Dig D) (hm : mk ∈ markL) : sp [41] (rl mk D) 0 [] = [50 :: 50 :: 57 :: 32 :: 111 :: 107 :: 32 :: 40 :: mk :: 50 :: mk :: 104 :: mk :: (D ++ [mk]), [32, 103, 111]] := by
  obtain ⟨_, _, _, _, _, _, p7, _, p9, _⟩ := pre_40 mk hm
  have e : sp [41] (rl mk D) 0 [] = sp [41] (D ++ ([mk] ++ (41 :: [32, 103, 111]))) 0 [50, 50, 57, 32, 111, 107, 32, 40, mk, 50, mk, 104, mk] := sp_skip (s' := []) [50, 50, 57, 32, 111, 107, 32, 40, mk, 50, mk, 104, mk] _ [] p7
  rw [e, sp_skip _ _ _ (d.no (c := 41) (by decide)), sp_skip _ _ _ p9, sp_hit, sp_end (by decide)]
  simp
theorem sp_104 (d : Dig D) (hm : mk ∈ markL) : sp [104] (rl mk D) 0 [] = [[50, 50, 57, 32, 111, 107, 32, 40, mk, 50, mk], mk :: (D ++ [mk, 41, 32, 103, 111])] := by
  obtain ⟨_, _, _, _, p5, p6, _⟩ := pre_40 mk hm
  have n : 104 ∉ [mk] := fun q => p6 (by rw [List.mem_singleton.mp q]; exact .head _)
  have e : sp [104] (rl mk D) 0 [] = [50, 50, 57, 32, 111, 107, 32, 40, mk, 50, mk] :: sp [104] ([mk] ++ (D ++ [mk, 41, 32, 103, 111])) 0 [] :=
    (sp_skip (s' := []) [50, 50, 57, 32, 111, 107, 32, 40, mk, 50, mk] _ [] p5).trans sp_hit
  rw [e, sp_skip _ _ _ n, sp_skip _ _ _ (d.no (c := 104) (by decide)), sp_end p6]
  simp
theorem sp_mk (d : Dig D) (hm : mk ∈ markL) : sp [mk, 41] (rl mk D) 0 [] = [50 :: 50 :: 57 :: 32 :: 111 :: 107 :: 32 :: 40 :: mk :: 50 :: mk :: 104 :: mk :: D, [32, 103, 111]] := by
  obtain ⟨_, _, _, p4, _, _, _, _, _, p10, p11, p12, _⟩ := pre_40 mk hm
  have no : ∀ (c : Nat) (r acc : List Nat), c ≠ 41 → sp [mk, 41] (mk :: c :: r) 0 acc = sp [mk, 41] (c :: r) 0 (acc ++ [mk]) := fun c r acc hc => sp_no (by
    rw [isPre, isPre, beq_eq_false_iff_ne.mpr (Ne.symm hc), Bool.false_and, Bool.and_false])
  have e : sp [mk, 41] (rl mk D) 0 [] = sp [mk, 41] (mk :: 50 :: mk :: 104 :: mk :: (D ++ [mk, 41, 32, 103, 111])) 0 [50, 50, 57, 32, 111, 107, 32, 40] := sp_skip (s' := [41]) [50, 50, 57, 32, 111, 107, 32, 40] _ [] p4
  have e2 : ∀ acc, sp [mk, 41] (50 :: mk :: 104 :: mk :: (D ++ [mk, 41, 32, 103, 111])) 0 acc = sp [mk, 41] (mk :: 104 :: mk :: (D ++ [mk, 41, 32, 103, 111])) 0 (acc ++ [50]) := fun acc => sp_skip (s' := [41]) [50] _ acc p11
  have e3 : ∀ acc, sp [mk, 41] (104 :: mk :: (D ++ [mk, 41, 32, 103, 111])) 0 acc = sp [mk, 41] (mk :: (D ++ [mk, 41, 32, 103, 111])) 0 (acc ++ [104]) := fun acc => sp_skip (s' := [41]) [104] _ acc p12
  have e4 : ∀ acc, sp [mk, 41] (mk :: (D ++ [mk, 41, 32, 103, 111])) 0 acc = sp [mk, 41] (D ++ [mk, 41, 32, 103, 111]) 0 (acc ++ [mk]) := fun acc => sp_no (by
    rw [isPre, isPre_41 d.ne (d.no (by decide)), Bool.and_false])
  have e5 : ∀ acc, sp [mk, 41] [mk, 41, 32, 103, 111] 0 acc = [acc, [32, 103, 111]] := fun acc => by
    rw [sp, if_pos (by rw [isPre, beq_self_eq_true]; rfl)]
    have := sp_skip (s' := [41]) [32, 103, 111] [] [] p10
    rw [List.append_nil] at this
    show acc :: sp [mk, 41] [32, 103, 111] 0 [] = _
    rw [this, sp]
    rfl
  rw [e, no 50 _ _ (by decide), e2, no 104 _ _ (by decide), e3, e4, sp_skip _ _ _ (mark_no d hm), e5]
  simp
theorem SL_one : SL 1 mk D = rl mk (D ++ [120]) := by
  unfold SL rl PQ
  simp
theorem spoil_T (d : Dig D) (hm : mk ∈ markL) {way : Nat} (hw : way ≤ 5) : spoilS (T (rl mk D)) (T [mk]) way = (if way = 0 then Str.ofString "another code" else if way = 1 then Str.ofString "no number" else Str.ofString "another shape", T (SL way mk D)) := by
  have q60 : Str.ofString "<" = T [60] := by decide +kernel
  have q62 : Str.ofString ">" = T [62] := by decide +kernel
  have q104 : Str.ofString "h" = T [104] := by decide +kernel
  have q120 : Str.ofString "x" = T [120] := by decide +kernel
  have q227 : Str.ofString "227" = T [50, 50, 55] := by decide +kernel
  have hc := lt6 (Nat.lt_succ_of_le hw)
  have j2 : ∀ z p q : List Nat, joinL z [p, q] = p ++ (z ++ q) := fun z p q => by simp [joinL]
  unfold spoilS
  rw [qT40, qT41, q60, q62, q104, q120, q227, T_append, T_append, T_append, replace_T (by simp), replace_T (by simp), replace_T (by simp), replace_T (by simp), replace_T (by simp)]
  rw [sp_40 d hm, sp_41 d hm, sp_104 d hm, show [mk] ++ [41] = [mk, 41] from rfl, sp_mk d hm]
  have e0 : Txt.slice (T (rl mk D)) (some 3) none = T ((rl mk D).drop 3) := tail_T (rl mk D) (a := 3) (by unfold rl; simp)
  rw [e0, T_append, j2, j2, j2, j2, j2]
  rcases hc with rfl | rfl | rfl | rfl | rfl | rfl
  · rfl
  · rfl
  · rfl
  · refine congrArg (fun x => (_, T x)) ?_
    show 50 :: 50 :: 57 :: 32 :: 111 :: 107 :: 32 :: 40 :: mk :: 50 :: mk :: 104 :: mk :: ((D ++ [mk]) ++ [62, 32, 103, 111]) = _
    rw [List.append_assoc]
    rfl
  · rfl
  · rfl
theorem SL_ok (d : Dig D) (hm : mk ∈ markL) {way : Nat} (hw : way ≤ 5) : (∀ c ∈ SL way mk D, c < 256) ∧ (SL way mk D).length ≤ 40 ∧ 3 ≤ (SL way mk D).length := by
  obtain ⟨h1, h2, h3⟩ := pq_ok mk hm way (Nat.lt_succ_of_le hw)
  have h4 := d.len
  have hl : (SL way mk D).length = 13 + (D.length + (PQ way mk).2.length) := by unfold SL; rw [List.length_append, List.length_append, h2]
  refine ⟨fun c hc => ?_, by omega, by omega⟩
  rcases List.mem_append.mp hc with hc | hc
  · exact h1 c (List.mem_append_left _ hc)
  · rcases List.mem_append.mp hc with hc | hc
    · have := d.ok c hc; omega
    · exact h1 c (List.mem_append_right _ hc)
end
end Mine
end

noncomputable section
open PySem PySem.Builtin PySem.Builtin.Str PySem.W PySem.Calls PyProof.Rows PySem.NumText
set_option Elab.async false
set_option maxRecDepth 100000
set_option linter.unusedVariables false
set_option maxHeartbeats 2000000
namespace Mine
section
variable {mk : Nat} {D : List Nat}
theorem last_ne (d : Dig D) (hm : mk ∈ markL) {p q : List Nat} (hp : p.length = 13) : (p ++ (D ++ q)).getD (12 + D.length) 0 ≠ mk := by
  have h0 : 0 < D.length := List.length_pos_iff.mpr d.ne
  rw [List.getD_eq_getElem?_getD, List.getElem?_append_right (by omega), hp, List.getElem?_append_left (by omega), List.getElem?_eq_getElem (by omega)]
  intro q
  exact mark_no d hm (q ▸ List.getElem_mem _)
theorem part_SL (d : Dig D) (hm : mk ∈ markL) {way : Nat} (hw : way ≤ 5) (h1 : way ≠ 1) : partL (SL way mk D) = (some (decide (way = 0)), SL way mk D) := by
  have hc : way = 0 ∨ way = 2 ∨ way = 3 ∨ way = 4 ∨ way = 5 := (lt6 (Nat.lt_succ_of_le hw)).imp_right fun q => q.resolve_left h1
  have n40 := d.no (c := 40) (by decide)
  have n41 := d.no (c := 41) (by decide)
  have hmk := mark_no d hm
  obtain ⟨_, m41, _, m50, _⟩ := mk_ok mk hm
  obtain ⟨_, p2, p3, _, _, _, _, p8, _, _, _, _, p13, p14⟩ := pre_40 mk hm
  have not_app : ∀ {a : Nat} {p q : List Nat}, a ∉ p → a ∉ D → a ∉ q → a ∉ p ++ (D ++ q) := fun x y z h => by
    rcases List.mem_append.mp h with h | h
    · exact x h
    · rcases List.mem_append.mp h with h | h
      · exact y h
      · exact z h
  rcases hc with rfl | rfl | rfl | rfl | rfl
  · unfold partL
    rw [if_pos (by simp [SL, PQ])]
    rfl
  · have hs : scan [40] (SL 2 mk D) 0 0 = [] := scan_none (not_app p13 n40 p3)
    unfold partL
    rw [if_neg (by simp [SL, PQ]), hs]
    rfl
  · have hs : scan [40] (SL 3 mk D) 0 0 = _ := head7 _
    have ht : scan [41] ((SL 3 mk D).drop 8) 8 8 = [] := scan_none (not_app (p := [mk, 50, mk, 104, mk]) p2 n41 p8)
    unfold partL
    rw [if_neg (by simp [SL, PQ]), hs]
    dsimp only
    rw [ht]
    rfl
  · have hs : scan [40] (SL 4 mk D) 0 0 = _ := head7 _
    obtain ⟨r2, ht⟩ : ∃ r2, scan [41] ((SL 4 mk D).drop 8) 8 8 = (13 + D.length) :: r2 := by
      rw [show (SL 4 mk D).drop 8 = [mk, 50, mk, 104, mk] ++ (D ++ (41 :: [32, 103, 111])) from rfl, scan_skip _ _ _ _ p2, scan_skip _ _ _ _ n41, scan_hit (by simp; omega)]
      exact ⟨_, congrArg (· :: _) (by simp)⟩
    have hl := last_ne d hm (p := [50, 50, 57, 32, 111, 107, 32, 40, mk, 50, mk, 104, mk]) (q := [41, 32, 103, 111]) rfl
    unfold partL
    rw [if_neg (by simp [SL, PQ]), hs]
    dsimp only
    rw [ht]
    dsimp only
    rw [show 13 + D.length - 1 = 12 + D.length by omega, if_pos (fun q => hl (q.symm.trans rfl))]
    rfl
  · have hs : scan [40] (SL 5 mk D) 0 0 = _ := head7 _
    obtain ⟨r2, ht⟩ := scan_41 (D := D) p14 rfl n41 m41 [32, 103, 111]
    have ht : scan [41] ((SL 5 mk D).drop 8) 8 8 = (14 + D.length) :: r2 := ht
    have hg2 : (SL 5 mk D).getD (13 + D.length) 0 = mk := get_mk (p := [50, 50, 57, 32, 111, 107, 32, 40, mk, 50, mk, mk, mk]) rfl
    have hsl : ((SL 5 mk D).drop 8).take (14 + D.length - 8) = mk :: 50 :: mk :: mk :: mk :: (D ++ [mk]) := cut_D _
    unfold partL
    rw [if_neg (by simp [SL, PQ]), hs]
    dsimp only
    rw [ht]
    dsimp only
    rw [show (SL 5 mk D).getD 8 0 = mk from rfl, show 14 + D.length - 1 = 13 + D.length by omega, hg2, if_neg (by simp), hsl, sp_parts6 m50 hmk]
    rfl
theorem dig_x (d : Dig D) : (int_private% "readNumeral") 0 10 (numSeenOf (T (D ++ [120]))) = int_private% "Numeral.invalid" := by
  have hlt : ∀ c ∈ D ++ [120], c < 128 ∧ c ≠ 0 := fun c hc => by
    rcases List.mem_append.mp hc with hc | hc
    · have := d.ok c hc; omega
    · rw [List.mem_singleton.mp hc]; decide
  have e1 : numTextOf (T (D ++ [120])) = D ++ [120] := by
    refine if_pos ?_
    rw [← Array.all_toList, List.all_eq_true]
    intro c hc
    exact decide_eq_true (hlt c hc).1
  have e2 : numSeenOf (T (D ++ [120])) = D ++ [120] := by
    show (numTextOf _).takeWhile _ = _
    rw [e1]
    exact takeWhile_all fun c hc => bne_iff_ne.mpr (hlt c hc).2
  rw [e2, readNumeral_ten]
  have e3 : ∃ D', core (D ++ [120]) = D' ++ [120] := by
    unfold core
    have back : ∀ l : List Nat, ((l ++ [120]).reverse.dropWhile blank).reverse = l ++ [120] := fun l => by
      rw [List.reverse_append]
      show ((120 :: l.reverse).dropWhile blank).reverse = _
      rw [dropWhile_of (by decide)]
      simp
    rcases hD : D with _ | ⟨c, r⟩
    · exact absurd hD d.ne
    have hc := d.ok c (by rw [hD]; exact .head _)
    rw [List.cons_append, dropWhile_of (by omega)]
    rcases hc with rfl | hc
    · exact ⟨r, back r⟩
    · rw [sign_of (by omega) (by omega)]
      exact ⟨c :: r, back (c :: r)⟩
  obtain ⟨D', e3⟩ := e3
  have e4 : digits? 10 (D' ++ [120]) = none := by
    unfold digits?
    rw [List.foldlM_append]
    cases D'.foldlM (step 10) ((#[] : Array Nat), false) with
    | none => rfl
    | some p => rfl
  rw [e3, e4]
  rfl
end
theorem rl_sub {mk c : Nat} {D : List Nat} (h : c ∈ rl mk D) : c ∈ rl mk (D ++ [120]) := by
  rw [show rl mk D = [50, 50, 57, 32, 111, 107, 32, 40, mk, 50, mk, 104, mk] ++ (D ++ [mk, 41, 32, 103, 111]) from rfl] at h
  show c ∈ [50, 50, 57, 32, 111, 107, 32, 40, mk, 50, mk, 104, mk] ++ ((D ++ [120]) ++ [mk, 41, 32, 103, 111])
  rcases List.mem_append.mp h with h | h
  · exact List.mem_append_left _ h
  · rcases List.mem_append.mp h with h | h
    · exact List.mem_append_right _ (List.mem_append_left _ (List.mem_append_left _ h))
    · exact List.mem_append_right _ (List.mem_append_right _ h)
theorem rl_in {mk c : Nat} {D : List Nat} (h : c ∈ D) : c ∈ rl mk D := by
  show c ∈ [50, 50, 57, 32, 111, 107, 32, 40, mk, 50, mk, 104, mk] ++ (D ++ [mk, 41, 32, 103, 111])
  exact List.mem_append_right _ (List.mem_append_left _ h)
theorem rep_ok {mk : Nat} (hm : mk ∈ markL) {port : Int} (h : port.natAbs ≤ 600000) : RepOk mk port := by
  obtain ⟨D, d, hD, hn⟩ := dig_port h
  have hy := reply_T (mk := mk) hD
  have hr : ∀ D', partL (rl mk D') = (none, D') → (∀ c ∈ rl mk D', c < 256) → part229 (T (rl mk D')) = (none, T D') := fun D' e hc => by
    rw [part_T (by simp [rl]) hc, e]
  have h1 := mark_no d hm
  have h2 := d.no (c := 41) (by decide)
  have n120 : mk ≠ 120 := (mk_ok mk hm).2.2.2.2.1
  have hl1 := (SL_ok d hm (way := 1) (by decide)).1
  rw [SL_one] at hl1
  have hrl : ∀ c ∈ rl mk D, c < 256 := fun c hc => hl1 c (rl_sub hc)
  have hg : part229 (replyS mk port) = (none, T D) := by rw [hy]; exact hr D (part_good hm h1 h2) hrl
  have hbad : part229 (T (SL 1 mk D)) = (none, T (D ++ [120])) := SL_one ▸ hr (D ++ [120]) (part_good hm (by simp [h1, n120]) (by simp [h2])) hl1
  have hsp : ∀ way, way ≤ 5 → way ≠ 1 → part229 (T (SL way mk D)) = (some (decide (way = 0)), T (SL way mk D)) := fun way hw hw1 => by
    obtain ⟨k1, k2, k3⟩ := SL_ok d hm hw
    rw [part_T k3 k1, part_SL d hm hw hw1]
  have dl := d.len
  refine ⟨?_, ?_, ?_, ?_, fun way hw hw1 => ?_, fun way hw => ?_, fun way hw => ?_, ?_⟩
  · rw [hD, T_len]; omega
  · rw [hg]
  · rw [hg]; exact hn
  · rw [hg, T_len]; omega
  · rw [hy, spoil_T d hm hw]
    dsimp only
    refine ⟨decide (way = 0), by rw [hsp way hw hw1], ?_⟩
    by_cases h0 : way = 0
    · rw [if_pos h0, if_pos (by simp [h0])]
    · rw [if_neg h0, if_neg hw1, if_neg (by simp [h0])]
  · obtain ⟨k1, k2, k3⟩ := SL_ok d hm hw
    rw [hy, spoil_T d hm hw]
    dsimp only
    refine ⟨by rw [T_len]; omega, ?_⟩
    by_cases hw1 : way = 1
    · subst hw1
      rw [hbad, T_len, List.length_append]
      simp
      omega
    · rw [hsp way hw hw1, T_len]; omega
  · obtain ⟨k1, k2, k3⟩ := SL_ok d hm hw
    rw [hy, spoil_T d hm hw]
    dsimp only
    refine ⟨?_, ?_⟩
    · split
      · decide +kernel
      · split <;> decide +kernel
    · unfold PyData.strOk
      rw [← Array.all_toList, List.all_eq_true]
      intro c hc
      have := k1 c hc
      exact decide_eq_true (by omega)
  · rw [hy, spoil_T d hm (by decide)]
    dsimp only
    rw [hbad]
    refine ⟨rfl, dig_x d, ?_, rfl⟩
    have this : (reprText (T (D ++ [120]))).length ≤ 10 * (T (D ++ [120])).length + 2 := StrLaws.reprText_len (T (D ++ [120])) (fun c hc => Nat.lt_of_lt_of_le (hl1 c (rl_in hc)) (by decide))
    rw [T_len (D ++ [120]), List.length_append, List.length_singleton] at this
    rw [sizeLine_eq]
    refine Nat.le_trans this ?_
    omega
theorem pure_ok : Pure := ⟨fun _ hm _ h => rep_ok hm h, fun _ _ hp => txt_ok hp, fun _ _ hp _ h0 _ R => ring_ok hp h0 R⟩
end Mine
end

noncomputable section
open PySem PySem.W PySem.Calls PyProof.Rows
set_option Elab.async false
set_option maxRecDepth 100000
set_option linter.unusedVariables false
set_option maxHeartbeats 2000000
set_option pp.deepTerms false
set_option pp.deepTerms.threshold 6
set_option pp.maxSteps 2000
namespace Mine
/-- the tables that the nested defs write into -/
def hid : List Addr := [51, 58, 144]
def cutK (K : Frag) : Frag := K.filter fun p => !hid.contains p.1
theorem lookup_cut {K : Frag} {a : Addr} {o : Obj} : (cutK K).lookup a = some o → K.lookup a = some o ∧ a ∉ hid := by
  unfold cutK
  induction K with
  | nil => intro e; cases e
  | cons p K ih =>
    intro e
    rw [List.filter_cons] at e
    obtain ⟨b, o'⟩ := p
    split at e
    · rename_i hb
      rw [List.lookup_cons] at e ⊢
      split at e
      · rename_i hab
        have : a = b := beq_iff_eq.mp hab
        subst this
        refine ⟨e, fun q => ?_⟩
        rw [Bool.not_eq_true'] at hb
        have := List.contains_iff_mem.mpr q
        rw [hb] at this
        cases this
      · rename_i hab
        exact ih e
    · rename_i hb
      obtain ⟨h1, h2⟩ := ih e
      refine ⟨?_, h2⟩
      rw [List.lookup_cons]
      have : (a == b) = false := by
        refine beq_eq_false_iff_ne.mpr fun q => h2 ?_
        subst q
        refine List.contains_iff_mem.mp ?_
        cases q2 : hid.contains a
        · rw [q2] at hb; exact absurd rfl hb
        · rfl
      rw [this]
      exact h1
def fixOf (h : Heap) (mg mb : Str → Option Value) : Fix := ⟨hideAll h hid, mg, mb, [nest8, nest9, nest21]⟩
theorem cut_in {K : Frag} {h : Heap} (X : K.In h) : (cutK K).In (hideAll h hid) := fun a o e => by
  obtain ⟨h1, h2⟩ := lookup_cut e
  exact hideAll_get _ (X _ _ h1) h2
theorem ns_hide {h : Heap} {a : Addr} {m : Str → Option Value} (x : h.Ns a m) (ha : a ∉ hid) : (hideAll h hid).Ns a m := by
  obtain ⟨o, es, ep, h1, r⟩ := x
  exact ⟨o, es, ep, hideAll_get _ h1 ha, r⟩
def codeOfK (K : Frag) (fa : Addr) : Option Value := match K.lookup fa with
  | some ⟨_, _, .func fd, _⟩ => some fd.code
  | _ => none
theorem fn_at {K : Frag} {H h : Heap} {p : Program} {mg : Str → Option Value} {i : Nat} {fa : Addr} {cd : Value} (X : K.In H) (G : H.Ns mainGlobals mg) (ext : ∀ b o, H.get? b = some o → h.get? b = some o)
    (T : ∀ d ∈ recsOf p, ∃ a o pm code doc, mg d.name = some (.ref a) ∧ h.get? a = some o ∧ o.data = .func (docDef d.name d.params d.body d.scope pm code doc) ∧ h.CodeRec code d.name)
    (hd : recAt i ∈ recsOf p) (e1 : nsIn K mainGlobals (recAt i).name = some (some (.ref fa))) (e2 : codeOfK K fa = some cd) (e3 : codeIn K cd (recAt i).name = true) : FnAt H mg i fa cd := by
  have hm := mg_of X G e1
  obtain ⟨a, o, pm, code, doc, h1, h2, h3, h4⟩ := T _ hd
  rw [hm] at h1
  obtain rfl : fa = a := by injection h1 with q; injection q
  refine ⟨hm, ?_⟩
  unfold codeOfK at e2
  split at e2
  · rename_i c dd fd sl q
    have h5 := X _ _ q
    have h6 := ext _ _ h5
    rw [h2] at h6
    obtain rfl := Option.some.inj h6
    obtain rfl : fd = docDef (recAt i).name (recAt i).params (recAt i).body (recAt i).scope pm code doc := Data.func.inj h3
    obtain rfl : code = cd := Option.some.inj e2
    exact ⟨_, pm, doc, h5, rfl, codeRec_of X e3⟩
  · cases e2
def nbNames : List Str := ["sum", "list", "range", "len", "str", "enumerate", "reversed", "divmod", "min", "sorted", "int", "ValueError", "ZeroDivisionError"]
def FNS : List (Nat × Addr) := [(1, 21), (2, 28), (3, 35), (6, 42), (8, 56), (9, 63), (10, 70), (11, 77), (16, 121), (18, 128), (19, 135), (20, 142), (21, 147)]
/-- what is looked up in the heap as it is written out -/
structure KOk (K0 : Frag) (p : Program) : Prop where
  fns : (FNS.all fun q => nsIn (cutK K0) mainGlobals (recAt q.1).name == some (some (.ref q.2)) && codeOfK (cutK K0) q.2 == some (.ref (q.2 - 1)) && codeIn (cutK K0) (.ref (q.2 - 1)) (recAt q.1).name) = true
  recs : ∀ q ∈ FNS, recAt q.1 ∈ recsOf p
  lim : ∃ t, nsIn (cutK K0) mainGlobals (Str.ofString "_DIV_LIMIT") = some (some (.int 4000 t))
  free : (nbNames.all fun x => nsIn (cutK K0) mainGlobals x == some none) = true
  t51 : K0.lookup 51 = some (tabObj #[])
  t58 : K0.lookup 58 = some (tabObj #[])
  t144 : K0.lookup 144 = some (tabObj #[])
  c8 : codeHdIn (cutK K0) 55 51 = true
  c9 : codeHdIn (cutK K0) 62 58 = true
  c21 : codeHdIn (cutK K0) 146 144 = true
  o1 : nsIn (cutK K0) mainGlobals (Str.ofString "error_reply") = some (some (.ref 100)) ∧ excIn (cutK K0) 100 excB "Exception.__new__" = true
  o2 : nsIn (cutK K0) mainGlobals (Str.ofString "error_proto") = some (some (.ref 112)) ∧ excIn (cutK K0) 112 excB "Exception.__new__" = true
  x11 : exmOne (cutK K0) (.ref 100) (.ref 100) = some true
  x21 : exmOne (cutK K0) (.ref 112) (.ref 100) = some false
  x22 : exmOne (cutK K0) (.ref 112) (.ref 112) = some true
  xv1 : exmOne (cutK K0) (.type "ValueError") (.ref 100) = some false
  xv2 : exmOne (cutK K0) (.type "ValueError") (.ref 112) = some false
  xvv : exmOne (cutK K0) (.type "ValueError") (.type "ValueError") = some true
  s1 : findIn (cutK K0) (.ref 100) "__str__" = some (some (.builtin "BaseException.__str__"))
  s2 : findIn (cutK K0) (.ref 112) "__str__" = some (some (.builtin "BaseException.__str__"))
  m1 : mroIn (cutK K0) 100 (.type "BaseException") = some true
  m2 : mroIn (cutK K0) 112 (.type "BaseException") = some true
section
variable {K0 : Frag} {p : Program} {loose : List Str} {mean : ExcName → Option Value} {mg mb : Str → Option Value} {h : Heap}
theorem st_of (X : K0.In h) (O : KOk K0 p) (T : Top p loose mean mg mb h) : St (fixOf h mg mb) where
  sep := ⟨fun b hb => hideAll_none _ hb, fun n hn n' hn' e => by
    simp only [fixOf, List.mem_cons, List.not_mem_nil, or_false] at hn hn'
    rcases hn with rfl | rfl | rfl <;> rcases hn' with rfl | rfl | rfl <;> first | rfl | exact absurd e (by decide)⟩
  g := ns_hide T.g (by decide)
  b := ns_hide T.b (by decide)
  blt := T.builtins
  nolimit := let ⟨mc, h1, h2⟩ := T.nolimit; ⟨mc, ns_hide h1 (by decide), h2⟩
  nodigits := let ⟨mc, h1, h2⟩ := T.nodigits; ⟨mc, ns_hide h1 (by decide), h2⟩
  bmain := by
    obtain ⟨bm, ob, h1, h2, h3, h4, h5, h6⟩ := T.bmain
    refine ⟨bm, ob, h1, h2, hideAll_get _ h3 fun hb => ?_, h4, h5, h6⟩
    have tb : ∀ b, h.get? b = some (tabObj #[]) → b ≠ bm := fun b e q => by
      rw [q, h3] at e
      rw [Option.some.inj e] at h4
      cases h4
    simp only [hid, List.mem_cons, List.not_mem_nil, or_false] at hb
    rcases hb with q | q | q
    · exact tb _ (X _ _ O.t51) q.symm
    · exact tb _ (X _ _ O.t58) q.symm
    · exact tb _ (X _ _ O.t144) q.symm
  free := fun x hx => ns_none_of (cut_in X) (ns_hide T.g (by decide)) (beq_iff_eq.mp (List.all_eq_true.mp O.free x hx))
theorem fn_of (X : K0.In h) (O : KOk K0 p) (T : Top p loose mean mg mb h) {i : Nat} {fa : Addr} (hq : (i, fa) ∈ FNS) : FnAt (hideAll h hid) mg i fa (.ref (fa - 1)) := by
  have e := List.all_eq_true.mp O.fns _ hq
  simp only [Bool.and_eq_true, beq_iff_eq] at e
  exact fn_at (cut_in X) (ns_hide T.g (by decide)) (fun _ _ => of_hideAll _) T.fn (O.recs _ hq) e.1.1 e.1.2 e.2
theorem tz_of (X : K0.In h) (O : KOk K0 p) (T : Top p loose mean mg mb h) : Tz (fixOf h mg mb) (cutK K0) where
  S := st_of X O T
  f1 := fn_of X O T (i := 1) (fa := 21) (by decide)
  f2 := fn_of X O T (i := 2) (fa := 28) (by decide)
  f3 := fn_of X O T (i := 3) (fa := 35) (by decide)
  f6 := fn_of X O T (i := 6) (fa := 42) (by decide)
  f8 := fn_of X O T (i := 8) (fa := 56) (by decide)
  f9 := fn_of X O T (i := 9) (fa := 63) (by decide)
  f10 := fn_of X O T (i := 10) (fa := 70) (by decide)
  f11 := fn_of X O T (i := 11) (fa := 77) (by decide)
  lim := let ⟨t, e⟩ := O.lim; ⟨t, mg_of (cut_in X) (ns_hide T.g (by decide)) e⟩
  n8 := .head _
  n9 := .tail _ (.head _)
  c8 := codeHd_of_K (cut_in X) O.c8
  c9 := codeHd_of_K (cut_in X) O.c9
  f16 := fn_of X O T (i := 16) (fa := 121) (by decide)
  f18 := fn_of X O T (i := 18) (fa := 128) (by decide)
  f19 := fn_of X O T (i := 19) (fa := 135) (by decide)
  f20 := fn_of X O T (i := 20) (fa := 142) (by decide)
  n21 := .tail _ (.tail _ (.head _))
  c21 := codeHd_of_K (cut_in X) O.c21
  Y :=
    { X := cut_in X
      o1 := own_of_in (p := p) (loose := loose) (mb := mb) (cut_in X) ⟨ns_hide T.g (by decide), ns_hide T.b (by decide), (st_of X O T).nolimit, T.builtins, T.free⟩ O.o1.1 O.o1.2
      o2 := own_of_in (p := p) (loose := loose) (mb := mb) (cut_in X) ⟨ns_hide T.g (by decide), ns_hide T.b (by decide), (st_of X O T).nolimit, T.builtins, T.free⟩ O.o2.1 O.o2.2
      x11 := O.x11
      x21 := O.x21
      x22 := O.x22
      xv1 := O.xv1
      xv2 := O.xv2
      xvv := O.xvv
      s1 := O.s1
      s2 := O.s2
      m1 := O.m1
      m2 := O.m2 }
theorem tab0 {P : Addr} {pos : Pos} {q : Str} (e : h.get? P = some (tabObj #[])) : TabOk h P pos q := ⟨#[], e, trivial, fun cv q => by cases q⟩
theorem tabs0 (X : K0.In h) (O : KOk K0 p) : Tabs (fixOf h mg mb) h := fun n hn => by
  simp only [fixOf, List.mem_cons, List.not_mem_nil, or_false] at hn
  rcases hn with rfl | rfl | rfl
  · exact tab0 (X _ _ O.t51)
  · exact tab0 (X _ _ O.t58)
  · exact tab0 (X _ _ O.t144)
theorem caller_ok : AOk callerA 0 := ⟨rfl, by show 1 + claimMargin ≤ 301; decide, by show 4 ≤ 4; decide⟩
theorem ct_of {cc P : Addr} (C : CodeHd (hideAll h hid) cc P) : isCodeTable h P := by
  obtain ⟨o, vs, file, tf, flags, tg, inF, text, tt, h1, h2, h3, h4, _⟩ := C
  exact ⟨cc, o, vs, of_hideAll _ h1, h2, h3, h4⟩
theorem old_of (X : K0.In h) (O : KOk K0 p) (T : Top p loose mean mg mb h) {h' : Heap} (G : Grow (fixOf h mg mb) h h') (hT : Tabs (fixOf h mg mb) h') : OldK h h' := by
  have Z := tz_of X O T
  have key : ∀ n ∈ (fixOf h mg mb).ns, h.get? n.P = some (tabObj #[]) → isCodeTable h n.P → ∀ o, h.get? n.P = some o → asItWas h h' n.P o ∧ ∃ o', h'.get? n.P = some o' := fun n hn h1 h2 o e => by
    rw [h1] at e
    obtain rfl := Option.some.inj e
    obtain ⟨ps, e1, _⟩ := hT n hn
    exact ⟨.inr (.inl ⟨h2, rfl, #[], ps, rfl, by rw [Array.empty_append]; exact e1⟩), _, e1⟩
  have all : ∀ b o, h.get? b = some o → asItWas h h' b o ∧ ∃ o', h'.get? b = some o' := fun b o e => by
    by_cases hb : b ∈ hid
    · simp only [hid, List.mem_cons, List.not_mem_nil, or_false] at hb
      rcases hb with rfl | rfl | rfl
      · exact key nest8 Z.n8 (X _ _ O.t51) (ct_of Z.c8) o e
      · exact key nest9 Z.n9 (X _ _ O.t58) (ct_of Z.c9) o e
      · exact key nest21 Z.n21 (X _ _ O.t144) (ct_of Z.c21) o e
    · have := G.keep b o hb e
      exact ⟨.inl this, _, this⟩
  exact ⟨fun b o e => (all b o e).1, fun b o e => (all b o e).2⟩
theorem law_c (P : Pure) {w : World} {s₁ : Shared} (X : K0.In s₁.heap) (O : KOk K0 p) (T : Top p loose mean mg mb s₁.heap) (hg : s₁.gens = #[]) (htk : 410 ≤ s₁.toks) {ls : Addr} {vs : List Value} {ns : List Int} (hls : s₁.heap.IsList ls vs.toArray) (hi : IntsAre vs ns)
    (hlen : ns.length ≤ 1000) {R : Value → Shared → Prop} {E : Value → Shared → Prop} (k : ∀ s', OldK s₁.heap s'.heap → s'.os = s₁.os → AllBare s'.gens → R (.bool true) s') :
    wpC (model PySem.Challenge.pw_ul0008_01 w) callerA (PySem.call (.ref 147) [.ref ls]) R E s₁ := by
  have Z := tz_of X O T
  have hf : FnAt (fixOf s₁.heap mg mb).H (fixOf s₁.heap mg mb).mg 21 147 (.ref 146) := fn_of X O T (i := 21) (fa := 147) (by decide)
  have OK : Ok (fixOf s₁.heap mg mb) s₁.heap s₁.gens := ⟨fun _ _ => of_hideAll _, tabs0 X O, .of_eq hg⟩
  have q := law_q (c := ⟨w, s₁.drawn, s₁.os, s₁.toks - 1⟩) (A := callerA) (E := F0) P Z hf OK caller_ok rfl hls hi hlen
  refine wpC_mono (q.at (s := s₁) ⟨rfl, by show s₁.toks - 1 + 1 ≤ s₁.toks; omega⟩ rfl) (fun v s' ⟨_, e2, e3, e4, e5, e6⟩ => ?_) fun e s' ⟨_, _, f⟩ => f.elim
  rw [e3]
  exact k s' (old_of X O T e5 e6) e2 e4
end
end Mine
end

noncomputable section
open PySem PySem.W PySem.W.X PySem.Calls PyProof.Rows
set_option Elab.async false
set_option maxRecDepth 100000
set_option maxHeartbeats 0
namespace Mine
/-- the text without the modules' names -/
def view : Program := { PySem.Challenge.pw_ul0008_01 with main := { PySem.Challenge.pw_ul0008_01.main with body := [1, 2, 3, 5, 6, 7, 8, 9, 10, 11, 13, 14, 15, 16, 18, 19, 20, 21].filterMap fun i => PySem.Challenge.pw_ul0008_01.main.body[i]? } }
/-- a heap's first objects, written out -/
def fragOf (h : Heap) (n : Nat) : Frag := (List.range n).filterMap fun a => (h.get? a).map fun o => (a, o)
theorem mem_lookup {a : Addr} {o : Obj} : ∀ {K : Frag}, K.lookup a = some o → (a, o) ∈ K
  | (b, o') :: K, e => by
    rw [List.lookup_cons] at e
    split at e
    · rename_i hb
      rw [beq_iff_eq.mp hb]
      cases e
      exact .head _
    · exact .tail _ (mem_lookup e)
theorem frag_in (h : Heap) (n : Nat) : (fragOf h n).In h := fun a o e => by
  obtain ⟨b, _, hb⟩ := List.mem_filterMap.mp (mem_lookup e)
  obtain ⟨o', h1, h2⟩ := Option.map_eq_some_iff.mp hb
  cases h2
  exact h1
def limIs (o : Option (Option Value)) : Bool := match o with
  | some (some (.int k _)) => k == 4000
  | _ => false
theorem lim_of {o : Option (Option Value)} (h : limIs o = true) : ∃ t, o = some (some (.int 4000 t)) := by
  unfold limIs at h
  split at h
  · rw [beq_iff_eq.mp h]
    exact ⟨_, rfl⟩
  · cases h
def fldIs : Data → Bool
  | .fields ps => ps.isEmpty
  | _ => false
def tabIs (o : Option Obj) : Bool := o.any fun o => o.cls == .none && o.dict.isNone && fldIs o.data && o.slots.isEmpty
theorem tab_of {o : Option Obj} (h : tabIs o = true) : o = some (tabObj #[]) := by
  cases o with
  | none => cases h
  | some o =>
    obtain ⟨c, d, da, sl⟩ := o
    have h : ((c == .none && d.isNone && fldIs da) && sl.isEmpty) = true := h
    obtain ⟨h, h4⟩ := Bool.and_eq_true_iff.mp h
    obtain ⟨h, h3⟩ := Bool.and_eq_true_iff.mp h
    obtain ⟨h1, h2⟩ := Bool.and_eq_true_iff.mp h
    cases beq_iff_eq.mp h1
    cases Option.isNone_iff_eq_none.mp h2
    cases Array.isEmpty_iff.mp h4
    cases da <;> first | (cases Array.isEmpty_iff.mp h3; rfl) | cases h3
def exIs (o : Option Bool) (b : Bool) : Bool := match o with
  | some d => d == b
  | none => false
theorem ex_of {o : Option Bool} {b : Bool} (h : exIs o b = true) : o = some b := by
  unfold exIs at h
  split at h
  · rw [beq_iff_eq.mp h]
  · cases h
/-- all that is looked up at the top's end -/
def kB (K0 : Frag) : Bool :=
  FNS.all (fun q => nsIn (cutK K0) mainGlobals (recAt q.1).name == some (some (.ref q.2)) && codeOfK (cutK K0) q.2 == some (.ref (q.2 - 1)) && codeIn (cutK K0) (.ref (q.2 - 1)) (recAt q.1).name) &&
  limIs (nsIn (cutK K0) mainGlobals (Str.ofString "_DIV_LIMIT")) && nbNames.all (fun x => nsIn (cutK K0) mainGlobals x == some none) &&
  tabIs (K0.lookup 51) && tabIs (K0.lookup 58) && tabIs (K0.lookup 144) && codeHdIn (cutK K0) 55 51 && codeHdIn (cutK K0) 62 58 && codeHdIn (cutK K0) 146 144 &&
  (nsIn (cutK K0) mainGlobals (Str.ofString "error_reply") == some (some (.ref 100)) && excIn (cutK K0) 100 excB "Exception.__new__") &&
  (nsIn (cutK K0) mainGlobals (Str.ofString "error_proto") == some (some (.ref 112)) && excIn (cutK K0) 112 excB "Exception.__new__") &&
  exIs (exmOne (cutK K0) (.ref 100) (.ref 100)) true && exIs (exmOne (cutK K0) (.ref 112) (.ref 100)) false && exIs (exmOne (cutK K0) (.ref 112) (.ref 112)) true &&
  exIs (exmOne (cutK K0) (.type "ValueError") (.ref 100)) false && exIs (exmOne (cutK K0) (.type "ValueError") (.ref 112)) false && exIs (exmOne (cutK K0) (.type "ValueError") (.type "ValueError")) true &&
  (findIn (cutK K0) (.ref 100) "__str__" == some (some (.builtin "BaseException.__str__"))) && (findIn (cutK K0) (.ref 112) "__str__" == some (some (.builtin "BaseException.__str__"))) &&
  exIs (mroIn (cutK K0) 100 (.type "BaseException")) true && exIs (mroIn (cutK K0) 112 (.type "BaseException")) true
theorem recs_ok : ∀ q ∈ FNS, recAt q.1 ∈ recsOf view := by
  intro q hq
  unfold FNS at hq
  simp only [List.mem_cons, List.not_mem_nil, or_false] at hq
  rcases hq with rfl | rfl | rfl | rfl | rfl | rfl | rfl | rfl | rfl | rfl | rfl | rfl | rfl
  · exact List.mem_of_getElem? (i := 0) (by kernel_rfl)
  · exact List.mem_of_getElem? (i := 1) (by kernel_rfl)
  · exact List.mem_of_getElem? (i := 2) (by kernel_rfl)
  · exact List.mem_of_getElem? (i := 3) (by kernel_rfl)
  · exact List.mem_of_getElem? (i := 5) (by kernel_rfl)
  · exact List.mem_of_getElem? (i := 6) (by kernel_rfl)
  · exact List.mem_of_getElem? (i := 7) (by kernel_rfl)
  · exact List.mem_of_getElem? (i := 8) (by kernel_rfl)
  · exact List.mem_of_getElem? (i := 9) (by kernel_rfl)
  · exact List.mem_of_getElem? (i := 10) (by kernel_rfl)
  · exact List.mem_of_getElem? (i := 11) (by kernel_rfl)
  · exact List.mem_of_getElem? (i := 12) (by kernel_rfl)
  · exact List.mem_of_getElem? (i := 13) (by kernel_rfl)
theorem k_ok {K0 : Frag} (h : kB K0 = true) : KOk K0 view := by
  unfold kB at h
  simp only [Bool.and_eq_true] at h
  obtain ⟨⟨⟨⟨⟨⟨⟨⟨⟨⟨⟨⟨⟨⟨⟨⟨⟨⟨⟨⟨h1, h2⟩, h3⟩, h4⟩, h5⟩, h6⟩, h7⟩, h8⟩, h9⟩, h10, h10'⟩, h11, h11'⟩, h12⟩, h13⟩, h14⟩, h15⟩, h16⟩, h17⟩, h18⟩, h19⟩, h20⟩, h21⟩ := h
  exact ⟨h1, recs_ok, lim_of h2, h3, tab_of h4, tab_of h5, tab_of h6, h7, h8, h9, ⟨beq_iff_eq.mp h10, h10'⟩, ⟨beq_iff_eq.mp h11, h11'⟩, ex_of h12, ex_of h13, ex_of h14, ex_of h15, ex_of h16, ex_of h17, beq_iff_eq.mp h18, beq_iff_eq.mp h19, ex_of h20, ex_of h21⟩
/-- what is seen at the top's end -/
def obs (s : Shared) : Bool := Nat.beq s.heap.objs.size 148 && Nat.beq s.toks 410 && kB (fragOf s.heap 148)
theorem left : LeftO PySem.Challenge.pw_ul0008_01 view [] (fun s => xlAt view [] s && recOk (RowW.records (OpenRow.toRowW PySem.Challenge.rw_ul0008_01.row)) s) obs (fun _ => true) 2394 := fun w => by
  kernel_rfl
end Mine
end

noncomputable section
open PySem PySem.W PySem.W.X PySem.Calls PyProof.Rows
set_option Elab.async false
set_option maxRecDepth 100000
set_option maxHeartbeats 0
set_option pp.maxSteps 3000
set_option pp.deepTerms false
set_option pp.deepTerms.threshold 4
namespace Mine
theorem law_holds : PySem.Challenge.rw_ul0008_01.Holds := by
  w_on
  refine holds_law (by kernel_rfl) fun said => ?_
  refine holds_openC (q := view) (loose := []) (Xt := fun s => xlAt view [] s && recOk (RowW.records (OpenRow.toRowW PySem.Challenge.rw_ul0008_01.row)) s) (XP := XL view []) (Yf := obs) (Ya := fun _ => true) (N := 2394) (d := recAt 21) (kwd := []) left (fun s e => xl_of s (Bool.and_eq_true_iff.mp e).1) XL.keeps ?k1 ?k2 ?k3 (fun s e => recFacts_of (Bool.and_eq_true_iff.mp e).2) (by rfl) ?k4 ?k5 ⟨rfl, rfl, rfl, rfl, rfl, by decide +kernel⟩ ?hw ?hc
  case k1 => kernel_rfl
  case k2 => kernel_rfl
  case k3 => kernel_rfl
  case k4 => first | assumption | decide +kernel
  case k5 => decide +kernel
  case hw => w_witness2
  case hc =>
    intro w s₀ s₁ mg mb G y fa o pm cd doc dV kV ho hd hcd hD hmg hg args vals as L hpre hlay hrd hwl hlo
    have y : obs s₀ = true := y
    obtain ⟨⟨y1, y2⟩, y3⟩ : (Nat.beq s₀.heap.objs.size 148 = true ∧ Nat.beq s₀.toks 410 = true) ∧ kB (fragOf s₀.heap 148) = true := by
      unfold obs at y
      obtain ⟨a, b⟩ := Bool.and_eq_true_iff.mp y
      exact ⟨Bool.and_eq_true_iff.mp a, b⟩
    have ZN := Nat.eq_of_beq_eq_true y1
    have ZT := Nat.eq_of_beq_eq_true y2
    have O := k_ok y3
    have KX : (fragOf s₀.heap 148).In s₁.heap := (frag_in _ _).keeps (Laid.keeps L)
    refine Ground.open G ?_
    intro T B D TE TW
    wrow_args hpre hlay hrd hwl hlo
    obtain ⟨hat, hsz⟩ := script_at L
    have htk := script_toks L ZT
    rw [ZN] at hat hsz
    subst hat
    have hf : mg (recAt 21).name = some (.ref 147) := (fn_of KX O T (i := 21) (fa := 147) (by decide)).nm
    rw [hmg] at hf
    cases hf
    refine law_c pure_ok KX O T hg htk (by assumption) (by assumption) (by omega) fun s' h1 h2 h3 => ?_
    refine ⟨.inl ⟨.bool true, .bool true, [], rfl, raisesW_false ?_, .bool true, ?_, unshared_nil⟩, h1, h2, h3⟩
    · wrow_none_raised
    · kc_post
end Mine
end

open PySem PySem.W PyProof.Rows
theorem PySem.Challenge.cw_ul0008_01_holds : PySem.Challenge.rw_ul0008_01.Holds := by
  exact Mine.law_holds
