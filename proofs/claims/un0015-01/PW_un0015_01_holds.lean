import PyProof.Rows.All
import Wide.All
import Open.Line
import KE.BitLaws
import Wide.FinOn
import PySem.Challenge.RW_un0015_01
set_option Elab.async false
set_option maxRecDepth 100000
set_option linter.all false
namespace Mine
open PySem PySem.Calls

/-! data read off the heap, avoiding the addresses M that are being changed -/
mutual
inductive Rd (M : List Addr) (h : Heap) : Value → PyData → Prop
  | none : Rd M h .none .none
  | bool (b) : Rd M h (.bool b) (.bool b)
  | int (i t) : Rd M h (.int i t) (.int i)
  | str (x t) : Rd M h (.str x t) (.str x)
  | list {a vs n xs} : h.get? a = some { cls := .type "list", data := .seq vs n } → a ∉ M → RdAll M h vs.toList xs → Rd M h (.ref a) (.list xs)
  | tuple {a vs n xs} : h.get? a = some { cls := .type "tuple", data := .seq vs n } → a ∉ M → RdAll M h vs.toList xs → Rd M h (.ref a) (.tuple xs)
inductive RdAll (M : List Addr) (h : Heap) : List Value → List PyData → Prop
  | nil : RdAll M h [] []
  | cons {v vs d ds} : Rd M h v d → RdAll M h vs ds → RdAll M h (v :: vs) (d :: ds)
end

def Stay (h h' : Heap) : Prop := ∀ b o, h.get? b = some o → h'.get? b = some o
theorem Stay.refl (h : Heap) : Stay h h := fun _ _ e => e
theorem Stay.trans {a b c : Heap} (x : Stay a b) (y : Stay b c) : Stay a c := fun p o e => y p o (x p o e)
theorem Stay.push (h : Heap) (o : Obj) : Stay h (h.push o) := fun _ _ e => Heap.get?_push_of_some o e

mutual
theorem Rd.move {M M' : List Addr} {h h' : Heap} (k : ∀ b o vs n, b ∉ M → h.get? b = some o → o.data = .seq vs n → h'.get? b = some o ∧ b ∉ M') :
    ∀ {v d}, Rd M h v d → Rd M' h' v d
  | _, _, .none => .none
  | _, _, .bool b => .bool b
  | _, _, .int i t => .int i t
  | _, _, .str x t => .str x t
  | _, _, .list g m r => .list (k _ _ _ _ m g rfl).1 (k _ _ _ _ m g rfl).2 (RdAll.move k r)
  | _, _, .tuple g m r => .tuple (k _ _ _ _ m g rfl).1 (k _ _ _ _ m g rfl).2 (RdAll.move k r)
theorem RdAll.move {M M' : List Addr} {h h' : Heap} (k : ∀ b o vs n, b ∉ M → h.get? b = some o → o.data = .seq vs n → h'.get? b = some o ∧ b ∉ M') :
    ∀ {vs ds}, RdAll M h vs ds → RdAll M' h' vs ds
  | _, _, .nil => .nil
  | _, _, .cons a r => .cons (Rd.move k a) (RdAll.move k r)
end
theorem Rd.stay {M h h' v d} (x : Rd M h v d) (k : Stay h h') : Rd M h' v d := x.move fun b o _ _ m e _ => ⟨k b o e, m⟩
theorem RdAll.stay {M h h' v d} (x : RdAll M h v d) (k : Stay h h') : RdAll M h' v d := x.move fun b o _ _ m e _ => ⟨k b o e, m⟩
theorem Rd.off {M h v d} (x : Rd M h v d) : Rd [] h v d := x.move fun _ _ _ _ _ e _ => ⟨e, List.not_mem_nil⟩
theorem RdAll.off {M h v d} (x : RdAll M h v d) : RdAll [] h v d := x.move fun _ _ _ _ _ e _ => ⟨e, List.not_mem_nil⟩

theorem RdAll.length {M h} : ∀ {vs ds}, RdAll M h vs ds → vs.length = ds.length
  | _, _, .nil => rfl
  | _, _, .cons _ r => congrArg (· + 1) r.length
theorem RdAll.at {M h} : ∀ {vs ds}, RdAll M h vs ds → ∀ {i : Nat} {d}, ds[i]? = some d → ∃ v, vs[i]? = some v ∧ Rd M h v d
  | _, _, .nil, _, _, e => by simp at e
  | _, _, .cons a r, 0, _, e => by simp at e; subst e; exact ⟨_, rfl, a⟩
  | _, _, .cons a r, i + 1, _, e => by simpa using r.at (by simpa using e)
theorem RdAll.atV {M h} : ∀ {vs ds}, RdAll M h vs ds → ∀ {i : Nat} {v}, vs[i]? = some v → ∃ d, ds[i]? = some d ∧ Rd M h v d
  | _, _, .nil, _, _, e => by simp at e
  | _, _, .cons a r, 0, _, e => by simp at e; subst e; exact ⟨_, rfl, a⟩
  | _, _, .cons a r, i + 1, _, e => by simpa using r.atV (by simpa using e)
theorem RdAll.append {M h} : ∀ {vs ds us es}, RdAll M h vs ds → RdAll M h us es → RdAll M h (vs ++ us) (ds ++ es)
  | _, _, _, _, .nil, y => y
  | _, _, _, _, .cons a r, y => .cons a (r.append y)
theorem RdAll.take {M h} : ∀ {vs ds} (n : Nat), RdAll M h vs ds → RdAll M h (vs.take n) (ds.take n)
  | _, _, 0, _ => by simpa using RdAll.nil
  | _, _, n + 1, .nil => .nil
  | _, _, n + 1, .cons a r => .cons a (r.take n)
theorem RdAll.drop {M h} : ∀ {vs ds} (n : Nat), RdAll M h vs ds → RdAll M h (vs.drop n) (ds.drop n)
  | _, _, 0, r => r
  | _, _, n + 1, .nil => .nil
  | _, _, n + 1, .cons a r => r.drop n
theorem RdAll.set {M h} : ∀ {vs ds} (n : Nat) {v d}, RdAll M h vs ds → Rd M h v d → RdAll M h (vs.set n v) (ds.set n d)
  | _, _, _, _, _, .nil, _ => .nil
  | _, _, 0, _, _, .cons a r, x => .cons x r
  | _, _, n + 1, _, _, .cons a r, x => .cons a (r.set n x)


theorem Rd.listRef {M h v xs} (x : Rd M h v (.list xs)) : ∃ a vs n, v = .ref a ∧ h.get? a = some { cls := .type "list", data := .seq vs n } ∧ a ∉ M ∧ RdAll M h vs.toList xs := by
  cases x with | list g m r => exact ⟨_, _, _, rfl, g, m, r⟩
theorem Rd.tupRef {M h v xs} (x : Rd M h v (.tuple xs)) : ∃ a vs n, v = .ref a ∧ h.get? a = some { cls := .type "tuple", data := .seq vs n } ∧ a ∉ M ∧ RdAll M h vs.toList xs := by
  cases x with | tuple g m r => exact ⟨_, _, _, rfl, g, m, r⟩
theorem Rd.intVal {M h v i} (x : Rd M h v (.int i)) : ∃ t, v = .int i t := by cases x with | int _ t => exact ⟨t, rfl⟩
theorem Rd.strVal {M h v i} (x : Rd M h v (.str i)) : ∃ t, v = .str i t := by cases x with | str _ t => exact ⟨t, rfl⟩
theorem Rd.boolVal {M h v i} (x : Rd M h v (.bool i)) : v = .bool i := by cases x with | bool _ => rfl

/-- the room that a piece of code asks for: k more frames -/
structure Rm (k : Nat) (A : Around) : Prop where
  handled : A.handled = none
  depth : A.depth + k ≤ 400
  units : A.units + 10 * k ≤ 1000
theorem Rm.mono {k j : Nat} {A : Around} (x : Rm k A) (h : j ≤ k) : Rm j A := ⟨x.handled, by have := x.depth; omega, by have := x.units; omega⟩
theorem Rm.lim {k : Nat} {A : Around} (x : Rm k A) : A.depth < recursionLimit := by have := x.depth; show A.depth < 1000; omega
theorem Rm.uni {k : Nat} {A : Around} (x : Rm k A) : A.units < cLine := by have := x.units; show A.units < 9900; omega
theorem Rm.deeper {k : Nat} {A : Around} (x : Rm (k + 1) A) (env : Env) : Rm k (A.deeper env) :=
  ⟨x.handled, by have := x.depth; show A.depth + 1 + k ≤ 400; omega, by have := x.units; show A.units + 3 + 10 * k ≤ 1000; omega⟩

def isLoc : Option NameKind → Bool
  | some .local => true
  | some .cell => true
  | some .free => true
  | _ => false

/-- a name of the block holds this value -/
inductive Nm (env : Env) (h : Heap) (x : Str) (v : Value) : Prop
  | loc (m : Str → Option Value) : env.kindOf x = some .local → h.Ns env.locals m → m x = some v → Nm env h x v
  | cell (c : Addr) : env.kindOf x = some .cell → env.cells.lookup x = some c → h.IsCell c (some v) → Nm env h x v
  | free (c : Addr) : env.kindOf x = some .free → env.cells.lookup x = some c → h.IsCell c (some v) → Nm env h x v
theorem Nm.stay {env h h' x v} (n : Nm env h x v) (k : Stay h h') : Nm env h' x v := by
  cases n with
  | loc m a b c => exact .loc m a (b.keeps k) c
  | cell c a b d => exact .cell c a b (d.keeps k)
  | free c a b d => exact .free c a b (d.keeps k)

inductive Bd where
  | d (x : PyData)
  | r (v : Value)
def Bd.ok (M : List Addr) (h : Heap) : Bd → Value → Prop
  | .d x, v => Rd M h v x
  | .r u, v => v = u
theorem Bd.ok.stay {M h h' v} : ∀ {b : Bd}, b.ok M h v → Stay h h' → b.ok M h' v
  | .d _, x, k => Rd.stay x k
  | .r _, x, _ => x

def MOk (M : List Addr) (h : Heap) : Prop := ∀ a ∈ M, ∃ o, h.get? a = some o
theorem MOk.stay {M h h'} (x : MOk M h) (k : Stay h h') : MOk M h' := fun a m => let ⟨o, e⟩ := x a m; ⟨o, k a o e⟩
theorem MOk.fresh {M h} (x : MOk M h) : h.objs.size ∉ M := fun m => let ⟨_, e⟩ := x _ m; Nat.lt_irrefl _ (Heap.lt_size e)

/-- the block's names, read as data; W: the addresses of the block's own variables -/
structure EN (mg mb : Str → Option Value) (env : Env) (nm : List (Str × NameKind)) (W : List Addr) (σ : List (Str × Bd)) (M : List Addr) (h : Heap) : Prop where
  fn : env.scope.kind = .function
  gl : env.globals = mainGlobals
  bl : env.builtins = builtinsNs
  loc : ∀ x b, isLoc (nm.lookup x) = true → σ.lookup x = some b → ∃ v, Nm env h x v ∧ b.ok M h v
  glb : ∀ x, nm.lookup x = some .globalImplicit → env.kindOf x = some .globalImplicit
  kl : ∀ x, nm.lookup x = some .local → env.kindOf x = some .local
  kc : ∀ x, nm.lookup x = some .cell → env.kindOf x = some .cell ∧ ∃ c v, env.cells.lookup x = some c ∧ c ∈ W ∧ h.IsCell c v
  kf : ∀ x, nm.lookup x = some .free → (env.kindOf x = some .cell ∨ env.kindOf x = some .free) ∧ ∃ c v, env.cells.lookup x = some c ∧ h.IsCell c v
  inj : ∀ x y c, env.cells.lookup x = some c → env.cells.lookup y = some c → x = y
  ns : ∃ m, h.Ns env.locals m
  wl : env.locals ∈ W
  wo : ∀ a ∈ W, ∃ o, h.get? a = some o ∧ ((∃ es n, o.data = .dict es n) ∨ ∃ v, o.data = .cell v)
  g : h.Ns mainGlobals mg
  b : h.Ns builtinsNs mb
  gw : mainGlobals ∉ W
  bw : builtinsNs ∉ W
  lw : cStatics ∉ W
  lim : h.NoLimit
  mok : MOk M h

theorem EN.stay {mg mb env nm W σ M h h'} (x : EN mg mb env nm W σ M h) (k : Stay h h') : EN mg mb env nm W σ M h' where
  fn := x.fn
  gl := x.gl
  bl := x.bl
  loc := fun y b i l => let ⟨v, n, o⟩ := x.loc y b i l; ⟨v, n.stay k, o.stay k⟩
  glb := x.glb
  kl := x.kl
  kc := fun y i => let ⟨a, c, v, e, m, i⟩ := x.kc y i; ⟨a, c, v, e, m, i.keeps k⟩
  kf := fun y i => let ⟨a, c, v, e, i⟩ := x.kf y i; ⟨a, c, v, e, i.keeps k⟩
  inj := x.inj
  ns := let ⟨m, n⟩ := x.ns; ⟨m, n.keeps k⟩
  wl := x.wl
  wo := fun a m => let ⟨o, e, d⟩ := x.wo a m; ⟨o, k a o e, d⟩
  g := x.g.keeps k
  b := x.b.keeps k
  gw := x.gw
  bw := x.bw
  lw := x.lw
  lim := x.lim.keeps k
  mok := x.mok.stay k

section
variable (prog : Program) (w : World)

/-- the expression gives the data, and the heap only grows -/
structure EV (k : Nat) (M : List Addr) (env : Env) (h : Heap) (e : Expr) (d : PyData) : Prop where
  run : ∀ {A : Around} {s : Shared} {Q : Value → Shared → Prop} {E : Value → Shared → Prop}, Rm k A → Stay h s.heap →
    (∀ v h' tk, Stay s.heap h' → Rd M h' v d → Q v { s with heap := h', toks := tk }) → wpAny (model prog w) A (eval e env) Q E s
/-- the test comes out so -/
structure TV (k : Nat) (env : Env) (h : Heap) (e : Expr) (b : Bool) : Prop where
  run : ∀ {A : Around} {s : Shared} {Q : Bool → Shared → Prop} {E : Value → Shared → Prop}, Rm k A → Stay h s.heap →
    (∀ h' tk, Stay s.heap h' → Q b { s with heap := h', toks := tk }) → wpAny (model prog w) A (isTrue e env (eval e env)) Q E s
/-- a comparison of two values that read so -/
structure CM (op : CmpOp) (x y : PyData) (b : Bool) : Prop where
  run : ∀ {k : Nat} {A : Around} {s : Shared} {Q : Value → Shared → Prop} {E : Value → Shared → Prop} {u v : Value}, Rm k A → Rd [] s.heap u x → Rd [] s.heap v y →
    Q (.bool b) s → wpAny (model prog w) A (compareOp op u v) Q E s
structure BO (op : Operator) (x y d : PyData) : Prop where
  run : ∀ {k : Nat} {A : Around} {s : Shared} {Q : Value → Shared → Prop} {E : Value → Shared → Prop} {u v : Value} {M : List Addr}, Rm k A → MOk M s.heap → Rd M s.heap u x → Rd M s.heap v y →
    (∀ r h' tk, Stay s.heap h' → Rd M h' r d → Q r { s with heap := h', toks := tk }) → wpAny (model prog w) A (binaryOp op u v) Q E s
end

variable {prog : Program} {w : World} {k : Nat} {M : List Addr} {env : Env} {h : Heap} {mg mb : Str → Option Value} {nm : List (Str × NameKind)} {W : List Addr} {σ : List (Str × Bd)}

theorem EV.stay {e d h'} (x : EV prog w k M env h e d) (s : Stay h h') : EV prog w k M env h' e d := ⟨fun r t q => x.run r (s.trans t) q⟩
theorem TV.stay {e d h'} (x : TV prog w k env h e d) (s : Stay h h') : TV prog w k env h' e d := ⟨fun r t q => x.run r (s.trans t) q⟩
theorem EV.off {e d} (x : EV prog w k M env h e d) : EV prog w k [] env h e d := ⟨fun r t q => x.run r t fun v h' tk a b => q v h' tk a b.off⟩
theorem EV.cast {e d d'} (x : EV prog w k M env h e d) (y : d = d') : EV prog w k M env h e d' := y ▸ x
theorem TV.cast {e d d'} (x : TV prog w k env h e d) (y : d = d') : TV prog w k env h e d' := y ▸ x
theorem EV.room {e d k'} (x : EV prog w k M env h e d) (y : k ≤ k') : EV prog w k' M env h e d := ⟨fun r t q => x.run (r.mono y) t q⟩

theorem Nm.load {A : Around} {s : Shared} {Q : Value → Shared → Prop} {E : Value → Shared → Prop} {x : Str} {v : Value} {pos : Pos} (n : Nm env s.heap x v) (fn : env.scope.kind = .function) (hd : (x == ("__debug__" : Str)) = false) (hf : (x == ("__classdict__" : Str)) = false) (q : Q v s) :
    wpAny (model prog w) A (eval (.Name x pos) env) Q E s := by
  cases n with
  | loc m a b c => exact wpAny_Name (wpAny_loadName_local fn a b c q) hd
  | cell c a b d => exact wpAny_Name (wpAny_loadName_cell fn a b d q) hd
  | free c a b d => exact wpAny_Name (wpAny_loadName_free fn a b d q hf) hd

theorem ev_name {x : Str} {pos : Pos} {d : PyData} (H : EN mg mb env nm W σ M h) (i : isLoc (nm.lookup x) = true) (l : σ.lookup x = some (.d d))
    (hd : ((x == ("__debug__" : Str)) || (x == ("__classdict__" : Str))) = false) : EV prog w k M env h (.Name x pos) d := ⟨fun {A s Q E} r t q => by
  obtain ⟨v, n, o⟩ := H.loc x _ i l
  obtain ⟨h1, h2⟩ := Bool.or_eq_false_iff.mp hd
  exact (n.stay t).load H.fn h1 h2 (q v s.heap s.toks (.refl _) (Rd.stay o t))⟩

theorem ev_glob {x : Str} {pos : Pos} {v : Value} {d : PyData} (H : EN mg mb env nm W σ M h) (i : nm.lookup x = some .globalImplicit) (l : mg x = some v) (o : Rd M h v d)
    (hd : (x == ("__debug__" : Str)) = false) : EV prog w k M env h (.Name x pos) d := ⟨fun {A s Q E} r t q => by
  refine Name_function_global H.fn (H.glb x i) (loadGlobal_global (mg := mg) (by rw [H.gl]; exact H.g.keeps t) l (q v s.heap s.toks (.refl _) (Rd.stay o t))) hd⟩

theorem ev_int {i : Int} {kk : Nat} {pos : Pos} : EV prog w k M env h (.Constant (.int i) kk pos) (.int i) := ⟨fun {A s Q E} _ _ q => wpAny_Constant_int (q _ s.heap _ (.refl _) (.int ..))⟩
theorem ev_str {x : Str} {kk : Nat} {pos : Pos} : EV prog w k M env h (.Constant (.str x) kk pos) (.str x) := ⟨fun {A s Q E} _ _ q => wpAny_Constant_str (q _ s.heap _ (.refl _) (.str ..))⟩
theorem ev_bool {b : Bool} {kk : Nat} {pos : Pos} : EV prog w k M env h (.Constant (.bool b) kk pos) (.bool b) := ⟨fun {A s Q E} _ _ q => wpAny_Constant_bool (q _ s.heap s.toks (.refl _) (.bool ..))⟩

theorem ev_bin {l r : Expr} {op : Operator} {pos : Pos} {x y d : PyData} (H : EN mg mb env nm W σ M h) (a : EV prog w k M env h l x) (b : EV prog w k M env h r y) (o : BO prog w op x y d) : EV prog w k M env h (.BinOp l op r pos) d :=
  ⟨fun {A s Q E} m t q => wpAny_BinOp (a.run m t fun u h₁ t₁ s₁ r₁ => b.run m (t.trans s₁) fun v h₂ t₂ s₂ r₂ =>
    o.run m (H.mok.stay (t.trans (s₁.trans s₂))) (r₁.stay s₂) r₂ fun z h₃ t₃ s₃ r₃ => q z h₃ t₃ (s₁.trans (s₂.trans s₃)) r₃)⟩

theorem ev_cmp {l r : Expr} {op : CmpOp} {pos : Pos} {x y : PyData} {c : Bool} {M₁ M₂ : List Addr} (a : EV prog w k M₁ env h l x) (b : EV prog w k M₂ env h r y) (o : CM prog w op x y c)
    (hm : behindInMarks op r = false) : EV prog w k M env h (.Compare l [op] [r] pos) (.bool c) :=
  ⟨fun {A s Q E} m t q => wpAny_Compare1 (a.run m t fun u h₁ t₁ s₁ r₁ => b.run m (t.trans s₁) fun v h₂ t₂ s₂ r₂ =>
    o.run m (r₁.stay s₂).off r₂.off (q _ h₂ t₂ (s₁.trans s₂) (.bool _))) hm⟩
theorem tv_cmp {l r : Expr} {op : CmpOp} {pos : Pos} {x y : PyData} {c : Bool} {M₁ M₂ : List Addr} (a : EV prog w k M₁ env h l x) (b : EV prog w k M₂ env h r y) (o : CM prog w op x y c)
    (hm : behindInMarks op r = false) : TV prog w k env h (.Compare l [op] [r] pos) c :=
  ⟨fun {A s Q E} m t q => wpAny_isTrue_Compare1 (a.run m t fun u h₁ t₁ s₁ r₁ => b.run m (t.trans s₁) fun v h₂ t₂ s₂ r₂ =>
    o.run m (r₁.stay s₂).off r₂.off (wpAny_truthy_bool (q h₂ t₂ (s₁.trans s₂)))) hm⟩

theorem tv_and {es : List Expr} {pos : Pos} {b : Bool} (a : ∀ {A : Around} {s : Shared} {Q : Bool → Shared → Prop} {E : Value → Shared → Prop}, Rm k A → Stay h s.heap →
    (∀ h' tk, Stay s.heap h' → Q b { s with heap := h', toks := tk }) → wpAny (model prog w) A (allTrue .And es env) Q E s) : TV prog w k env h (.BoolOp .And es pos) b :=
  ⟨fun {A s Q E} m t q => wpAny_isTrue_BoolOp (a m t q)⟩
theorem tv_and2 {x y : Expr} {pos : Pos} {a b : Bool} (p : TV prog w k env h x a) (q : a = true → TV prog w k env h y b) : TV prog w k env h (.BoolOp .And [x, y] pos) (a && b) :=
  ⟨fun {A s Q E} m t r => wpAny_isTrue_BoolOp (wpAny_allTrue_And_cons (p.run m t fun h₁ t₁ s₁ => by
    cases a with
    | false => exact r h₁ t₁ s₁
    | true => exact wpAny_allTrue_And_cons ((q rfl).run m (t.trans s₁) fun h₂ t₂ s₂ => by
        cases b with
        | false => exact r h₂ t₂ (s₁.trans s₂)
        | true => exact wpAny_allTrue_And_nil (r h₂ t₂ (s₁.trans s₂))))) ⟩
theorem tv_or2 {x y : Expr} {pos : Pos} {a b : Bool} (p : TV prog w k env h x a) (q : a = false → TV prog w k env h y b) : TV prog w k env h (.BoolOp .Or [x, y] pos) (a || b) :=
  ⟨fun {A s Q E} m t r => wpAny_isTrue_BoolOp (wpAny_allTrue_Or_cons (p.run m t fun h₁ t₁ s₁ => by
    cases a with
    | true => exact r h₁ t₁ s₁
    | false => exact wpAny_allTrue_Or_cons ((q rfl).run m (t.trans s₁) fun h₂ t₂ s₂ => by
        cases b with
        | true => exact r h₂ t₂ (s₁.trans s₂)
        | false => exact wpAny_allTrue_Or_nil (r h₂ t₂ (s₁.trans s₂))))) ⟩
theorem tv_not {x : Expr} {pos : Pos} {a : Bool} (p : TV prog w k env h x a) : TV prog w k env h (.UnaryOp .Not x pos) (!a) :=
  ⟨fun {A s Q E} m t r => wpAny_isTrue_Not (p.run m t fun h₁ t₁ s₁ => r h₁ t₁ s₁)⟩
theorem ev_ite {c x y : Expr} {pos : Pos} {b : Bool} {d : PyData} (p : TV prog w k env h c b) (q : b = true → EV prog w k M env h x d) (r : b = false → EV prog w k M env h y d) : EV prog w k M env h (.IfExp c x y pos) d :=
  ⟨fun {A s Q E} m t z => wpAny_IfExp (p.run m t fun h₁ t₁ s₁ => by
    cases b with
    | true => exact (q rfl).run m (t.trans s₁) fun v h₂ t₂ s₂ r₂ => z v h₂ t₂ (s₁.trans s₂) r₂
    | false => exact (r rfl).run m (t.trans s₁) fun v h₂ t₂ s₂ r₂ => z v h₂ t₂ (s₁.trans s₂) r₂)⟩
end Mine
namespace Mine
open PySem PySem.Calls PyProof.Rows
variable {prog : Program} {w : World} {k : Nat} {M : List Addr} {env : Env} {h : Heap} {mg mb : Str → Option Value} {nm : List (Str × NameKind)} {W : List Addr} {σ : List (Str × Bd)}

/-! several expressions in a row -/
inductive EVs (prog : Program) (w : World) (k : Nat) (M : List Addr) (env : Env) (h : Heap) : List Expr → List PyData → Prop
  | nil : EVs prog w k M env h [] []
  | cons {e d es ds} : EV prog w k M env h e d → EVs prog w k M env h es ds → (∀ rest, starEach (e :: rest) env = (false, eval e env) :: starEach rest env) → EVs prog w k M env h (e :: es) (d :: ds)

theorem EVs.run {es ds} (x : EVs prog w k M env h es ds) : ∀ {A : Around} {s : Shared} {Q : List Value → Shared → Prop} {E : Value → Shared → Prop} {pos : Pos}, Rm k A → Stay h s.heap →
    (∀ vs h' tk, Stay s.heap h' → RdAll M h' vs ds → Q vs { s with heap := h', toks := tk }) → wpAny (model prog w) A (spliced (backTo pos (starEach es env))) Q E s := by
  induction x with
  | nil => intro A s Q E pos _ _ q; exact wpAny_items_nil (q [] s.heap s.toks (.refl _) .nil)
  | cons a r he ih =>
    intro A s Q E pos m t q
    refine wpAny_items_cons (a.run m t fun v h₁ t₁ s₁ r₁ => ih m (t.trans s₁) fun vs h₂ t₂ s₂ r₂ => q _ h₂ t₂ (s₁.trans s₂) (.cons (r₁.stay s₂) r₂)) (he _)

theorem get_push (h : Heap) (o : Obj) (hf : o.isFreed = false) : (h.push o).get? h.objs.size = some o := Heap.get?_push_size _ hf
theorem MOk.newList {M h vs ds} (mk : MOk M h) (r : RdAll M h vs ds) : Rd M (h.push { cls := .type "list", data := .seq vs.toArray }) (.ref h.objs.size) (.list ds) :=
  .list (get_push _ _ rfl) mk.fresh (by simpa using r.stay (Stay.push _ _))
theorem MOk.newTup {M h vs ds} (mk : MOk M h) (r : RdAll M h vs ds) : Rd M (h.push { cls := .type "tuple", data := .seq vs.toArray }) (.ref h.objs.size) (.tuple ds) :=
  .tuple (get_push _ _ rfl) mk.fresh (by simpa using r.stay (Stay.push _ _))

theorem small_line {n : Nat} (h : n ≤ 1000000) : n ≤ sizeLine := Nat.le_trans h (by rw [show sizeLine = 16777216 from rfl]; omega)

theorem ev_list {es : List Expr} {pos : Pos} {ds : List PyData} (H : EN mg mb env nm W σ M h) (a : EVs prog w k M env h es ds) (hn : ds.length ≤ 1000000 := by simp) : EV prog w k M env h (.List es pos) (.list ds) :=
  ⟨fun {A s Q E} m t q => wpAny_List (a.run m t fun vs h₁ t₁ s₁ r₁ => ⟨by rw [r₁.length]; exact small_line hn, q _ _ _ (s₁.trans (Stay.push _ _)) ((H.mok.stay (t.trans s₁)).newList r₁)⟩)⟩
theorem ev_tuple {es : List Expr} {kk : Nat} {pos : Pos} {ds : List PyData} (H : EN mg mb env nm W σ M h) (a : EVs prog w k M env h es ds) (hn : ds.length ≤ 1000000 := by simp) : EV prog w k M env h (.Tuple es kk pos) (.tuple ds) :=
  ⟨fun {A s Q E} m t q => wpAny_Tuple (a.run m t fun vs h₁ t₁ s₁ r₁ => ⟨by rw [r₁.length]; exact small_line hn, q _ _ _ (s₁.trans (Stay.push _ _)) ((H.mok.stay (t.trans s₁)).newTup r₁)⟩)⟩

/-! operators -/
section
variable {a b : Int}
theorem bo_int {op : Operator} {c : Int} (r : ∀ {A : Around} {s : Shared} {Q : Value → Shared → Prop} {E : Value → Shared → Prop} {t u : Tok}, Q (.int c s.toks) { s with toks := s.toks + 1 } → wpAny (model prog w) A (binaryOp op (.int a t) (.int b u)) Q E s) :
    BO prog w op (.int a) (.int b) (.int c) := ⟨fun {k A s Q E u v M} m mk x y q => by
  obtain ⟨t, rfl⟩ := x.intVal; obtain ⟨t', rfl⟩ := y.intVal
  exact r (q _ s.heap _ (.refl _) (.int ..))⟩
theorem bo_add : BO prog w .Add (.int a) (.int b) (.int (a + b)) := bo_int fun q => PyProof.Rows.add_int q
theorem bo_sub : BO prog w .Sub (.int a) (.int b) (.int (a - b)) := bo_int fun q => PyProof.Rows.sub_int q
theorem bo_mul (hm : b.natAbs < 2 ^ 63) : BO prog w .Mult (.int a) (.int b) (.int (a * b)) := bo_int fun q => PyProof.Rows.mul_int q (.of_right (intBits_le_64 (by omega) (by omega)))
theorem bo_mulL (hm : a.natAbs < 2 ^ 63) : BO prog w .Mult (.int a) (.int b) (.int (a * b)) := bo_int fun q => PyProof.Rows.mul_int q (.of_left (intBits_le_64 (by omega) (by omega)))
theorem bo_div (hb : b ≠ 0) (hs : b.natAbs < 1073741824) : BO prog w .FloorDiv (.int a) (.int b) (.int (a.fdiv b)) := bo_int fun q => PyProof.Rows.floordiv_int hb q (.inl (PyProof.noPylong_small hs))
theorem bo_mod (hb : b ≠ 0) : BO prog w .Mod (.int a) (.int b) (.int (a.fmod b)) := bo_int fun q => PyProof.Rows.mod_int' hb q
theorem bo_pow (h0 : 0 ≤ b) (h1 : b ≤ 1000) (h2 : a.natAbs < 2 ^ 63) : BO prog w .Pow (.int a) (.int b) (.int (a ^ b.toNat)) := bo_int fun q => PyProof.Rows.pow_int h0 (by
  have := intBits_le_64 (k := a) (by omega) (by omega)
  have h3 : (Builtin.Int.intBits a : Int) ≤ 64 := by omega
  have h4 : (Builtin.Int.intBits a : Int) * b ≤ 64 * b := Int.mul_le_mul_of_nonneg_right h3 h0
  omega) q
theorem bo_shl (h0 : 0 ≤ b) (h1 : b ≤ 1000000) (h2 : a.natAbs < 2 ^ 64) : BO prog w .LShift (.int a) (.int b) (.int (a * 2 ^ b.toNat)) := bo_int fun q => PyProof.Rows.lshift_int_small h0 h1 h2 q
theorem bo_shr (h0 : 0 ≤ b) : BO prog w .RShift (.int a) (.int b) (.int (a.fdiv (2 ^ b.toNat))) := bo_int fun q => PyProof.Rows.rshift_int h0 q
theorem bo_and : BO prog w .BitAnd (.int a) (.int b) (.int (Builtin.bitAnd a b)) := bo_int fun q => PyProof.Rows.and_int q
theorem bo_or : BO prog w .BitOr (.int a) (.int b) (.int (Builtin.bitOr a b)) := bo_int fun q => PyProof.Rows.or_int q
end
theorem bo_str {x y : Str} (hs : x.length + y.length ≤ sizeLine) : BO prog w .Add (.str x) (.str y) (.str (x ++ y)) := ⟨fun {k A s Q E u v M} m mk x y q => by
  obtain ⟨t, rfl⟩ := x.strVal; obtain ⟨t', rfl⟩ := y.strVal
  exact PyProof.Rows.add_str (fun t' tk => q _ s.heap _ (.refl _) (.str ..)) hs⟩
theorem bo_list {x y : List PyData} (hs : x.length + y.length ≤ 1000000) : BO prog w .Add (.list x) (.list y) (.list (x ++ y)) := ⟨fun {k A s Q E u v M} m mk x y q => by
  obtain ⟨a, vs, n, rfl, g, ma, r⟩ := x.listRef
  obtain ⟨b, us, n', rfl, g', mb, r'⟩ := y.listRef
  have e1 := r.length
  have e2 := r'.length
  refine PySem.P.add_list (items := vs) (items2 := us) g g' (q _ _ _ (Stay.push _ _) ?_) (small_line (by simp at e1 e2; omega))
  have := mk.newList (r.append r')
  rw [show (vs.toList ++ us.toList).toArray = vs ++ us from by rw [← Array.toList_append, Array.toArray_toList]] at this
  exact this⟩

/-! comparisons -/
theorem rc_ne {A : Around} {s : Shared} {Q : Value → Shared → Prop} {E : Value → Shared → Prop} {a b : Value} {k : Bool} (h : SeqAt.RcNeAt A s a b k) (hq : Q (.bool k) s) : wpAny (model prog w) A (compareOp .NotEq a b) Q E s := h prog w E Q hq
theorem allT (n : Nat) : ((List.range n).all fun _ => true) = true := by simp [List.all_eq_true]
section
variable {a b : Int} {x y : Str}
theorem cm_ii {op : CmpOp} {c : Bool} (r : ∀ {A : Around} {s : Shared} {Q : Value → Shared → Prop} {E : Value → Shared → Prop} {t u : Tok}, Q (.bool c) s → wpAny (model prog w) A (compareOp op (.int a t) (.int b u)) Q E s) :
    CM prog w op (.int a) (.int b) c := ⟨fun {k A s Q E u v} m x y q => by
  obtain ⟨t, rfl⟩ := x.intVal; obtain ⟨t', rfl⟩ := y.intVal
  exact r q⟩
theorem cm_eq : CM prog w .Eq (.int a) (.int b) (a == b) := cm_ii fun q => PyProof.Rows.eq_int q
theorem cm_ne : CM prog w .NotEq (.int a) (.int b) (a != b) := cm_ii fun q => PyProof.Rows.ne_int q
theorem cm_lt : CM prog w .Lt (.int a) (.int b) (decide (a < b)) := cm_ii fun q => PyProof.Rows.lt_int q
theorem cm_gt : CM prog w .Gt (.int a) (.int b) (decide (b < a)) := cm_ii fun q => PyProof.Rows.gt_int q
theorem cm_seq : CM prog w .Eq (.str x) (.str y) (x == y) := ⟨fun {k A s Q E u v} m x y q => by
  obtain ⟨t, rfl⟩ := x.strVal; obtain ⟨t', rfl⟩ := y.strVal
  exact PyProof.Rows.eq_str q⟩
theorem cm_sne : CM prog w .NotEq (.str x) (.str y) (x != y) := ⟨fun {k A s Q E u v} m x y q => by
  obtain ⟨t, rfl⟩ := x.strVal; obtain ⟨t', rfl⟩ := y.strVal
  exact PyProof.Rows.ne_str q⟩
end

mutual
def dep : PyData → Nat
  | .list xs => depAll xs + 1
  | .tuple xs => depAll xs + 1
  | _ => 0
def depAll : List PyData → Nat
  | [] => 0
  | x :: r => max (dep x) (depAll r)
end
theorem dep_mem : ∀ {xs : List PyData} {x}, x ∈ xs → dep x ≤ depAll xs
  | y :: r, x, hm => by
    rw [depAll]
    rcases List.mem_cons.mp hm with rfl | hm
    · exact Nat.le_max_left ..
    · exact Nat.le_trans (dep_mem hm) (Nat.le_max_right ..)
open SeqAt in
theorem eqAt_same : ∀ (n : Nat) {d : PyData} {A : Around} {s : Shared} {u v : Value}, dep d ≤ n → A.units + n < cLine → Rd [] s.heap u d → Rd [] s.heap v d → EqAt A s u v true
  | 0, d, A, s, u, v, hd, hu, x, y => by
    cases x with
    | none => cases y with | none => exact EqAt.same _
    | bool b => cases y with | bool b => exact EqAt.same _
    | int i t => cases y with | int _ t' => have := (MeetsSeq.EqGives.int i i t t').at A s; simpa using this
    | str i t => cases y with | str _ t' => have := (SeqRoads2.EqGives.str i i t t').at A s; simpa using this
    | list g m r => simp [dep] at hd
    | tuple g m r => simp [dep] at hd
  | n + 1, d, A, s, u, v, hd, hu, x, y => by
    cases x with
    | none => cases y with | none => exact EqAt.same _
    | bool b => cases y with | bool b => exact EqAt.same _
    | int i t => cases y with | int _ t' => have := (MeetsSeq.EqGives.int i i t t').at A s; simpa using this
    | str i t => cases y with | str _ t' => have := (SeqRoads2.EqGives.str i i t t').at A s; simpa using this
    | @list a vs k xs g m r =>
      cases y with
      | @list a' vs' k' _ g' m' r' =>
        by_cases hne : a = a'
        · subst hne; exact EqAt.same _
        · have e1 := r.length
          have e2 := r'.length
          simp at e1 e2
          refine EqAt.of_refs hne ?_
          have := RcAt.lists (A := A) (s := s) (l := a) (b := a') (items := vs) (items2 := vs') (e := fun _ => true) ⟨_, g, rfl, _, rfl⟩ ⟨_, g', rfl, _, rfl⟩ (by omega) (by omega) (fun j h1 h2 => by
            obtain ⟨d₁, q₁, z₁⟩ := r.atV (i := j) (v := vs[j]) (by simp [h1])
            obtain ⟨d₂, q₂, z₂⟩ := r'.atV (i := j) (v := vs'[j]) (by simp [h2])
            rw [q₁] at q₂; cases q₂
            have hdm := dep_mem (List.mem_of_getElem? q₁)
            rw [dep] at hd
            exact eqAt_same n (by omega) (by simp; omega) z₁ z₂)
          simpa [allT] using this
    | @tuple a vs k xs g m r =>
      cases y with
      | @tuple a' vs' k' _ g' m' r' =>
        by_cases hne : a = a'
        · subst hne; exact EqAt.same _
        · have e1 := r.length
          have e2 := r'.length
          simp at e1 e2
          refine EqAt.of_refs hne ?_
          have := RcAt.tuples (A := A) (s := s) (l := a) (b := a') (items := vs) (items2 := vs') (e := fun _ => true) ⟨_, g, rfl, _, rfl⟩ ⟨_, g', rfl, _, rfl⟩ (by omega) (fun j h1 h2 => by
            obtain ⟨d₁, q₁, z₁⟩ := r.atV (i := j) (v := vs[j]) (by simp [h1])
            obtain ⟨d₂, q₂, z₂⟩ := r'.atV (i := j) (v := vs'[j]) (by simp [h2])
            rw [q₁] at q₂; cases q₂
            have hdm := dep_mem (List.mem_of_getElem? q₁)
            rw [dep] at hd
            exact eqAt_same n (by omega) (by simp; omega) z₁ z₂)
          simpa [allT, show vs.size = vs'.size from by omega] using this

open SeqAt in
theorem cm_leq {xs : List PyData} (hd : depAll xs ≤ 20) : CM prog w .Eq (.list xs) (.list xs) true := ⟨fun {k A s Q E u v} m x y q => by
  obtain ⟨a, vs, n, rfl, g, _, r⟩ := x.listRef
  obtain ⟨a', vs', n', rfl, g', _, r'⟩ := y.listRef
  have e1 := r.length
  have e2 := r'.length
  simp at e1 e2
  have hu := m.units
  have hc : cLine = 9900 := rfl
  refine eq_listAt (items := vs) (items2 := vs') (e := fun _ => true) ⟨_, g, rfl, _, rfl⟩ ⟨_, g', rfl, _, rfl⟩ (by omega) (by omega) (fun j h1 h2 => ?_) (by simpa [allT] using q)
  obtain ⟨d₁, q₁, z₁⟩ := r.atV (i := j) (v := vs[j]) (by simp [h1])
  obtain ⟨d₂, q₂, z₂⟩ := r'.atV (i := j) (v := vs'[j]) (by simp [h2])
  rw [q₁] at q₂; cases q₂
  have hdm := dep_mem (List.mem_of_getElem? q₁)
  exact eqAt_same 20 (by omega) (by simp; omega) z₁ z₂⟩
open SeqAt in
theorem cm_lneq {xs : List PyData} (hd : depAll xs ≤ 20) : CM prog w .NotEq (.list xs) (.list xs) false := ⟨fun {k A s Q E u v} m x y q => by
  obtain ⟨a, vs, n, rfl, g, _, r⟩ := x.listRef
  obtain ⟨a', vs', n', rfl, g', _, r'⟩ := y.listRef
  have e1 := r.length
  have e2 := r'.length
  simp at e1 e2
  have hu := m.units
  have hc : cLine = 9900 := rfl
  refine rc_ne (RcNeAt.lists (items := vs) (items2 := vs') (e := fun _ => true) ⟨_, g, rfl, _, rfl⟩ ⟨_, g', rfl, _, rfl⟩ (by omega) (by omega) (fun j h1 h2 => ?_)) (by simpa [allT] using q)
  obtain ⟨d₁, q₁, z₁⟩ := r.atV (i := j) (v := vs[j]) (by simp [h1])
  obtain ⟨d₂, q₂, z₂⟩ := r'.atV (i := j) (v := vs'[j]) (by simp [h2])
  rw [q₁] at q₂; cases q₂
  have hdm := dep_mem (List.mem_of_getElem? q₁)
  exact eqAt_same 20 (by omega) (by simp; omega) z₁ z₂⟩
open SeqAt in
theorem cm_len_eq {xs ys : List PyData} (hl : xs.length ≠ ys.length) : CM prog w .Eq (.list xs) (.list ys) false := ⟨fun {k A s Q E u v} m x y q => by
  obtain ⟨a, vs, n, rfl, g, _, r⟩ := x.listRef
  obtain ⟨a', vs', n', rfl, g', _, r'⟩ := y.listRef
  have e1 := r.length
  have e2 := r'.length
  simp at e1 e2
  exact eq_list_lengthsAt (items := vs) (items2 := vs') ⟨_, g, rfl, _, rfl⟩ ⟨_, g', rfl, _, rfl⟩ (by simp; omega) m.uni q⟩
open SeqAt in
theorem cm_len_ne {xs ys : List PyData} (hl : xs.length ≠ ys.length) : CM prog w .NotEq (.list xs) (.list ys) true := ⟨fun {k A s Q E u v} m x y q => by
  obtain ⟨a, vs, n, rfl, g, _, r⟩ := x.listRef
  obtain ⟨a', vs', n', rfl, g', _, r'⟩ := y.listRef
  have e1 := r.length
  have e2 := r'.length
  simp at e1 e2
  exact rc_ne (RcNeAt.lists_lengths (items := vs) (items2 := vs') ⟨_, g, rfl, _, rfl⟩ ⟨_, g', rfl, _, rfl⟩ (by simp; omega) m.uni) q⟩

def il (l : List Int) : List PyData := l.map .int
theorem il_vals {M h} : ∀ {vs : List Value} {l : List Int}, RdAll M h vs (il l) → IntsAre vs l
  | [], [], _ => .nil
  | v :: vs, i :: l, .cons a r => by obtain ⟨t, rfl⟩ := a.intVal; exact .cons _ _ (il_vals r)
def isV (i : Int) : Value → Bool
  | .int j _ => j == i
  | _ => false
theorem any_isV {M h} (i : Int) : ∀ {vs : List Value} {l : List Int}, RdAll M h vs (il l) → vs.any (isV i) = l.contains i
  | [], [], _ => rfl
  | v :: vs, j :: l, .cons a r => by
    obtain ⟨t, rfl⟩ := a.intVal
    rw [List.any_cons, any_isV i r, List.contains_cons]
    show (j == i || _) = _
    rw [show (j == i) = (i == j) from BEq.comm]
theorem mem_vals {M h} : ∀ {vs : List Value} {l : List Int}, RdAll M h vs (il l) → ∀ v ∈ vs, ∃ i t, v = .int i t
  | [], [], _, _, hm => nomatch hm
  | v :: vs, j :: l, .cons a r, u, hm => by
    rcases List.mem_cons.mp hm with rfl | hm
    · obtain ⟨t, e⟩ := a.intVal; exact ⟨_, t, e⟩
    · exact mem_vals r u hm
open SeqAt in
theorem cm_in {i : Int} {l : List Int} : CM prog w .In (.int i) (.list (il l)) (l.contains i) := ⟨fun {k A s Q E u v} m x y q => by
  obtain ⟨t, rfl⟩ := x.intVal
  obtain ⟨a, vs, n, rfl, g, _, r⟩ := y.listRef
  refine in_listAt (items := vs) (isV i) ⟨_, g, rfl, _, rfl⟩ (fun y hy => ?_) (by rw [← Array.any_toList, any_isV i r]; exact q)
  obtain ⟨j, t', rfl⟩ := mem_vals r y (by simpa using hy)
  exact (MeetsSeq.EqGives.int j i t' t).at _ _⟩
open SeqAt in
theorem cm_nin {i : Int} {l : List Int} : CM prog w .NotIn (.int i) (.list (il l)) (!l.contains i) := ⟨fun {k A s Q E u v} m x y q => by
  obtain ⟨t, rfl⟩ := x.intVal
  obtain ⟨a, vs, n, rfl, g, _, r⟩ := y.listRef
  refine notIn_listAt (items := vs) (isV i) ⟨_, g, rfl, _, rfl⟩ (fun y hy => ?_) (by rw [← Array.any_toList, any_isV i r]; exact q)
  obtain ⟨j, t', rfl⟩ := mem_vals r y (by simpa using hy)
  exact (MeetsSeq.EqGives.int j i t' t).at _ _⟩

/-! an item, a slice -/
theorem ev_item {value slice : Expr} {pos : Pos} {xs : List PyData} {i : Int} {d : PyData} (a : EV prog w k M env h value (.list xs)) (b : EV prog w k M env h slice (.int i)) (h0 : 0 ≤ i) (h1 : i < 2 ^ 63) (hx : xs[i.toNat]? = some d)
    (hs : ∀ o j, subscripted slice false o j = operate [o, j] (getItem o j)) : EV prog w k M env h (.Subscript value slice pos) d :=
  ⟨fun {A s Q E} m t q => Subscript_ (a.run m t fun u h₁ t₁ s₁ r₁ => b.run m (t.trans s₁) fun v h₂ t₂ s₂ r₂ => by
    obtain ⟨tk, rfl⟩ := r₂.intVal
    obtain ⟨l, vs, n, rfl, g, _, r⟩ := (r₁.stay s₂).listRef
    obtain ⟨v, hv, rv⟩ := r.at hx
    have hl : h₂.IsList l vs := ⟨_, g, rfl, _, rfl⟩
    exact tail_any (s := ⟨h₂, s.gens, s.drawn, t₂, s.os⟩) hl.typeIs slot_list_getitem.lookup (wpAny_getItem_list hl h0 h1 (by simpa using hv) (q v h₂ t₂ (s₁.trans s₂) rv)) (hs _ _))⟩
theorem ev_itemS {value slice : Expr} {pos : Pos} {x : Str} {i : Int} {c : Nat} (a : EV prog w k M env h value (.str x)) (b : EV prog w k M env h slice (.int i)) (h0 : 0 ≤ i) (h1 : i < 2 ^ 63) (hx : x.cps.toList[i.toNat]? = some c)
    (hs : ∀ o j, subscripted slice false o j = operate [o, j] (getItem o j)) : EV prog w k M env h (.Subscript value slice pos) (.str ⟨#[c]⟩) :=
  ⟨fun {A s Q E} m t q => Subscript_ (a.run m t fun u h₁ t₁ s₁ r₁ => b.run m (t.trans s₁) fun v h₂ t₂ s₂ r₂ => by
    obtain ⟨tk, rfl⟩ := r₂.intVal
    obtain ⟨tk', rfl⟩ := r₁.strVal
    have hlt : i.toNat < x.cps.toList.length := by
      rcases Nat.lt_or_ge i.toNat x.cps.toList.length with z | z
      · exact z
      · rw [List.getElem?_eq_none z] at hx; cases hx
    simp at hlt
    have hn : x.length = x.cps.size := rfl
    refine tail_any (s := ⟨h₂, s.gens, s.drawn, t₂, s.os⟩) (T := "str") rfl PySem.F.slot_str_getitem.lookup (PyProof.Rows.getItem_str (by simp; omega) (by rw [seqIndex_of h0 (by omega)]; simpa using hx) (q _ h₂ _ (s₁.trans s₂) (.str ..))) (hs _ _))⟩
end Mine
namespace Mine
open PySem PySem.Calls PyProof.Rows
variable {prog : Program} {w : World} {k : Nat} {M : List Addr} {env : Env} {h : Heap} {mg mb : Str → Option Value} {nm : List (Str × NameKind)} {W : List Addr} {σ : List (Str × Bd)}

/-- all but the addresses V stays -/
def Eff (V : List Addr) (h h' : Heap) : Prop := ∀ a o, a ∉ V → h.get? a = some o → h'.get? a = some o
theorem Eff.refl (V : List Addr) (h : Heap) : Eff V h h := fun _ _ _ e => e
theorem Eff.trans {V : List Addr} {a b c : Heap} (x : Eff V a b) (y : Eff V b c) : Eff V a c := fun p o m e => y p o m (x p o m e)
theorem Eff.mono {V V' : List Addr} {a b : Heap} (x : Eff V a b) (s : ∀ c ∈ V, c ∈ V') : Eff V' a b := fun p o m e => x p o (fun z => m (s p z)) e
theorem Eff.of {V : List Addr} {a b : Heap} (x : Stay a b) : Eff V a b := fun p o _ e => x p o e
theorem Eff.stay {a b : Heap} (x : Eff [] a b) : Stay a b := fun p o e => x p o List.not_mem_nil e
theorem Eff.same {a : Addr} {h h' : Heap} (x : Heap.SameBut a h h') : Eff [a] h h' := fun p o m e => x.extBut p o (fun z => m (by simp [z])) e
theorem Eff.ext {a : Addr} {h h' : Heap} (x : Heap.ExtBut a h h') : Eff [a] h h' := fun p o m e => x p o (fun z => m (by simp [z])) e
/-- what is fresh does not count -/
theorem Eff.base {V : List Addr} {h₀ a b : Heap} (x : Eff V a b) (s : Stay h₀ a) (f : ∀ c ∈ V, h₀.get? c = none) : Stay h₀ b := fun p o e => x p o (fun z => by rw [f p z] at e; cases e) (s p o e)

def Seqs (M : List Addr) (h : Heap) : Prop := ∀ a ∈ M, ∃ o vs n, h.get? a = some o ∧ o.data = .seq vs n

theorem ns_same {h : Heap} {a : Addr} {m m' : Str → Option Value} (x : h.Ns a m) (y : h.Ns a m') : m = m' := by
  obtain ⟨o, es, ep, e, d, _, f⟩ := x
  obtain ⟨o', es', ep', e', d', _, f'⟩ := y
  rw [e] at e'; cases e'
  rw [d] at d'; cases d'
  funext n
  rw [← f n, ← f' n]
theorem ns_not_cell {h : Heap} {a : Addr} {m : Str → Option Value} {v} (x : h.Ns a m) (y : h.IsCell a v) : False := by
  obtain ⟨o, es, ep, e, d, _⟩ := x
  obtain ⟨o', e', d'⟩ := y
  rw [e] at e'; cases e'
  rw [d] at d'; cases d'

/-- a move that spares the variables' objects and the frozen data -/
theorem EN.moveM {M' : List Addr} {h h' : Heap} (H : EN mg mb env nm W σ M h) (sm : Seqs M h) (mk : MOk M' h')
    (kk : ∀ a o, h.get? a = some o → a ∉ M → (∀ vs, o.data ≠ .fields vs) → h'.get? a = some o ∧ a ∉ M') : EN mg mb env nm W σ M' h' := by
  have kw : ∀ a ∈ W, ∃ o, h'.get? a = some o ∧ ((∃ es n, o.data = .dict es n) ∨ ∃ v, o.data = .cell v) := fun a m => by
    obtain ⟨o, e, d⟩ := H.wo a m
    refine ⟨o, (kk a o e (fun z => ?_) (fun vs z => ?_)).1, d⟩
    · obtain ⟨o', vs, n', e', d'⟩ := sm a z
      rw [e] at e'; cases e'
      rcases d with ⟨es, n, d⟩ | ⟨v, d⟩ <;> (rw [d] at d'; cases d')
    · rcases d with ⟨es, n, d⟩ | ⟨v, d⟩ <;> (rw [d] at z; cases z)
  have kn : ∀ {a m}, h.Ns a m → h'.Ns a m := fun {a m} n => by
    obtain ⟨o, es, ep, e, d, r⟩ := n
    refine ⟨o, es, ep, (kk a o e (fun z => ?_) (fun vs z => by rw [d] at z; cases z)).1, d, r⟩
    obtain ⟨o', vs, n', e', d'⟩ := sm a z
    rw [e] at e'; cases e'; rw [d] at d'; cases d'
  have kc : ∀ {c v}, h.IsCell c v → h'.IsCell c v := fun {c v} n => by
    obtain ⟨o, e, d⟩ := n
    refine ⟨o, (kk c o e (fun z => ?_) (fun vs z => by rw [d] at z; cases z)).1, d⟩
    obtain ⟨o', vs, n', e', d'⟩ := sm c z
    rw [e] at e'; cases e'; rw [d] at d'; cases d'
  exact {
    fn := H.fn, gl := H.gl, bl := H.bl
    loc := fun x b i l => by
      obtain ⟨v, n, o⟩ := H.loc x b i l
      refine ⟨v, ?_, ?_⟩
      · cases n with
        | loc m a b c => exact .loc m a (kn b) c
        | cell c a b d => exact .cell c a b (kc d)
        | free c a b d => exact .free c a b (kc d)
      · cases b with
        | d x => exact Rd.move (fun b o vs n m e d => kk b o e m (fun vs z => by rw [d] at z; cases z)) o
        | r u => exact o
    glb := H.glb, kl := H.kl
    kc := fun x i => by obtain ⟨a, c, v, e, m, i⟩ := H.kc x i; exact ⟨a, c, v, e, m, kc i⟩
    kf := fun x i => by obtain ⟨a, c, v, e, i⟩ := H.kf x i; exact ⟨a, c, v, e, kc i⟩
    inj := H.inj
    ns := by obtain ⟨m, n⟩ := H.ns; exact ⟨m, kn n⟩
    wl := H.wl, wo := kw, g := kn H.g, b := kn H.b, gw := H.gw, bw := H.bw, lw := H.lw
    lim := by obtain ⟨mc, n, e⟩ := H.lim; exact ⟨mc, kn n, e⟩
    mok := mk }
theorem EN.move {h h' : Heap} (H : EN mg mb env nm W σ M h) (sm : Seqs M h) (mk : MOk M h')
    (kk : ∀ a o, h.get? a = some o → a ∉ M → (∀ vs, o.data ≠ .fields vs) → h'.get? a = some o) : EN mg mb env nm W σ M h' :=
  H.moveM sm mk (fun a o e m n => ⟨kk a o e m n, m⟩)
/-- a change at a dict that is none of the block's -/
theorem EN.other {h h' : Heap} {C : Addr} {mm} (H : EN mg mb env nm W σ M h) (hns : h.Ns C mm) (h1 : C ≠ env.locals) (h2 : C ≠ mainGlobals) (h3 : C ≠ builtinsNs) (h4 : C ≠ cStatics) (hs : Heap.SameBut C h h') (hCW : C ∉ W) (sm : Seqs M h) : EN mg mb env nm W σ M h' := by
  have kc : ∀ {c v}, h.IsCell c v → h'.IsCell c v := fun {c v} i => i.sameBut hs (fun z => ns_not_cell hns (z ▸ i))
  obtain ⟨od, es, ep, ed, dd, _⟩ := id hns
  exact {
    fn := H.fn, gl := H.gl, bl := H.bl
    loc := fun x b i l => by
      obtain ⟨v, n, o⟩ := H.loc x b i l
      refine ⟨v, ?_, ?_⟩
      · cases n with
        | loc m a b c => exact .loc m a (b.sameBut hs (Ne.symm h1)) c
        | cell c a b d => exact .cell c a b (kc d)
        | free c a b d => exact .free c a b (kc d)
      · cases b with
        | d x => exact Rd.move (fun b o vs n m e d => ⟨hs.extBut b o (fun z => by rw [z, ed] at e; cases e; rw [dd] at d; cases d) e, m⟩) o
        | r u => exact o
    glb := H.glb, kl := H.kl
    kc := fun x i => by obtain ⟨a, c, v, e, m, i⟩ := H.kc x i; exact ⟨a, c, v, e, m, kc i⟩
    kf := fun x i => by obtain ⟨a, c, v, e, i⟩ := H.kf x i; exact ⟨a, c, v, e, kc i⟩
    inj := H.inj
    ns := by obtain ⟨m, n⟩ := H.ns; exact ⟨m, n.sameBut hs (Ne.symm h1)⟩
    wl := H.wl, wo := fun a m => by
      obtain ⟨o, e, d⟩ := H.wo a m
      exact ⟨o, hs.extBut a o (fun z => hCW (z ▸ m)) e, d⟩
    g := H.g.sameBut hs (Ne.symm h2), b := H.b.sameBut hs (Ne.symm h3), gw := H.gw, bw := H.bw, lw := H.lw
    lim := by obtain ⟨mc, n, e⟩ := H.lim; exact ⟨mc, n.sameBut hs (Ne.symm h4), e⟩
    mok := fun a m => by
      obtain ⟨o, vs, n, e, d⟩ := sm a m
      exact ⟨o, hs.extBut a o (fun z => by rw [z, ed] at e; cases e; rw [dd] at d; cases d) e⟩ }

/-- a store to one of the block's names -/
theorem EN.store {A : Around} {s : Shared} {Q : Unit → Shared → Prop} {E : Value → Shared → Prop} {x : Str} {v : Value} {b : Bd}
    (H : EN mg mb env nm W σ M s.heap) (hx : nm.lookup x = some .local ∨ nm.lookup x = some .cell) (hb : b.ok M s.heap v)
    (q : ∀ h' tk, EN mg mb env nm W ((x, b) :: σ) M h' → Eff W s.heap h' → (∀ a o, s.heap.get? a = some o → (∀ es n, o.data ≠ .dict es n) → (∀ v, o.data ≠ .cell v) → h'.get? a = some o) → Q () { s with heap := h', toks := tk }) :
    wpAny (model prog w) A (storeName env x v) Q E s := by
  have rest : ∀ {h' : Heap} {a : Addr}, Heap.SameBut a s.heap h' → a ∈ W → (∀ o, s.heap.get? a = some o → (∃ es n, o.data = .dict es n) ∨ ∃ v, o.data = .cell v) → (∃ o, h'.get? a = some o ∧ ((∃ es n, o.data = .dict es n) ∨ ∃ v, o.data = .cell v)) →
      (∀ y u, y ≠ x → Nm env s.heap y u → Nm env h' y u) → Nm env h' x v → (∀ y, nm.lookup y = some .cell → env.kindOf y = some .cell ∧ ∃ c v, env.cells.lookup y = some c ∧ c ∈ W ∧ h'.IsCell c v) → (∀ c v, s.heap.IsCell c v → ∃ v', h'.IsCell c v') → (∃ m, h'.Ns env.locals m) →
      EN mg mb env nm W ((x, b) :: σ) M h' ∧ Eff W s.heap h' ∧ (∀ a o, s.heap.get? a = some o → (∀ es n, o.data ≠ .dict es n) → (∀ v, o.data ≠ .cell v) → h'.get? a = some o) := by
    intro h' a hs ha hd hex hnm hnx hkc hcv hns
    have eff : Eff W s.heap h' := (Eff.same hs).mono fun c hc => by rw [List.mem_singleton.mp hc]; exact ha
    have mild : ∀ a o, s.heap.get? a = some o → (∀ es n, o.data ≠ .dict es n) → (∀ v, o.data ≠ .cell v) → h'.get? a = some o := fun p o e h1 h2 => by
      refine hs.extBut p o (fun z => ?_) e
      subst z
      rcases hd o e with ⟨es, n, z⟩ | ⟨v, z⟩
      · exact h1 es n z
      · exact h2 v z
    have okm : ∀ {b : Bd} {u}, b.ok M s.heap u → b.ok M h' u := fun {b u} o => by
      cases b with
      | d y => exact Rd.move (fun b o vs n m e d => ⟨mild b o e (fun es n z => by rw [d] at z; cases z) (fun v z => by rw [d] at z; cases z), m⟩) o
      | r _ => exact o
    refine ⟨{
      fn := H.fn, gl := H.gl, bl := H.bl
      loc := fun y c i l => ?_
      glb := H.glb, kl := H.kl, kc := hkc, kf := fun y i => (let ⟨a, c, v, e, i⟩ := H.kf y i; let ⟨v', i'⟩ := hcv c v i; ⟨a, c, v', e, i'⟩), inj := H.inj, ns := hns, wl := H.wl
      wo := fun p hp => by
        by_cases z : p = a
        · subst z; exact hex
        · obtain ⟨o, e, d⟩ := H.wo p hp; exact ⟨o, hs.extBut p o z e, d⟩
      g := H.g.at' fun o e => eff _ o H.gw e
      b := H.b.at' fun o e => eff _ o H.bw e
      gw := H.gw, bw := H.bw, lw := H.lw
      lim := by obtain ⟨mc, n, e⟩ := H.lim; exact ⟨mc, n.at' (fun o e => eff _ o H.lw e), e⟩
      mok := fun p hp => ?_ }, eff, mild⟩
    · rw [List.lookup_cons] at l
      cases hy : y == x with
      | true =>
        rw [hy] at l; cases l
        have := eq_of_beq hy; subst this
        exact ⟨v, hnx, okm hb⟩
      | false =>
        rw [hy] at l
        obtain ⟨u, n, o⟩ := H.loc y c i l
        exact ⟨u, hnm y u (fun z => by simp [z] at hy) n, okm o⟩
    · by_cases z : p = a
      · subst z; obtain ⟨o, e, _⟩ := hex; exact ⟨o, e⟩
      · obtain ⟨o, e⟩ := H.mok p hp
        exact ⟨o, hs.extBut p o z e⟩
  obtain ⟨m, hm⟩ := H.ns
  have hdict : ∀ o, s.heap.get? env.locals = some o → (∃ es n, o.data = .dict es n) ∨ ∃ v, o.data = .cell v := fun o e => by
    obtain ⟨o', es, ep, e', d, _⟩ := hm
    rw [e] at e'; cases e'
    exact .inl ⟨es, ep, d⟩
  rcases hx with hx | hx
  · have hk := H.kl x hx
    refine wpAny_storeName_local hk hm (fun h' hn hs => ?_) (by rw [H.fn]; rfl)
    have old : ∀ {c u}, s.heap.IsCell c u → h'.IsCell c u := fun {c u} i => i.sameBut hs (fun z => ns_not_cell hm (z ▸ i))
    obtain ⟨r1, r2, r3⟩ := rest hs H.wl hdict (let ⟨o, es, n, e, d, _⟩ := hn; ⟨o, e, .inl ⟨es, n, d⟩⟩) (fun y u ne n => by
        cases n with
        | loc m' a b c =>
          have := ns_same hm b; subst this
          exact .loc _ a hn (by show (if y = x then _ else _) = _; rw [if_neg ne]; exact c)
        | cell c a b d => exact .cell c a b (old d)
        | free c a b d => exact .free c a b (old d)) (.loc _ hk hn (by simp)) (fun y i => by obtain ⟨a, c, v, e, m, i⟩ := H.kc y i; exact ⟨a, c, v, e, m, old i⟩) (fun c v i => ⟨v, old i⟩) ⟨_, hn⟩
    exact q h' _ r1 r2 r3
  · obtain ⟨hk, c, v₀, hc, hw, hi⟩ := H.kc x hx
    refine wpAny_storeName_cell H.fn hk hc hi (fun h' hn hs => ?_)
    have lne : env.locals ≠ c := fun z => ns_not_cell hm (z ▸ hi)
    have old : ∀ {c' u}, c' ≠ c → s.heap.IsCell c' u → h'.IsCell c' u := fun {c' u} z i => i.sameBut hs z
    obtain ⟨r1, r2, r3⟩ := rest hs hw (fun o e => by obtain ⟨o', e', d⟩ := hi; rw [e] at e'; cases e'; exact .inr ⟨_, d⟩) (let ⟨o, e, d⟩ := hn; ⟨o, e, .inr ⟨_, d⟩⟩) (fun y u ne n => by
        cases n with
        | loc m' a b c' => exact .loc m' a (b.sameBut hs lne) c'
        | cell c' a b d => exact .cell c' a b (old (fun z => ne (H.inj y x c (z ▸ b) hc)) d)
        | free c' a b d => exact .free c' a b (old (fun z => ne (H.inj y x c (z ▸ b) hc)) d)) (.cell c hk hc hn) (fun y i => by
          obtain ⟨a, c', v', e, m, i⟩ := H.kc y i
          by_cases z : c' = c
          · subst z; exact ⟨a, _, _, e, m, hn⟩
          · exact ⟨a, c', v', e, m, old z i⟩) (fun c' v' i => by
          by_cases z : c' = c
          · subst z; exact ⟨_, hn⟩
          · exact ⟨v', old z i⟩) ⟨m, hm.sameBut hs lne⟩
    exact q h' _ r1 r2 r3

theorem EN.drop {h : Heap} {bs : List (Str × Bd)} (H : EN mg mb env nm W (bs ++ σ) M h) (hn : ∀ x b, bs.lookup x = some b → σ.lookup x = none) : EN mg mb env nm W σ M h :=
  { H with loc := fun x b i l => H.loc x b i (by
      have : bs.lookup x = none := by
        cases e : bs.lookup x with
        | none => rfl
        | some c => rw [hn x c e] at l; cases l
      induction bs with
      | nil => exact l
      | cons p r ih =>
        rw [List.lookup_cons] at this
        rw [List.cons_append, List.lookup_cons]
        cases hp : x == p.1 with
        | true => rw [hp] at this; cases this
        | false =>
          rw [hp] at this
          simp only
          clear hn ih
          revert this
          clear H
          induction r with
          | nil => intro _; exact l
          | cons p' r' ih' =>
            intro t
            rw [List.lookup_cons] at t
            rw [List.cons_append, List.lookup_cons]
            cases hp' : x == p'.1 with
            | true => rw [hp'] at t; cases t
            | false => rw [hp'] at t; exact ih' t) }
end Mine
namespace Mine
open PySem PySem.Calls PyProof.Rows
variable {prog : Program} {w : World} {k : Nat} {M : List Addr} {env : Env} {h : Heap} {mg mb : Str → Option Value} {nm : List (Str × NameKind)} {W : List Addr} {σ : List (Str × Bd)}

/-! targets -/
inductive Tg (nm : List (Str × NameKind)) : Expr → PyData → List (Str × Bd) → Prop
  | name {x pos d} : (nm.lookup x = some .local ∨ nm.lookup x = some .cell) → Tg nm (.Name x pos) d [(x, .d d)]
  | pair {x y p q kk pos a b} : (nm.lookup x = some .local ∨ nm.lookup x = some .cell) → (nm.lookup y = some .local ∨ nm.lookup y = some .cell) → Tg nm (.Tuple [.Name x p, .Name y q] kk pos) (.tuple [a, b]) [(y, .d b), (x, .d a)]

def isTupE : Expr → Bool
  | .Tuple .. => true
  | _ => false
/-- the value of a turn, as its target takes it -/
def TD (target : Expr) (M : List Addr) (h : Heap) (v : Value) (d : PyData) : Prop :=
  if isTupE target then ∃ T vals ds, v = .ref T ∧ d = .tuple ds ∧ h.IsTuple T vals ∧ RdAll M h vals.toList ds else Rd M h v d
theorem TD.of {target : Expr} {M h v d} (x : Rd M h v d) (ht : isTupE target = true → ∃ ds, d = .tuple ds) : TD target M h v d := by
  unfold TD
  split
  · rename_i e
    obtain ⟨ds, rfl⟩ := ht e
    obtain ⟨a, vs, n, rfl, g, _, r⟩ := x.tupRef
    exact ⟨a, vs, ds, rfl, rfl, ⟨_, g, rfl, _, rfl⟩, r⟩
  · exact x

structure Chg (W : List Addr) (h h' : Heap) : Prop where
  eff : Eff W h h'
  mild : ∀ a o, h.get? a = some o → (∀ es n, o.data ≠ .dict es n) → (∀ v, o.data ≠ .cell v) → h'.get? a = some o
theorem Chg.refl (W : List Addr) (h : Heap) : Chg W h h := ⟨.refl _ _, fun _ _ e _ _ => e⟩
theorem Chg.trans {W : List Addr} {a b c : Heap} (x : Chg W a b) (y : Chg W b c) : Chg W a c := ⟨x.eff.trans y.eff, fun p o e h1 h2 => y.mild p o (x.mild p o e h1 h2) h1 h2⟩
theorem Chg.of {W : List Addr} {a b : Heap} (x : Stay a b) : Chg W a b := ⟨.of x, fun p o e _ _ => x p o e⟩
theorem Rd.mild {W : List Addr} {M h h' v d} (x : Rd M h v d) (c : Chg W h h') : Rd M h' v d :=
  x.move fun b o vs n m e z => ⟨c.mild b o e (fun es n z' => by rw [z] at z'; cases z') (fun v z' => by rw [z] at z'; cases z'), m⟩
theorem RdAll.mild {W : List Addr} {M h h' v d} (x : RdAll M h v d) (c : Chg W h h') : RdAll M h' v d :=
  x.move fun b o vs n m e z => ⟨c.mild b o e (fun es n z' => by rw [z] at z'; cases z') (fun v z' => by rw [z] at z'; cases z'), m⟩

theorem stay_ext {h h' : Heap} (x : Heap.ExtBut h.objs.size h h') : Stay h h' := fun b o e => x b o (Nat.ne_of_lt (Heap.lt_size e)) e

theorem assign_tg {A : Around} {s : Shared} {Q : Unit → Shared → Prop} {E : Value → Shared → Prop} {target : Expr} {v : Value} {d : PyData} {bs : List (Str × Bd)} (hh : A.handled = none) (H : EN mg mb env nm W σ M s.heap)
    (t : Tg nm target d bs) (x : TD target M s.heap v d)
    (q : ∀ h' tk, EN mg mb env nm W (bs ++ σ) M h' → Chg W s.heap h' → Q () { s with heap := h', toks := tk }) : wpAny (model prog w) A (assign target env v) Q E s := by
  cases t with
  | name hx => exact wpAny_assign_Name (H.store hx (b := .d d) x fun h' tk H' e m => q h' tk H' ⟨e, m⟩)
  | @pair a b p q' kk pos d1 d2 hx hy =>
    obtain ⟨T, vals, ds, rfl, e, ht, r⟩ := x
    cases e
    have hl := r.length
    simp at hl
    refine wpAny_assign_Tuple hh ht (by simp [assignEach, hl]) (by simp [assignEach, List.findIdx?_cons]) fun h' hs => ?_
    have st := stay_ext hs
    obtain ⟨l⟩ := vals
    match l, r, hl with
    | [u, v], .cons ru (.cons rv .nil), _ =>
      show wpAny _ A (holding [v] (assign (.Name a p) env u) >>= fun _ => holding [] (assign (.Name b q') env v) >>= fun _ => pure ()) _ _ _
      refine wpAny_bind (wpAny_holding (wpAny_assign_Name ((H.stay st).store (s := { s with heap := h' }) hx (b := .d d1) (ru.stay st) fun h1 tk1 H1 e1 m1 => ?_)))
      have rv1 : Rd M h1 v d2 := (rv.stay st).mild ⟨e1, m1⟩
      refine wpAny_bind (wpAny_holding (wpAny_assign_Name (H1.store (s := { s with heap := h1, toks := tk1 }) hy (b := .d d2) rv1 fun h2 tk2 H2 e2 m2 => wpAny_pure ?_)))
      exact q h2 tk2 H2 ((Chg.of st).trans (Chg.trans ⟨e1, m1⟩ ⟨e2, m2⟩))

/-! iterators -/
def FD (h : Heap) (a : Addr) : Prop := ∃ o vs, h.get? a = some o ∧ o.data = .fields vs
structure It (prog : Program) (w : World) (target : Expr) (M : List Addr) (I : Addr) (ds : List PyData) (wr : List Addr) (J : Nat → Heap → Prop) (Jm : Nat → Value → Heap → Prop) : Prop where
  item : ∀ {i : Nat} {d : PyData} {A : Around} {s : Shared} {Q : Option Value → Shared → Prop} {E : Value → Shared → Prop}, A.handled = none → ds[i]? = some d → J i s.heap →
    (∀ v h' tk, Jm i v h' → Eff wr s.heap h' → Q (some v) { s with heap := h', toks := tk }) → wpAny (model prog w) A (pyNext (.ref I)) Q E s
  go : ∀ {i : Nat} {d : PyData} {A : Around} {v : Value} {s : Shared} {Q : Unit → Shared → Prop} {E : Value → Shared → Prop}, ds[i]? = some d → Jm i v s.heap →
    (∀ h' tk, J (i + 1) h' → TD target M h' v d → Eff wr s.heap h' → Q () { s with heap := h', toks := tk }) → wpAny (model prog w) A (letOwnedTupleGo target (.ref I) v) Q E s
  done : ∀ {i : Nat} {A : Around} {s : Shared} {Q : Option Value → Shared → Prop} {E : Value → Shared → Prop}, A.handled = none → ds[i]? = none → J i s.heap →
    (∀ h' tk, Eff wr s.heap h' → Q none { s with heap := h', toks := tk }) → wpAny (model prog w) A (pyNext (.ref I)) Q E s
  again : ∀ {i : Nat} {A : Around} {s : Shared} {Q : Value → Shared → Prop} {E : Value → Shared → Prop}, J i s.heap → Q (.ref I) s → wpAny (model prog w) A (pyIter (.ref I)) Q E s
  stab : ∀ {i h h'}, J i h → (∀ a o, h.get? a = some o → a ∉ M → (∀ es n, o.data ≠ .dict es n) → (∀ v, o.data ≠ .cell v) → h'.get? a = some o) → J i h'
  its : ∀ {i h}, J i h → ∀ a ∈ wr, FD h a
  itm : ∀ {i v h}, Jm i v h → ∀ a ∈ wr, FD h a

theorem eff_seq {M : List Addr} {wr : List Addr} {h h' : Heap} (f : ∀ a ∈ wr, FD h a) (e : Eff wr h h') {a : Addr} {o : Obj} (g : h.get? a = some o) (hd : ∀ vs, o.data ≠ .fields vs) : h'.get? a = some o :=
  e a o (fun m => by obtain ⟨o', vs, g', d⟩ := f a m; rw [g] at g'; cases g'; exact hd vs d) g
theorem Rd.eff {wr : List Addr} {M h h' v d} (x : Rd M h v d) (f : ∀ a ∈ wr, FD h a) (e : Eff wr h h') : Rd M h' v d :=
  x.move fun b o vs n m g z => ⟨eff_seq (M := M) f e g (fun vs' z' => by rw [z] at z'; cases z'), m⟩
theorem RdAll.eff {wr : List Addr} {M h h' v d} (x : RdAll M h v d) (f : ∀ a ∈ wr, FD h a) (e : Eff wr h h') : RdAll M h' v d :=
  x.move fun b o vs n m g z => ⟨eff_seq (M := M) f e g (fun vs' z' => by rw [z] at z'; cases z'), m⟩
theorem EN.eff {wr : List Addr} {h h' : Heap} (H : EN mg mb env nm W σ M h) (sm : Seqs M h) (f : ∀ a ∈ wr, FD h a) (e : Eff wr h h') : EN mg mb env nm W σ M h' ∧ Seqs M h' := by
  have s' : Seqs M h' := fun a m => by
    obtain ⟨o, vs, n, g, d⟩ := sm a m
    exact ⟨o, vs, n, eff_seq (M := M) f e g (fun vs' z => by rw [d] at z; cases z), d⟩
  exact ⟨H.move sm (fun a m => let ⟨o, _, _, g, _⟩ := s' a m; ⟨o, g⟩) (fun a o g _ hd => eff_seq (M := M) f e g hd), s'⟩

theorem fd_of {h : Heap} {a : Addr} {o : Obj} {vs} (e : h.get? a = some o) (d : o.data = .fields vs) : FD h a := ⟨o, vs, e, d⟩

/-- over a list -/
theorem It.list {I l : Addr} {target : Expr} {ds : List PyData} (hI : I ∉ M) (ht : isTupE target = true → ∀ d ∈ ds, ∃ xs, d = .tuple xs) :
    It prog w target M I ds [I] (fun i h => h.IsListIter I l i ∧ ∃ vs n, h.get? l = some { cls := .type "list", data := .seq vs n } ∧ l ∉ M ∧ RdAll M h vs.toList ds)
      (fun i v h => (h.IsListIter I l (i + 1) ∧ ∃ vs n, h.get? l = some { cls := .type "list", data := .seq vs n } ∧ l ∉ M ∧ RdAll M h vs.toList ds) ∧ ∀ d, ds[i]? = some d → Rd M h v d) := by
  have fdi : ∀ {i h}, h.IsListIter I l i → ∀ a ∈ [I], FD h a := fun {i h} it a m => by
    obtain ⟨o, e, _, d⟩ := it
    rw [List.mem_singleton.mp m]; exact ⟨o, _, e, d⟩
  refine { item := ?_, go := ?_, done := ?_, again := ?_, stab := ?_, its := fun j => fdi j.1, itm := fun j => fdi j.1.1 }
  · intro i d A s Q E hh hd j q
    obtain ⟨it, vs, n, g, m, r⟩ := j
    obtain ⟨v, hv, rv⟩ := r.at hd
    refine wpAny_pyNext_list_item it ⟨_, g, rfl, _, rfl⟩ (x := v) (by simpa using hv) fun h' it' hs => ?_
    have e := Eff.same hs
    have f := fdi it
    refine q v h' s.toks ⟨⟨it', vs, n, eff_seq (M := M) f e g (fun vs' z => by cases z), m, r.eff f e⟩, fun d' hd' => ?_⟩ e
    rw [hd] at hd'; cases hd'; exact rv.eff f e
  · intro i d A v s Q E hd j q
    have rv := j.2 d hd
    have fin : Q () s := q s.heap s.toks j.1 (TD.of rv fun z => ht z d (List.mem_of_getElem? hd)) (.refl _ _)
    cases target with
    | Tuple elts k pos =>
      obtain ⟨xs, rfl⟩ := ht rfl d (List.mem_of_getElem? hd)
      obtain ⟨T, vs, n, rfl, _⟩ := rv.tupRef
      exact wpAny_letOwnedTupleGo_listiter j.1.1 fin
    | List elts pos =>
      have : wpAny (model prog w) A (letOwnedTupleGo (.List elts pos) (.ref I) v) Q E s := by
        cases v with
        | ref T => exact (show wpAny (model prog w) A (letOwnedTupleGo (.Tuple elts 0 pos) (.ref I) (.ref T)) Q E s from wpAny_letOwnedTupleGo_listiter j.1.1 fin)
        | _ => exact wpAny_pure fin
      exact this
    | _ => exact wpAny_pure fin
  · intro i A s Q E hh hd j q
    obtain ⟨it, vs, n, g, m, r⟩ := j
    have hl := r.length
    refine wpAny_pyNext_list_end hh it ⟨_, g, rfl, _, rfl⟩ (by rw [List.getElem?_eq_none_iff] at hd; simp at hl; simp; omega) fun h' he => q h' s.toks (Eff.ext he)
  · intro i A s Q E j q
    exact wpAny_pyIter_listiter j.1 q
  · intro i h h' j kk
    obtain ⟨⟨o, e, c, d⟩, vs, n, g, m, r⟩ := j
    exact ⟨⟨o, kk I o e hI (fun es n z => by rw [d] at z; cases z) (fun v z => by rw [d] at z; cases z), c, d⟩, vs, n, kk l _ g m (fun es n z => by cases z) (fun v z => by cases z), m,
      r.move fun b o vs n m e z => ⟨kk b o e m (fun es n z' => by rw [z] at z'; cases z') (fun v z' => by rw [z] at z'; cases z'), m⟩⟩

theorem wpAny_letOwnedTupleGo_fields {A : Around} {s : Shared} {Q : Unit → Shared → Prop} {E : Value → Shared → Prop} {I : Addr} {v : Value} {target : Expr} {o : Obj} {vs} {T : String} (e : s.heap.get? I = some o) (hc : o.cls = .type T) (hd : o.data = .fields vs)
    (hT : (["enumerate", "zip", "dict_itemiterator", "dict_reverseitemiterator", "odict_iterator", "itertools.zip_longest", "itertools.pairwise"].contains T) = false) (q : Q () s) : wpAny (model prog w) A (letOwnedTupleGo target (.ref I) v) Q E s := by
  have main : ∀ a, wpAny (model prog w) A (do
      let o ← load I
      match o.cls, o.data with
      | .type n, .fields vs =>
        if ["enumerate", "zip", "dict_itemiterator", "dict_reverseitemiterator", "odict_iterator", "itertools.zip_longest", "itertools.pairwise"].contains n && vs[0]? == some (rawInt a) then
          rule "for.unpacks-the-owned-tuple"
          updateField I 0 .none
      | _, _ => pure () : Sem Unit) Q E s := fun a => by
    refine wpAny_bind (wpAny_load e ?_)
    rw [hc, hd]
    show wpAny _ A (if (["enumerate", "zip", "dict_itemiterator", "dict_reverseitemiterator", "odict_iterator", "itertools.zip_longest", "itertools.pairwise"].contains T && vs[0]? == some (rawInt a)) = true then _ else _) Q E s
    rw [hT, Bool.false_and, if_neg Bool.false_ne_true]
    exact wpAny_pure q
  cases target <;> first
    | exact wpAny_pure q
    | (cases v <;> first | exact main _ | exact wpAny_pure q)

/-- over a tuple -/
theorem It.tuple {I l : Addr} {target : Expr} {ds : List PyData} (hI : I ∉ M) (ht : isTupE target = true → ∀ d ∈ ds, ∃ xs, d = .tuple xs) :
    It prog w target M I ds [I] (fun i h => h.IsTupleIter I l i ∧ ∃ vs n, h.get? l = some { cls := .type "tuple", data := .seq vs n } ∧ l ∉ M ∧ RdAll M h vs.toList ds)
      (fun i v h => (h.IsTupleIter I l (i + 1) ∧ ∃ vs n, h.get? l = some { cls := .type "tuple", data := .seq vs n } ∧ l ∉ M ∧ RdAll M h vs.toList ds) ∧ ∀ d, ds[i]? = some d → Rd M h v d) := by
  have fdi : ∀ {i h}, h.IsTupleIter I l i → ∀ a ∈ [I], FD h a := fun {i h} it a m => by
    obtain ⟨o, e, _, d⟩ := it
    rw [List.mem_singleton.mp m]; exact ⟨o, _, e, d⟩
  refine { item := ?_, go := ?_, done := ?_, again := ?_, stab := ?_, its := fun j => fdi j.1, itm := fun j => fdi j.1.1 }
  · intro i d A s Q E hh hd j q
    obtain ⟨it, vs, n, g, m, r⟩ := j
    obtain ⟨v, hv, rv⟩ := r.at hd
    refine wpAny_pyNext_tuple_item it ⟨_, g, rfl, _, rfl⟩ (x := v) (by simpa using hv) fun h' it' hs => ?_
    have e := Eff.same hs
    have f := fdi it
    refine q v h' s.toks ⟨⟨it', vs, n, eff_seq (M := M) f e g (fun vs' z => by cases z), m, r.eff f e⟩, fun d' hd' => ?_⟩ e
    rw [hd] at hd'; cases hd'; exact rv.eff f e
  · intro i d A v s Q E hd j q
    have rv := j.2 d hd
    have fin : Q () s := q s.heap s.toks j.1 (TD.of rv fun z => ht z d (List.mem_of_getElem? hd)) (.refl _ _)
    obtain ⟨o, e, c, d⟩ := j.1.1
    exact wpAny_letOwnedTupleGo_fields e c d (by decide) fin
  · intro i A s Q E hh hd j q
    obtain ⟨it, vs, n, g, m, r⟩ := j
    have hl := r.length
    refine wpAny_pyNext_tuple_end hh it ⟨_, g, rfl, _, rfl⟩ (by rw [List.getElem?_eq_none_iff] at hd; simp at hl; simp; omega) fun h' he => q h' s.toks (Eff.ext he)
  · intro i A s Q E j q
    exact wpAny_pyIter_tupleiter j.1 q
  · intro i h h' j kk
    obtain ⟨⟨o, e, c, d⟩, vs, n, g, m, r⟩ := j
    exact ⟨⟨o, kk I o e hI (fun es n z => by rw [d] at z; cases z) (fun v z => by rw [d] at z; cases z), c, d⟩, vs, n, kk l _ g m (fun es n z => by cases z) (fun v z => by cases z), m,
      r.move fun b o vs n m e z => ⟨kk b o e m (fun es n z' => by rw [z] at z'; cases z') (fun v z' => by rw [z] at z'; cases z'), m⟩⟩

def rng (n : Nat) : List PyData := (List.range n).map fun (i : Nat) => .int (i : Int)
theorem rng_at {n i : Nat} {d} (e : (rng n)[i]? = some d) : i < n ∧ d = .int (i : Int) := by
  unfold rng at e
  rw [List.getElem?_map, Option.map_eq_some_iff] at e
  obtain ⟨j, e, rfl⟩ := e
  rw [List.getElem?_eq_some_iff] at e
  obtain ⟨h, e⟩ := e
  simp at h e
  subst e
  exact ⟨h, rfl⟩
/-- over range(n) -/
theorem It.range {I : Addr} {n : Nat} {target : Expr} (ht : isTupE target = false) (hI : I ∉ M) : It prog w target M I (rng n) [I] (fun i h => i ≤ n ∧ IsRangeIter h I (i : Int) ((n : Int) - i) 1)
      (fun i v h => (i + 1 ≤ n ∧ IsRangeIter h I ((i + 1 : Nat) : Int) ((n : Int) - (i + 1 : Nat)) 1) ∧ ∃ t, v = .int i t) := by
  refine { item := ?_, go := ?_, done := ?_, again := ?_, stab := ?_, its := ?_, itm := ?_ }
  · intro i d A s Q E hh hd j q
    obtain ⟨hi, rfl⟩ := rng_at hd
    refine wpAny_pyNext_range_item j.2 (by omega) fun h' it' hs => ?_
    refine q _ h' _ ⟨⟨hi, ?_⟩, _, rfl⟩ (Eff.same hs)
    have e1 : ((i + 1 : Nat) : Int) = (i : Int) + 1 := by omega
    have e2 : (n : Int) - ((i + 1 : Nat) : Int) = (n : Int) - i - 1 := by omega
    rw [e1]; rw [e1] at e2; rw [e2]; exact it'
  · intro i d A v s Q E hd j q
    obtain ⟨hi, rfl⟩ := rng_at hd
    obtain ⟨t, rfl⟩ := j.2
    have fin : Q () s := q s.heap s.toks j.1 (TD.of (.int ..) fun z => by rw [ht] at z; cases z) (.refl _ _)
    exact wpAny_letOwnedTupleGo_fields j.1.2 rfl rfl (by decide) fin
  · intro i A s Q E hh hd j q
    refine wpAny_pyNext_range_end hh j.2 (by unfold rng at hd; rw [List.getElem?_eq_none_iff] at hd; simp at hd; omega) fun h' he => q h' s.toks (Eff.ext he)
  · intro i A s Q E j q
    exact wpAny_pyIter_rangeiter j.2 q
  · intro i h h' j kk
    exact ⟨j.1, kk I _ j.2 hI (fun es n z => by cases z) (fun v z => by cases z)⟩
  · intro i h j a m
    rw [List.mem_singleton.mp m]; exact ⟨_, _, j.2, rfl⟩
  · intro i v h j a m
    rw [List.mem_singleton.mp m]; exact ⟨_, _, j.1.2, rfl⟩

/-- where a loop's items come from -/
structure SR (prog : Program) (w : World) (k : Nat) (M : List Addr) (env : Env) (h : Heap) (e target : Expr) (ds : List PyData) : Prop where
  run : ∀ {A : Around} {s : Shared} {Q : Value → Shared → Prop} {E : Value → Shared → Prop}, Rm k A → Stay h s.heap →
    (∀ h' tk I wr, (∀ M', (∀ a ∈ M', a ∈ M ∨ h'.get? a = none) → ∃ J Jm, It prog w target M' I ds wr J Jm ∧ J 0 h') → Stay s.heap h' → (∀ a ∈ wr, s.heap.get? a = none) → Q (.ref I) { s with heap := h', toks := tk }) →
    wpAny (model prog w) A (eval e env) (fun x s₁ => wpAny (model prog w) A (pyIter x) Q E s₁) E s

theorem fresh_none {h : Heap} {a : Nat} (ha : h.objs.size ≤ a) : h.get? a = none := by
  cases e : h.get? a with
  | none => rfl
  | some o => exact absurd (Heap.lt_size e) (Nat.not_lt.mpr ha)
theorem Stay.size {h h' : Heap} (x : Stay h h') (y : h.get? h'.objs.size = none) : True := trivial
theorem Stay.freshAt {h h' : Heap} (x : Stay h h') : h.get? h'.objs.size = none := by
  cases e : h.get? h'.objs.size with
  | none => rfl
  | some o => exact absurd (Heap.lt_size (x _ _ e)) (Nat.lt_irrefl _)

theorem notM {M M' : List Addr} {h : Heap} {a : Addr} {o : Obj} (hM : ∀ a ∈ M', a ∈ M ∨ h.get? a = none) (e : h.get? a = some o) (m : a ∉ M) : a ∉ M' := fun z => by
  rcases hM a z with z | z
  · exact m z
  · rw [e] at z; cases z
theorem RdAll.grow {M M' : List Addr} {h : Heap} {vs ds} (x : RdAll M h vs ds) (hM : ∀ a ∈ M', a ∈ M ∨ h.get? a = none) : RdAll M' h vs ds := x.move fun b o vs n m e _ => ⟨e, notM hM e m⟩
theorem sr_list {e target : Expr} {ds : List PyData} (H : EN mg mb env nm W σ M h) (a : EV prog w k M env h e (.list ds)) (ht : isTupE target = true → ∀ d ∈ ds, ∃ xs, d = .tuple xs) : SR prog w k M env h e target ds := ⟨fun {A s Q E} m t q => by
  refine a.run m t fun v h₁ t₁ s₁ r₁ => ?_
  obtain ⟨l, vs, n, rfl, g, lm, r⟩ := r₁.listRef
  have mk := H.mok.stay (t.trans s₁)
  refine wpAny_pyIter_list (items := vs) ⟨_, g, rfl, _, rfl⟩ (q _ _ _ _ (fun M' hM => ⟨_, _, It.list (l := l) (notM hM (Heap.get?_push_size _ rfl) mk.fresh) ht, ?_⟩) (s₁.trans (Stay.push _ _)) ?_)
  · exact ⟨⟨_, Heap.get?_push_size _ rfl, rfl, rfl⟩, vs, n, Stay.push _ _ _ _ g, notM hM (Stay.push _ _ _ _ g) lm, (r.stay (Stay.push _ _)).grow hM⟩
  · intro a ha; rw [List.mem_singleton.mp ha]; exact s₁.freshAt⟩
theorem sr_tuple {e target : Expr} {ds : List PyData} (H : EN mg mb env nm W σ M h) (a : EV prog w k M env h e (.tuple ds)) (ht : isTupE target = true → ∀ d ∈ ds, ∃ xs, d = .tuple xs) : SR prog w k M env h e target ds := ⟨fun {A s Q E} m t q => by
  refine a.run m t fun v h₁ t₁ s₁ r₁ => ?_
  obtain ⟨l, vs, n, rfl, g, lm, r⟩ := r₁.tupRef
  have mk := H.mok.stay (t.trans s₁)
  refine wpAny_pyIter_tuple (items := vs) ⟨_, g, rfl, _, rfl⟩ (q _ _ _ _ (fun M' hM => ⟨_, _, It.tuple (l := l) (notM hM (Heap.get?_push_size _ rfl) mk.fresh) ht, ?_⟩) (s₁.trans (Stay.push _ _)) ?_)
  · exact ⟨⟨_, Heap.get?_push_size _ rfl, rfl, rfl⟩, vs, n, Stay.push _ _ _ _ g, notM hM (Stay.push _ _ _ _ g) lm, (r.stay (Stay.push _ _)).grow hM⟩
  · intro a ha; rw [List.mem_singleton.mp ha]; exact s₁.freshAt⟩

/-- a built-in's name -/
theorem EN.blt {A : Around} {s : Shared} {Q : Value → Shared → Prop} {E : Value → Shared → Prop} {x : Str} {pos : Pos} {v : Value} (H : EN mg mb env nm W σ M h) (t : Stay h s.heap) (i : nm.lookup x = some .globalImplicit) (hg : mg x = none) (hb : mb x = some v) (hd : (x == ("__debug__" : Str)) = false)
    (q : Q v s) : wpAny (model prog w) A (eval (.Name x pos) env) Q E s := by
  refine Name_function_global H.fn (H.glb x i) (loadGlobal_builtin (mg := mg) (mb := mb) ?_ hg ?_ hb q) hd
  · rw [H.gl]; exact H.g.keeps t
  · rw [H.bl]; exact H.b.keeps t

theorem sr_range {e target : Expr} {x : Str} {p pos : Pos} {n : Nat} (H : EN mg mb env nm W σ M h) (i : nm.lookup x = some .globalImplicit) (hg : mg x = none) (hb : mb x = some (.type "range")) (hd : (x == ("__debug__" : Str)) = false)
    (a : EV prog w k M env h e (.int (n : Int))) (hn : n ≤ 1000000) (ht : isTupE target = false) (he : ∀ rest, starEach (e :: rest) env = (false, eval e env) :: starEach rest env) : SR prog w k M env h (.Call (.Name x p) [e] [] pos) target (rng n) := ⟨fun {A s Q E} m t q => by
  refine Call_ (H.blt t i hg hb hd ?_) rfl
  refine PyProof.Rows.callWith_type1 (wpAny_items_cons (a.run m t fun v h₁ t₁ s₁ r₁ => wpAny_items_nil ?_) (he _)) (he _) rfl
  obtain ⟨tk, rfl⟩ := r₁.intVal
  refine call_range_1 ?_
  have mk := H.mok.stay (t.trans s₁)
  have s2 := Stay.push h₁ { cls := .type "range", data := .fields #[.int 0 t₁, .int n tk, .int 1 (t₁ + 1)] }
  refine wpAny_pyIter_range (s := ⟨_, s.gens, s.drawn, _, s.os⟩) (IsRange.new h₁ 0 n 1 t₁ tk (t₁ + 1)) ?_ ?_
  · have e3 : Builtin.Range.rangeSize 0 (n : Int) 1 = (n : Int) := by rw [rangeSize_one 0 (n : Int)]; split <;> omega
    unfold Builtin.Range.small Builtin.Range.rangeFitsLong
    rw [e3]
    simp
    omega
  · refine q _ _ _ _ (fun M' hM => ⟨_, _, It.range (n := n) ht (notM hM (Heap.get?_push_size _ rfl) (mk.stay s2).fresh), ?_⟩) (s₁.trans (s2.trans (Stay.push _ _))) ?_
    · refine ⟨Nat.zero_le _, ?_⟩
      have := rangeSize_one 0 (n : Int)
      have e3 : Builtin.Range.rangeSize 0 (n : Int) 1 = (n : Int) - ((0 : Nat) : Int) := by rw [this]; split <;> omega
      rw [← e3]
      exact Heap.get?_push_size _ rfl
    · intro a ha; rw [List.mem_singleton.mp ha]; exact (s₁.trans s2).freshAt⟩
end Mine
namespace Mine
open PySem PySem.Calls PyProof.Rows
variable {prog : Program} {w : World} {k : Nat} {M : List Addr} {env : Env} {h : Heap} {mg mb : Str → Option Value} {nm : List (Str × NameKind)} {W : List Addr} {σ : List (Str × Bd)}

/-! comprehensions -/
theorem compTurn_at {gens : List Comprehension} {target iter : Expr} {ifs : List Expr} {depth : Nat} (hg : gens[depth]? = some ⟨target, iter, ifs, 0⟩) (elt : Expr) (scope : Scope) (pos : Pos) (it acc : Value) (env : Env) :
    compTurn (.ListComp elt gens scope pos) depth it acc env = (do
      standAt iter.pos
      match ← pyNext it with
      | none => pure (.done .next)
      | some v =>
        letOwnedTupleGo target it v
        assign target env v
        let mut ok := true
        for c in ifs do
          if ok then ok ← isTrue c env (eval c env)
        if ok then
          match gens[depth + 1]? with
          | some g' =>
            let x ← eval g'.iter env
            standAt g'.iter.pos
            let x ← if g'.is_async != 0 then foldedIterable g'.iter x else foldedSetIterable g'.iter env x
            let _ ← runOwn (.compStart (.ListComp elt gens scope pos) (depth + 1) (← holding [x] (if g'.is_async != 0 then asyncIter x else pyIter x)) acc env) env
          | none => (do let _ ← call (.builtin "list.append") [acc, ← eval elt env])
        again (.compLoop (.ListComp elt gens scope pos) depth it acc env)) := by
  unfold compTurn
  simp only [hg]
  rfl

/-- the list that is being filled -/
def Acc (M : List Addr) (D : Addr) (ys : List PyData) (h : Heap) : Prop := ∃ vs, h.PlainList D vs ∧ RdAll M h vs.toList ys

/-- what a comprehension's inner code may change: its list and its own names -/
structure CD (D : Addr) (W : List Addr) (h h' : Heap) : Prop where
  eff : Eff (D :: W) h h'
  mild : ∀ a o, h.get? a = some o → a ≠ D → (∀ es n, o.data ≠ .dict es n) → (∀ v, o.data ≠ .cell v) → h'.get? a = some o
theorem CD.refl (D : Addr) (W : List Addr) (h : Heap) : CD D W h h := ⟨.refl _ _, fun _ _ e _ _ _ => e⟩
theorem CD.trans {D : Addr} {W : List Addr} {a b c : Heap} (x : CD D W a b) (y : CD D W b c) : CD D W a c :=
  ⟨x.eff.trans y.eff, fun p o e hd h1 h2 => y.mild p o (x.mild p o e hd h1 h2) hd h1 h2⟩
theorem CD.of {D : Addr} {W : List Addr} {a b : Heap} (x : Stay a b) : CD D W a b := ⟨.of x, fun p o e _ _ _ => x p o e⟩
theorem CD.chg {D : Addr} {W : List Addr} {a b : Heap} (x : Chg W a b) : CD D W a b := ⟨x.eff.mono fun c m => .tail _ m, fun p o e _ h1 h2 => x.mild p o e h1 h2⟩

theorem Acc.move {M : List Addr} {D : Addr} {ys : List PyData} {h h' : Heap} (x : Acc M D ys h) (kk : ∀ a o vs n, h.get? a = some o → o.data = .seq vs n → h'.get? a = some o) : Acc M D ys h' := by
  obtain ⟨vs, ⟨n, e⟩, r⟩ := x
  exact ⟨vs, ⟨n, kk _ _ _ _ e rfl⟩, r.move fun b o vs n m e d => ⟨kk b o vs n e d, m⟩⟩
theorem Seqs.move {M : List Addr} {h h' : Heap} (x : Seqs M h) (kk : ∀ a o vs n, h.get? a = some o → o.data = .seq vs n → h'.get? a = some o) : Seqs M h' :=
  fun a m => let ⟨o, vs, n, e, d⟩ := x a m; ⟨o, vs, n, kk a o vs n e d, d⟩
theorem Stay.seq {h h' : Heap} (x : Stay h h') : ∀ (a : Addr) (o : Obj) (vs : Array Value) (n : Nat), h.get? a = some o → o.data = .seq vs n → h'.get? a = some o := fun a o _ _ e _ => x a o e
theorem Chg.seq {W : List Addr} {h h' : Heap} (x : Chg W h h') : ∀ (a : Addr) (o : Obj) (vs : Array Value) (n : Nat), h.get? a = some o → o.data = .seq vs n → h'.get? a = some o := fun a o _ _ e d =>
  x.mild a o e (fun es n z => by rw [d] at z; cases z) (fun v z => by rw [d] at z; cases z)
theorem eff_seqs {wr : List Addr} {h h' : Heap} (f : ∀ a ∈ wr, FD h a) (e : Eff wr h h') : ∀ (a : Addr) (o : Obj) (vs : Array Value) (n : Nat), h.get? a = some o → o.data = .seq vs n → h'.get? a = some o := fun a o _ _ g d =>
  eff_seq (M := []) f e g (fun vs' z => by rw [d] at z; cases z)

/-- the tests of a clause -/
inductive TVs (prog : Program) (w : World) (k : Nat) (env : Env) (h : Heap) : List Expr → Bool → Prop
  | nil : TVs prog w k env h [] true
  | cons {c r b b'} : TV prog w k env h c b → (b = true → TVs prog w k env h r b') → TVs prog w k env h (c :: r) (b && b')

theorem forIn_false {A : Around} {s : Shared} {Q : Bool → Shared → Prop} {E : Value → Shared → Prop} {cenv : Env} : ∀ (ifs : List Expr), Q false s →
    wpAny (model prog w) A (forIn ifs false fun c r => if r = true then do let ok ← isTrue c cenv (eval c cenv); pure (ForInStep.yield ok) else pure (ForInStep.yield r)) Q E s
  | [], q => by rw [List.forIn_nil]; exact wpAny_pure q
  | c :: r, q => by
    rw [List.forIn_cons]
    refine wpAny_bind ?_
    rw [if_neg Bool.false_ne_true]
    exact wpAny_pure (forIn_false r q)
theorem TVs.run {ifs : List Expr} {b : Bool} {cenv : Env} (x : TVs prog w k cenv h ifs b) : ∀ {A : Around} {s : Shared} {Q : Bool → Shared → Prop} {E : Value → Shared → Prop}, Rm k A → Stay h s.heap →
    (∀ h' tk, Stay s.heap h' → Q b { s with heap := h', toks := tk }) →
    wpAny (model prog w) A (forIn ifs true fun c r => if r = true then do let ok ← isTrue c cenv (eval c cenv); pure (ForInStep.yield ok) else pure (ForInStep.yield r)) Q E s := by
  induction x with
  | nil => intro A s Q E _ _ q; rw [List.forIn_nil]; exact wpAny_pure (q s.heap s.toks (.refl _))
  | @cons c r b b' t _ ih =>
    intro A s Q E m st q
    rw [List.forIn_cons]
    refine wpAny_bind ?_
    rw [if_pos rfl]
    refine wpAny_bind (t.run m st fun h₁ t₁ s₁ => wpAny_pure ?_)
    cases b with
    | false => exact forIn_false r (q h₁ t₁ s₁)
    | true => exact ih rfl m (st.trans s₁) fun h₂ t₂ s₂ => q h₂ t₂ (s₁.trans s₂)

/-- the clauses behind number j, under the bindings σ, lay outs -/
structure CB (prog : Program) (w : World) (k : Nat) (M : List Addr) (h : Heap) (mg mb : Str → Option Value) (cenv : Env) (nm : List (Str × NameKind)) (W : List Addr) (D : Addr) (elt : Expr) (gens : List Comprehension) (scope : Scope) (pos : Pos)
    (j : Nat) (σ : List (Str × Bd)) (outs : List PyData) : Prop where
  run : ∀ {A : Around} {s : Shared} {K : Unit → Sem PySem.Fin} {Q : PySem.Fin → Shared → Prop} {E : Value → Shared → Prop} {ys : List PyData}, Rm k A → Stay h s.heap → EN mg mb cenv nm W σ (D :: M) s.heap → Seqs (D :: M) s.heap → Acc (D :: M) D ys s.heap → ys.length + outs.length ≤ 1000000 →
    (∀ h' tk, EN mg mb cenv nm W σ (D :: M) h' → Seqs (D :: M) h' → Acc (D :: M) D (ys ++ outs) h' → CD D W s.heap h' → wpAny (model prog w) A (K ()) Q E { s with heap := h', toks := tk }) →
    wpAny (model prog w) A (match gens[j]? with
          | some g' => (do
            let x ← eval g'.iter cenv
            standAt g'.iter.pos
            let x ← if g'.is_async != 0 then foldedIterable g'.iter x else foldedSetIterable g'.iter cenv x
            let _ ← runOwn (.compStart (.ListComp elt gens scope pos) j (← holding [x] (if g'.is_async != 0 then asyncIter x else pyIter x)) (.ref D) cenv) cenv
            K ())
          | none => (do
            let r ← (do let _ ← call (.builtin "list.append") [(.ref D), ← eval elt cenv])
            K r)) Q E s

theorem seqs_cons {D : Addr} {h : Heap} {ys} (a : Acc (D :: M) D ys h) (s : Seqs M h) : Seqs (D :: M) h := fun x m => by
  rcases List.mem_cons.mp m with rfl | m
  · obtain ⟨vs, ⟨n, e⟩, _⟩ := a; exact ⟨_, vs, n, e, rfl⟩
  · exact s x m

/-- the element -/
theorem cb_emit {cenv : Env} {D : Addr} {elt : Expr} {gens : List Comprehension} {scope : Scope} {pos : Pos} {j : Nat} {d : PyData} (hj : gens[j]? = none) (hW : ∀ a ∈ W, h.get? a = none) (hD : h.get? D = none)
    (e : ∀ h', Stay h h' → EN mg mb cenv nm W σ (D :: M) h' → Seqs (D :: M) h' → EV prog w k (D :: M) cenv h' elt d) : CB prog w k M h mg mb cenv nm W D elt gens scope pos j σ [d] := ⟨fun {A s K Q E ys} m st H sq ac hl q => by
  rw [hj]
  refine wpAny_bind (wpAny_bind ((e s.heap st H sq).run m (.refl _) fun v h₁ t₁ s₁ r₁ => ?_))
  obtain ⟨vs, pl, ra⟩ := ac.move s₁.seq
  have len := ra.length
  simp at len hl
  refine wpAny_bind (wpAny_list_append_plain (s := ⟨h₁, s.gens, s.drawn, t₁, s.os⟩) pl (fun h₂ pl₂ hs => wpAny_pure ?_) (small_line (by omega)))
  have ef : Eff [D] h₁ h₂ := Eff.same hs
  have kk : ∀ a o, h₁.get? a = some o → a ≠ D → h₂.get? a = some o := fun a o g ne => ef a o (by simpa using ne) g
  have ac₂ : Acc (D :: M) D (ys ++ [d]) h₂ := by
    refine ⟨vs.push v, pl₂, ?_⟩
    rw [Array.toList_push]
    exact (ra.append (.cons r₁ .nil)).move fun b o vs n mm e d => ⟨kk b o e (fun z => mm (by simp [z])), mm⟩
  have sq₂ : Seqs (D :: M) h₂ := seqs_cons ac₂ fun a mm => by
    by_cases hz : a = D
    · subst hz; obtain ⟨vs', ⟨n, e⟩, _⟩ := ac₂; exact ⟨_, vs', n, e, rfl⟩
    · obtain ⟨o, vs, n, g, d⟩ := sq a (.tail _ mm); exact ⟨o, vs, n, kk a o (s₁ a o g) hz, d⟩
  refine q h₂ t₁ ((H.stay s₁).move (fun a mm => by obtain ⟨o, vs, n, g, d⟩ := sq a mm; exact ⟨o, vs, n, s₁ a o g, d⟩) (fun a mm => let ⟨o, _, _, g, _⟩ := sq₂ a mm; ⟨o, g⟩) fun a o g mm _ => kk a o g fun z => mm (by simp [z])) sq₂ ac₂ ((CD.of s₁).trans ⟨ef.mono fun c mm => by rw [List.mem_singleton.mp mm]; exact .head _, fun a o g ne _ _ => kk a o g ne⟩)⟩

theorem comp_start {A : Around} {s : Shared} {R : Result → Shared → Prop} {elt : Expr} {gens : List Comprehension} {scope : Scope} {pos : Pos} {j : Nat} {it acc : Value} {cenv : Env} {target iter : Expr} {ifs : List Expr} (hg : gens[j]? = some ⟨target, iter, ifs, 0⟩)
    (h0 : codeAny (model prog w) A (.compLoop (.ListComp elt gens scope pos) j it acc cenv) R s)
    (h1 : wpAny (model prog w) A (pyIter it) (fun it' s' => codeAny (model prog w) A (.compLoop (.ListComp elt gens scope pos) j it' acc cenv) R s') (notedBy (model prog w) A cenv fun x s' => R (.error x) s') s) :
    codeAny (model prog w) A (.compStart (.ListComp elt gens scope pos) j it acc cenv) R s := by
  refine codeAny_of_tree ?_
  show wpAny _ _ ((compStart (.ListComp elt gens scope pos) j it acc cenv).onRaise (fun x => do noteFrame x cenv; standAt theWindowsPlace)) _ _ s
  refine wpAny_notedAt ?_
  unfold compStart
  have hc : (clausesOf (.ListComp elt gens scope pos))[j]? = some ⟨target, iter, ifs, 0⟩ := hg
  simp only [hc]
  show wpAny _ _ (ask >>= _) _ _ s
  refine wpAny_bind (wpAny_askSetting (wpAny_ite ?_))
  split
  · first
      | exact wpAny_bind (wpAny_pure (wpAny_pure (And.intro rfl h0)))
      | exact wpAny_pure (And.intro rfl h0)
  · refine wpAny_bind (wpAny_rule ?_)
    first
      | exact wpAny_bind (wpAny_standAt (wpAny_bind (wpAny_mono h1 (fun it' s' h' => wpAny_pure (And.intro rfl h')) fun _ _ x => x)))
      | (show wpAny _ _ (standAt iter.pos >>= _) _ _ s; exact wpAny_bind (wpAny_standAt (wpAny_bind (wpAny_mono h1 (fun it' s' h' => wpAny_pure (And.intro rfl h')) fun _ _ x => x))))

/-- what one clause does with each item -/
structure CI (prog : Program) (w : World) (k : Nat) (M : List Addr) (h : Heap) (mg mb : Str → Option Value) (cenv : Env) (nm : List (Str × NameKind)) (W : List Addr) (D : Addr) (elt : Expr) (gens : List Comprehension) (scope : Scope) (pos : Pos)
    (j : Nat) (σ : List (Str × Bd)) (target : Expr) (ifs : List Expr) (d : PyData) (outs : List PyData) : Prop where
  intro ::
  ex : ∃ bs b, Tg nm target d bs ∧ (∀ x c, bs.lookup x = some c → σ.lookup x = none) ∧ (∀ h', Stay h h' → EN mg mb cenv nm W (bs ++ σ) (D :: M) h' → Seqs (D :: M) h' → TVs prog w k cenv h' ifs b) ∧
    (b = true → CB prog w k M h mg mb cenv nm W D elt gens scope pos (j + 1) (bs ++ σ) outs) ∧ (b = false → outs = [])

theorem comp_loop {cenv : Env} {D : Addr} {elt : Expr} {gens : List Comprehension} {scope : Scope} {pos : Pos} {j : Nat} {target iter : Expr} {ifs : List Expr} (hg : gens[j]? = some ⟨target, iter, ifs, 0⟩) (hW : ∀ a ∈ W, h.get? a = none) (hD : h.get? D = none)
    {ds : List PyData} (outs : PyData → List PyData) (ci : ∀ d ∈ ds, CI prog w k M h mg mb cenv nm W D elt gens scope pos j σ target ifs d (outs d))
    {A : Around} {s : Shared} {R : Result → Shared → Prop} {ys : List PyData} {I : Addr} {wr J Jm} (m : Rm k A) (st : Stay h s.heap) (H : EN mg mb cenv nm W σ (D :: M) s.heap) (sq : Seqs (D :: M) s.heap) (ac : Acc (D :: M) D ys s.heap)
    (T : It prog w target (D :: M) I ds wr J Jm) (j0 : J 0 s.heap) (hwr : ∀ a ∈ wr, h.get? a = none) (hl : ys.length + (ds.flatMap outs).length ≤ 1000000)
    (q : ∀ h' tk, EN mg mb cenv nm W σ (D :: M) h' → Seqs (D :: M) h' → Acc (D :: M) D (ys ++ ds.flatMap outs) h' → (∀ a o, a ∉ wr → a ∉ D :: W → s.heap.get? a = some o → h'.get? a = some o) →
      (∀ a o, a ∉ wr → s.heap.get? a = some o → a ≠ D → (∀ es n, o.data ≠ .dict es n) → (∀ v, o.data ≠ .cell v) → h'.get? a = some o) → R (.ok .next) { s with heap := h', toks := tk }) :
    codeAny (model prog w) A (.compLoop (.ListComp elt gens scope pos) j (.ref I) (.ref D) cenv) R s := by
  refine codeAny_loop rfl (fun n s' => ∃ i h' tk, s' = { s with heap := h', toks := tk } ∧ n = ds.length + 1 - i ∧ i ≤ ds.length ∧ Stay h h' ∧ EN mg mb cenv nm W σ (D :: M) h' ∧ Seqs (D :: M) h' ∧ Acc (D :: M) D (ys ++ (ds.take i).flatMap outs) h' ∧ J i h' ∧
    (∀ a o, a ∉ wr → a ∉ D :: W → s.heap.get? a = some o → h'.get? a = some o) ∧ (∀ a o, a ∉ wr → s.heap.get? a = some o → a ≠ D → (∀ es n, o.data ≠ .dict es n) → (∀ v, o.data ≠ .cell v) → h'.get? a = some o)) ?_ (ds.length + 1)
    ⟨0, s.heap, s.toks, rfl, rfl, Nat.zero_le _, st, H, sq, by simpa using ac, j0, fun _ _ _ _ e => e, fun _ _ _ e _ _ _ => e⟩
  rintro n s' ⟨i, h', tk, rfl, rfl, hi, st', H', sq', ac', ji, k1, k2⟩
  show wpAny _ _ ((compTurn (.ListComp elt gens scope pos) j (.ref I) (.ref D) cenv).onRaise (fun x => do noteFrame x cenv; theTreesLotGoes x)) _ _ _
  refine wpAny_noted ?_
  rw [compTurn_at hg]
  refine wpAny_bind (wpAny_standAt (wpAny_bind ?_))
  have fd := T.its ji
  by_cases hlt : i < ds.length
  · have hd : ds[i]? = some ds[i] := List.getElem?_eq_getElem hlt
    refine T.item m.handled hd ji fun v h₁ t₁ jm e₁ => ?_
    have fd₁ := T.itm jm
    refine wpAny_bind (T.go hd jm fun h₂ t₂ j₂ td e₂ => ?_)
    obtain ⟨H₁, sq₁⟩ := H'.eff sq' fd e₁
    obtain ⟨H₂, sq₂⟩ := H₁.eff sq₁ fd₁ e₂
    obtain ⟨bs, b, tg, fr, tv, cb, nb⟩ := (ci ds[i] (List.getElem_mem hlt)).ex
    have st₂ : Stay h h₂ := (e₂.base (e₁.base st' hwr) hwr)
    refine wpAny_bind (assign_tg (s := ⟨h₂, s.gens, s.drawn, t₂, s.os⟩) m.handled H₂ tg td fun h₃ t₃ H₃ c₃ => ?_)
    have st₃ : Stay h h₃ := c₃.eff.base st₂ hW
    have ac₃ : Acc (D :: M) D (ys ++ (ds.take i).flatMap outs) h₃ := ((ac'.move (eff_seqs fd e₁)).move (eff_seqs fd₁ e₂)).move c₃.seq
    have sq₃ : Seqs (D :: M) h₃ := sq₂.move c₃.seq
    have j₃ : J (i + 1) h₃ := T.stab j₂ fun a o g _ n1 n2 => c₃.mild a o g n1 n2
    have fl : (ds.take (i + 1)).flatMap outs = (ds.take i).flatMap outs ++ outs ds[i] := by
      rw [← List.take_append_getElem hlt, List.flatMap_append]; simp
    have hlen : (ys ++ (ds.take i).flatMap outs).length + (outs ds[i]).length ≤ 1000000 := by
      have e1 : ((ds.take (i + 1)).flatMap outs).length ≤ (ds.flatMap outs).length := by
        have := congrArg (fun l => (List.flatMap outs l).length) (List.take_append_drop (i + 1) ds)
        simp only [List.flatMap_append, List.length_append] at this
        omega
      rw [fl] at e1
      simp only [List.length_append] at e1 ⊢
      omega
    -- the turn's end
    have fin : ∀ h₄ t₄, EN mg mb cenv nm W σ (D :: M) h₄ → Seqs (D :: M) h₄ → Acc (D :: M) D ((ys ++ (ds.take i).flatMap outs) ++ outs ds[i]) h₄ → CD D W h₃ h₄ →
        ∃ m, m < ds.length + 1 - i ∧ ∃ i' h' tk, ({ s with heap := h₄, toks := t₄ } : Shared) = { s with heap := h', toks := tk } ∧ m = ds.length + 1 - i' ∧ i' ≤ ds.length ∧ Stay h h' ∧ EN mg mb cenv nm W σ (D :: M) h' ∧ Seqs (D :: M) h' ∧ Acc (D :: M) D (ys ++ (ds.take i').flatMap outs) h' ∧ J i' h' ∧
    (∀ a o, a ∉ wr → a ∉ D :: W → s.heap.get? a = some o → h'.get? a = some o) ∧ (∀ a o, a ∉ wr → s.heap.get? a = some o → a ≠ D → (∀ es n, o.data ≠ .dict es n) → (∀ v, o.data ≠ .cell v) → h'.get? a = some o) := fun h₄ t₄ H₄ sq₄ ac₄ c₄ => by
      refine ⟨ds.length + 1 - (i + 1), by omega, i + 1, h₄, t₄, rfl, rfl, hlt, c₄.eff.base st₃ (fun a mm => ?_), H₄, sq₄, ?_, ?_, ?_, ?_⟩
      · rcases List.mem_cons.mp mm with rfl | mm
        · exact hD
        · exact hW a mm
      · rw [fl, ← List.append_assoc]; exact ac₄
      · exact T.stab j₃ fun a o g nm' n1 n2 => c₄.mild a o g (fun z => nm' (by simp [z])) n1 n2
      · intro a o n1 n2 g
        exact c₄.eff a o n2 (c₃.eff a o (fun z => n2 (.tail _ z)) (e₂ a o n1 (e₁ a o n1 (k1 a o n1 n2 g))))
      · intro a o n1 g n2 n3 n4
        exact c₄.mild a o (c₃.mild a o (e₂ a o n1 (e₁ a o n1 (k2 a o n1 g n2 n3 n4))) n3 n4) n2 n3 n4
    refine wpAny_bind ((tv h₃ st₃ H₃ sq₃).run (s := ⟨h₃, s.gens, s.drawn, t₃, s.os⟩) m (.refl _) fun h₄ t₄ s₄ => ?_)
    cases b with
    | false =>
      rw [if_neg Bool.false_ne_true]
      have o0 := nb rfl
      refine wpAny_bind (wpAny_pure (wpAny_pure ⟨rfl, fin h₄ t₄ ((H₃.stay s₄).drop fr) (sq₃.move s₄.seq) ?_ (CD.of s₄)⟩))
      rw [o0, List.append_nil]
      exact ac₃.move s₄.seq
    | true =>
      rw [if_pos rfl]
      refine (cb rfl).run (s := ⟨h₄, s.gens, s.drawn, t₄, s.os⟩) (K := fun _ => again (.compLoop (.ListComp elt gens scope pos) j (.ref I) (.ref D) cenv)) m (st₃.trans s₄) (H₃.stay s₄) (sq₃.move s₄.seq) (ac₃.move s₄.seq) hlen fun h₅ t₅ H₅ sq₅ ac₅ c₅ => ?_
      exact wpAny_pure (And.intro rfl (fin h₅ t₅ (H₅.drop fr) sq₅ ac₅ ((CD.of s₄).trans c₅)))
  · have hn : ds[i]? = none := List.getElem?_eq_none (by omega)
    refine T.done m.handled hn ji fun h₁ t₁ e₁ => wpAny_pure ?_
    obtain ⟨H₁, sq₁⟩ := H'.eff sq' fd e₁
    have he : i = ds.length := by omega
    subst he
    rw [List.take_length] at ac'
    exact q h₁ t₁ H₁ sq₁ (ac'.move (eff_seqs fd e₁)) (fun a o n1 n2 g => e₁ a o n1 (k1 a o n1 n2 g)) fun a o n1 g n2 n3 n4 => e₁ a o n1 (k2 a o n1 g n2 n3 n4)

/-- an inner clause -/
theorem cb_for {cenv : Env} {D : Addr} {elt : Expr} {gens : List Comprehension} {scope : Scope} {pos : Pos} {j : Nat} {target iter : Expr} {ifs : List Expr} (hg : gens[j]? = some ⟨target, iter, ifs, 0⟩) (hW : ∀ a ∈ W, h.get? a = none) (hD : h.get? D = none)
    {ds : List PyData} (outs : PyData → List PyData) (sr : ∀ h', Stay h h' → EN mg mb cenv nm W σ (D :: M) h' → Seqs (D :: M) h' → SR prog w k (D :: M) cenv h' iter target ds) (ci : ∀ d ∈ ds, CI prog w k M h mg mb cenv nm W D elt gens scope pos j σ target ifs d (outs d))
    (hs : ∀ x, foldedSetIterable iter cenv x = pure x) : CB prog w k M h mg mb cenv nm W D elt gens scope pos j σ (ds.flatMap outs) := ⟨fun {A s K Q E ys} m st H sq ac hl q => by
  rw [hg]
  have m' : Rm k (A.mark none) := ⟨m.handled, m.depth, m.units⟩
  show wpAny _ A (eval iter cenv >>= fun x => standAt iter.pos >>= fun _ => (if (0 != 0) = true then foldedIterable iter x else foldedSetIterable iter cenv x) >>= fun x => holding [x] (if (0 != 0) = true then asyncIter x else pyIter x) >>= fun it => runOwn (.compStart (.ListComp elt gens scope pos) j it (.ref D) cenv) cenv >>= fun _ => K ()) _ _ _
  refine wpAny_bind (wpAny_mono ((sr s.heap st H sq).run m (.refl _) (Q := fun it s₁ => wpAny (model prog w) A (runOwn (.compStart (.ListComp elt gens scope pos) j it (.ref D) cenv) cenv >>= fun _ => K ()) Q E s₁) (E := E) fun h₁ t₁ I wr TT s₁ hwr => ?_) (fun x s₂ h₂ => wpAny_bind (wpAny_standAt ?_)) fun _ _ e => e)
  · refine wpAny_bind (wpAny_runOwn ?_)
    obtain ⟨J, Jm, T, j0⟩ := TT (D :: M) fun a ma => .inl ma
    have loop : codeAny (model prog w) (A.mark none) (.compLoop (.ListComp elt gens scope pos) j (.ref I) (.ref D) cenv)
        (fun r s' => match r with | .ok f => wpAny (model prog w) A (K ()) Q E s' | .error e => cameBackBy (model prog w) A cenv E e s') { s with heap := h₁, toks := t₁ } := by
      refine comp_loop hg hW hD outs ci (s := ⟨h₁, s.gens, s.drawn, t₁, s.os⟩) m' (st.trans s₁) (H.stay s₁) (sq.move s₁.seq) (ac.move s₁.seq) T j0 (fun a mm => ?_) hl fun h₂ t₂ H₂ sq₂ ac₂ k1 k2 => (q h₂ t₂ H₂ sq₂ ac₂ ⟨fun a o n g => k1 a o (fun z => ?_) n (s₁ a o g), fun a o g n1 n2 n3 => k2 a o (fun z => ?_) (s₁ a o g) n1 n2 n3⟩)
      · cases e : h.get? a with
        | none => rfl
        | some o => have := st a o e; rw [hwr a mm] at this; cases this
      · rw [hwr a z] at g; cases g
      · rw [hwr a z] at g; cases g
    exact comp_start hg loop (T.again j0 loop)
  · show wpAny _ A ((if (0 != 0) = true then foldedIterable iter x else foldedSetIterable iter cenv x) >>= _) _ _ _
    rw [if_neg (by decide), hs x]
    refine wpAny_bind (wpAny_pure ?_)
    rw [if_neg (by decide)]
    exact wpAny_bind (wpAny_holding h₂)⟩
end Mine
namespace Mine
open PySem PySem.Calls PyProof.Rows
variable {prog : Program} {w : World} {k : Nat} {M : List Addr} {env : Env} {h : Heap} {mg mb : Str → Option Value} {nm : List (Str × NameKind)} {W : List Addr} {σ : List (Str × Bd)}

def closL (cells : List (Str × Addr)) : List (Str × NameKind) → List (Str × Addr) → List (Str × Addr)
  | [], acc => acc
  | (n, k) :: r, acc => if k == .free then closL cells r ((n, (cells.lookup n).getD 0) :: acc) else closL cells r acc

theorem closureFor_is {scope : Scope} (hc : ∀ x ∈ scope.names, x.2 = .free → ∃ c, env.cells.lookup x.1 = some c) : closureFor scope env = pure (closL env.cells scope.names []) := by
  have key : ∀ (names : List (Str × NameKind)) (acc : List (Str × Addr)), (∀ x ∈ names, x.2 = .free → ∃ c, env.cells.lookup x.1 = some c) →
      (forIn names acc fun (x : Str × NameKind) (r : List (Str × Addr)) => match x with
        | (name, kind) => if (kind == NameKind.free) = true then do let a ← cellOf env name; pure (ForInStep.yield ((name, a) :: r)) else pure (ForInStep.yield r) : Sem (List (Str × Addr))) = pure (closL env.cells names acc) := by
    intro names
    induction names with
    | nil => intro acc _; rw [List.forIn_nil]; rfl
    | cons p r ih =>
      intro acc hh
      obtain ⟨n, kd⟩ := p
      rw [List.forIn_cons]
      unfold closL
      have hr : ∀ x ∈ r, x.2 = .free → ∃ c, env.cells.lookup x.1 = some c := fun x m => hh x (.tail _ m)
      cases e : (kd == NameKind.free) with
      | true =>
        obtain ⟨c, hc⟩ := hh (n, kd) (.head _) (eq_of_beq e)
        dsimp only at hc ⊢
        rw [e]
        rw [if_pos rfl, if_pos rfl]
        unfold cellOf
        rw [hc]
        exact ih _ hr
      | false =>
        dsimp only
        rw [e]
        rw [if_neg Bool.false_ne_true, if_neg Bool.false_ne_true]
        exact ih _ hr
  show (forIn scope.names [] _ >>= fun r => pure r) = _
  refine (congrArg (fun t => Sem.bind t fun r => pure r) (key scope.names [] hc)).trans rfl

theorem closL_mem {cells : List (Str × Addr)} : ∀ {names acc x c}, (x, c) ∈ closL cells names acc → (x, c) ∈ acc ∨ ((x, NameKind.free) ∈ names ∧ c = (cells.lookup x).getD 0)
  | [], acc, x, c, m => .inl m
  | (n, kd) :: r, acc, x, c, m => by
    unfold closL at m
    split at m
    · rename_i e
      have := eq_of_beq e; subst this
      rcases closL_mem m with m | ⟨m, z⟩
      · rcases List.mem_cons.mp m with m | m
        · cases m; exact .inr ⟨.head _, rfl⟩
        · exact .inl m
      · exact .inr ⟨.tail _ m, z⟩
    · rcases closL_mem m with m | ⟨m, z⟩
      · exact .inl m
      · exact .inr ⟨.tail _ m, z⟩
theorem closL_other {cells : List (Str × Addr)} : ∀ {names acc x}, (x, NameKind.free) ∉ names → (closL cells names acc).lookup x = acc.lookup x
  | [], acc, x, _ => rfl
  | (n, kd) :: r, acc, x, m => by
    unfold closL
    have mr : (x, NameKind.free) ∉ r := fun z => m (.tail _ z)
    split
    · rename_i e
      have := eq_of_beq e; subst this
      rw [closL_other mr, List.lookup_cons]
      have : (x == n) = false := by
        cases z : x == n with
        | false => rfl
        | true => exact absurd (by rw [eq_of_beq z]; exact .head _) m
      rw [this]
    · exact closL_other mr
theorem closL_look {cells : List (Str × Addr)} : ∀ {names : List (Str × NameKind)} {acc x}, (names.map (·.1)).Nodup → (x, NameKind.free) ∈ names → (closL cells names acc).lookup x = some ((cells.lookup x).getD 0)
  | (n, kd) :: r, acc, x, nd, m => by
    rw [List.map_cons, List.nodup_cons] at nd
    unfold closL
    rcases List.mem_cons.mp m with m | m
    · cases m
      rw [if_pos (beq_self_eq_true _), closL_other (fun z => nd.1 (List.mem_map.mpr ⟨_, z, rfl⟩)), List.lookup_cons]
      simp
    · split
      · exact closL_look nd.2 m
      · exact closL_look nd.2 m
theorem closL_apart {cells : List (Str × Addr)} (inj : ∀ x y c, cells.lookup x = some c → cells.lookup y = some c → x = y) : ∀ {names : List (Str × NameKind)} {acc}, (names.map (·.1)).Nodup → (∀ x, (x, NameKind.free) ∈ names → ∃ c, cells.lookup x = some c) →
    (acc.Pairwise fun x y : Str × Addr => x.2 ≠ y.2) → (∀ x c, (x, c) ∈ acc → cells.lookup x = some c ∧ x ∉ names.map (·.1)) → (closL cells names acc).Pairwise fun x y => x.2 ≠ y.2
  | [], acc, _, _, p, _ => p
  | (n, kd) :: r, acc, nd, hc, p, ha => by
    rw [List.map_cons, List.nodup_cons] at nd
    unfold closL
    have ha' : ∀ x c, (x, c) ∈ acc → cells.lookup x = some c ∧ x ∉ r.map (·.1) := fun x c m => ⟨(ha x c m).1, fun z => (ha x c m).2 (by rw [List.map_cons]; exact .tail _ z)⟩
    split
    · rename_i e
      have := eq_of_beq e; subst this
      obtain ⟨c, hcn⟩ := hc n (.head _)
      refine closL_apart inj nd.2 (fun x m => hc x (.tail _ m)) (List.pairwise_cons.mpr ⟨fun y hy z => ?_, p⟩) fun x c' m => ?_
      · have h1 := ha y.1 y.2 hy
        rw [hcn] at z
        have : y.2 = c := z.symm
        rw [this] at h1
        have := inj n y.1 c hcn h1.1
        exact h1.2 (by rw [List.map_cons, this]; exact .head _)
      · rcases List.mem_cons.mp m with m | m
        · cases m; exact ⟨by rw [hcn]; rfl, nd.1⟩
        · exact ha' x c' m
    · exact closL_apart inj nd.2 (fun x m => hc x (.tail _ m)) p ha'

theorem cells_apart : ∀ (names : List (Str × NameKind)) (n : Nat) (acc : List (Str × Addr)), (acc.Pairwise fun x y => x.2 ≠ y.2) → (∀ x c, (x, c) ∈ acc → c < n) → (cellsFrom n names acc).Pairwise fun x y => x.2 ≠ y.2
  | [], _, _, p, _ => p
  | (x, kd) :: r, n, acc, p, ha => by
    unfold cellsFrom
    split
    · refine cells_apart r (n + 1) _ (List.pairwise_cons.mpr ⟨fun y hy z => ?_, p⟩) fun y c m => ?_
      · have := ha y.1 y.2 hy
        have z' : n = y.2 := z
        rw [← z'] at this
        exact Nat.lt_irrefl _ this
      · rcases List.mem_cons.mp m with m | m
        · cases m; exact Nat.lt_succ_self _
        · exact Nat.lt_succ_of_lt (ha y c m)
    · exact cells_apart r n acc p ha
theorem cells_other : ∀ (names : List (Str × NameKind)) (n : Nat) (acc : List (Str × Addr)) (x : Str), (x, NameKind.cell) ∉ names → (cellsFrom n names acc).lookup x = acc.lookup x
  | [], _, _, _, _ => rfl
  | (y, kd) :: r, n, acc, x, m => by
    unfold cellsFrom
    have mr : (x, NameKind.cell) ∉ r := fun z => m (.tail _ z)
    split
    · rename_i e
      have := eq_of_beq e; subst this
      rw [cells_other r _ _ x mr, List.lookup_cons]
      have : (x == y) = false := by
        cases z : x == y with
        | false => rfl
        | true => exact absurd (by rw [eq_of_beq z]; exact .head _) m
      rw [this]
    · exact cells_other r n acc x mr
theorem cells_own : ∀ (names : List (Str × NameKind)) (h : Heap) (acc : List (Str × Addr)) (x : Str), (names.map (·.1)).Nodup → (x, NameKind.cell) ∈ names →
    ∃ c, (cellsFrom h.objs.size names acc).lookup x = some c ∧ h.objs.size ≤ c ∧ (pushCells h names).IsCell c none
  | (y, kd) :: r, h, acc, x, nd, m => by
    rw [List.map_cons, List.nodup_cons] at nd
    unfold cellsFrom pushCells
    rcases List.mem_cons.mp m with m | m
    · cases m
      rw [if_pos (beq_self_eq_true _), if_pos (beq_self_eq_true _), cells_other r _ _ _ (fun z => nd.1 (List.mem_map.mpr ⟨_, z, rfl⟩)), List.lookup_cons]
      simp only [beq_self_eq_true]
      exact ⟨_, rfl, Nat.le_refl _, ⟨_, pushCells_keeps r _ _ _ (Heap.get?_push_size _ rfl), rfl⟩⟩
    · split
      · obtain ⟨c, e, l, i⟩ := cells_own r (h.push { cls := .type "cell", data := .cell none }) ((y, h.objs.size) :: acc) x nd.2 m
        rw [Heap.size_push] at e l
        exact ⟨c, e, by omega, i⟩
      · exact cells_own r h acc x nd.2 m

theorem cells_mem : ∀ (names : List (Str × NameKind)) (h : Heap) (acc : List (Str × Addr)) (x : Str) (c : Addr), (x, c) ∈ cellsFrom h.objs.size names acc → (x, c) ∈ acc ∨ (pushCells h names).IsCell c none
  | [], _, _, _, _, m => .inl m
  | (y, kd) :: r, h, acc, x, c, m => by
    unfold cellsFrom at m
    unfold pushCells
    split at m
    · rename_i e
      rw [if_pos e]
      have := cells_mem r (h.push { cls := .type "cell", data := .cell none }) ((y, h.objs.size) :: acc) x c (by rw [Heap.size_push]; exact m)
      rcases this with m | m
      · rcases List.mem_cons.mp m with m | m
        · cases m; exact .inr ⟨_, pushCells_keeps r _ _ _ (Heap.get?_push_size _ rfl), rfl⟩
        · exact .inl m
      · exact .inr m
    · rename_i e
      rw [if_neg e]
      exact cells_mem r h acc x c m

theorem lookup_nodup {α : Type} : ∀ {l : List (Str × α)} {x : Str} {a : α}, (l.map (·.1)).Nodup → (x, a) ∈ l → l.lookup x = some a
  | (n, b) :: r, x, a, nd, m => by
    rw [List.map_cons, List.nodup_cons] at nd
    rw [List.lookup_cons]
    rcases List.mem_cons.mp m with m | m
    · cases m; simp
    · have : (x == n) = false := by
        cases z : x == n with
        | false => rfl
        | true => exact absurd (by rw [← eq_of_beq z]; exact List.mem_map.mpr ⟨_, m, rfl⟩) nd.1
      rw [this]; exact lookup_nodup nd.2 m

/-- a comprehension's own frame -/
theorem comp_env {A : Around} {s : Shared} {Q : Env → Shared → Prop} {E : Value → Shared → Prop} {scope : Scope} {cl : List (Str × Addr)} {env : Env}
    (q : Q { scope, locals := s.heap.objs.size, globals := env.globals, cells := cellsFrom (s.heap.objs.size + 1) scope.names cl, qual := env.qual, func := none, code := env.code, frame := env.frame, builtins := env.builtins }
      { s with heap := pushCells (s.heap.push { cls := .type "dict", data := .dict #[] }) scope.names }) :
    wpAny (model prog w) A (newFunctionEnv scope env.globals cl [] env.qual none .none (some env)) Q E s := by
  simp only [newFunctionEnv, Option.isSome_some, if_true]
  refine wpAny_bind (wpAny_alloc (wpAny_bind (wpAny_layCells _ (fun _ _ _ => rfl) _ _ _ _ ?_)))
  rw [List.forIn_nil]
  refine wpAny_bind (wpAny_pure (wpAny_pure ?_))
  have e : ({ s with heap := s.heap.push { cls := .type "dict", data := .dict #[] } } : Shared).heap.objs.size = s.heap.objs.size + 1 := Heap.size_push ..
  rw [e]
  exact q

theorem relabel_look {scope : Scope} {env : Env} (x : Str) : (relabel scope env).names.lookup x = (scope.names.lookup x).map fun k => if (k == NameKind.free && env.scope.kind == .function && env.kindOf x == some .cell) = true then NameKind.cell else k := by
  unfold relabel
  simp only
  generalize scope.names = l
  induction l with
  | nil => rfl
  | cons p r ih =>
    obtain ⟨n, kd⟩ := p
    rw [List.map_cons]
    cases z : x == n with
    | true =>
      have := eq_of_beq z; subst this
      have e1 : (x == x) = true := beq_self_eq_true x
      show List.lookup x ((if _ then (x, NameKind.cell) else (x, kd)) :: _) = Option.map _ (List.lookup x ((x, kd) :: r))
      rw [show List.lookup x ((x, kd) :: r) = some kd from by rw [List.lookup_cons]; simp, Option.map_some]
      split
      · rename_i t
        dsimp only at t
        rw [List.lookup_cons, e1]
      · rename_i t
        dsimp only at t
        rw [List.lookup_cons, e1]
    | false =>
      show List.lookup x ((if _ then (n, NameKind.cell) else (n, kd)) :: _) = Option.map _ (List.lookup x ((n, kd) :: r))
      split <;> simp only [List.lookup_cons, z, ih]

theorem EN.seqs_nil {h : Heap} : Seqs [] h := fun _ m => nomatch m

/-- the comprehension's names, read as data -/
theorem comp_EN {scope : Scope} {H₀ : Heap} {D : Addr} (H : EN mg mb env nm W σ M h) (st : Stay h H₀) (hD : h.get? D = none) (hDo : ∃ o, H₀.get? D = some o) (hkind : scope.kind = .function) (nd : (scope.names.map (·.1)).Nodup)
    (hfree : ∀ x ∈ scope.names, x.2 = .free → nm.lookup x.1 = some .cell ∨ nm.lookup x.1 = some .free)
    (hown : ∀ x ∈ scope.names, x.2 = .local ∨ x.2 = .cell → σ.lookup x.1 = none) :
    ∃ W', (∀ a ∈ W', H₀.get? a = none) ∧
      EN mg mb { scope := relabel scope env, locals := H₀.objs.size, globals := env.globals, cells := cellsFrom (H₀.objs.size + 1) scope.names (closL env.cells scope.names []), qual := env.qual, func := none, code := env.code, frame := env.frame, builtins := env.builtins }
        scope.names W' σ (D :: M) (pushCells (H₀.push { cls := .type "dict", data := .dict #[] }) scope.names) := by
  have hz : (H₀.push { cls := .type "dict", data := .dict #[] }).objs.size = H₀.objs.size + 1 := Heap.size_push ..
  generalize hH1 : H₀.push { cls := .type "dict", data := .dict #[] } = H₁ at hz
  have s1 : Stay H₀ H₁ := hH1 ▸ Stay.push _ _
  have s2 : Stay H₁ (pushCells H₁ scope.names) := pushCells_keeps scope.names H₁
  have s3 : Stay h (pushCells H₁ scope.names) := st.trans (s1.trans s2)
  have kfv : ∀ x, scope.names.lookup x = some .free → (env.kindOf x = some .cell ∨ env.kindOf x = some .free) ∧ ∃ c v, env.cells.lookup x = some c ∧ h.IsCell c v := fun x i => by
    rcases hfree (x, .free) (mem_of_lookup i) rfl with e | e
    · obtain ⟨a, c, v, e, _, i⟩ := H.kc x e; exact ⟨.inl a, c, v, e, i⟩
    · exact H.kf x e
  have kf : ∀ x, scope.names.lookup x = some .free → (env.kindOf x = some .cell ∨ env.kindOf x = some .free) ∧ ∃ c, env.cells.lookup x = some c := fun x i =>
    let ⟨a, c, v, e, _⟩ := kfv x i; ⟨a, c, e⟩
  have clk : ∀ x, scope.names.lookup x = some .free → ∀ c, env.cells.lookup x = some c → (cellsFrom (H₀.objs.size + 1) scope.names (closL env.cells scope.names [])).lookup x = some c := fun x i c e => by
    rw [cells_other _ _ _ x (fun z => by rw [lookup_nodup nd z] at i; cases i), closL_look nd (mem_of_lookup i), e]; rfl
  have oldc : ∀ x c, (x, c) ∈ closL env.cells scope.names [] → c < H₀.objs.size := fun x c m => by
    rcases closL_mem m with m | ⟨m, z⟩
    · cases m
    · obtain ⟨_, c', v, e, ⟨o, g, _⟩⟩ := kfv x (lookup_nodup nd m)
      rw [e] at z
      have : c = c' := z
      subst this
      exact Heap.lt_size (st _ _ g)
  have pw : (cellsFrom (H₀.objs.size + 1) scope.names (closL env.cells scope.names [])).Pairwise fun x y => x.2 ≠ y.2 :=
    cells_apart _ _ _ (closL_apart H.inj nd (fun x m => (kf x (lookup_nodup nd m)).2) List.Pairwise.nil (fun _ _ m => nomatch m)) fun x c m => Nat.lt_succ_of_lt (oldc x c m)
  have fr : ∀ c, H₀.objs.size ≤ c → h.get? c = none := fun c hc => by
    cases e : h.get? c with
    | none => rfl
    | some o => exact absurd (Heap.lt_size (st _ _ e)) (Nat.not_lt.mpr hc)
  have kof : ∀ x, Env.kindOf { scope := relabel scope env, locals := H₀.objs.size, globals := env.globals, cells := cellsFrom (H₀.objs.size + 1) scope.names (closL env.cells scope.names []), qual := env.qual, func := none, code := env.code, frame := env.frame, builtins := env.builtins } x =
      (scope.names.lookup x).map fun k => if (k == NameKind.free && env.scope.kind == .function && env.kindOf x == some .cell) = true then NameKind.cell else k := fun x => relabel_look x
  refine ⟨H₀.objs.size :: ((cellsFrom (H₀.objs.size + 1) scope.names (closL env.cells scope.names [])).map (·.2)).filter (fun c => decide (H₀.objs.size ≤ c)), fun a m => ?_, ?_⟩
  · rcases List.mem_cons.mp m with rfl | m
    · exact fresh_none (Nat.le_refl _)
    · exact fresh_none (of_decide_eq_true (List.mem_filter.mp m).2)
  have notW : ∀ a o, h.get? a = some o → a ∉ H₀.objs.size :: ((cellsFrom (H₀.objs.size + 1) scope.names (closL env.cells scope.names [])).map (·.2)).filter (fun c => decide (H₀.objs.size ≤ c)) := fun a o e m => by
    have : h.get? a = none := by
      rcases List.mem_cons.mp m with rfl | m
      · exact fr _ (Nat.le_refl _)
      · exact fr _ (of_decide_eq_true (List.mem_filter.mp m).2)
    rw [e] at this; cases this
  exact {
    fn := hkind
    gl := H.gl
    bl := H.bl
    loc := fun x b i l => by
      cases e : scope.names.lookup x with
      | none => rw [e] at i; cases i
      | some kd =>
        have hk : kd = .free := by
          cases kd with
          | «local» => rw [hown _ (mem_of_lookup e) (.inl rfl)] at l; cases l
          | cell => rw [hown _ (mem_of_lookup e) (.inr rfl)] at l; cases l
          | free => rfl
          | _ => rw [e] at i; cases i
        subst hk
        have il : isLoc (nm.lookup x) = true := by rcases hfree (x, .free) (mem_of_lookup e) rfl with z | z <;> (rw [z]; rfl)
        obtain ⟨v, n, o⟩ := H.loc x b il l
        obtain ⟨hk, c, hc⟩ := kf x e
        refine ⟨v, ?_, ?_⟩
        · have cellv : ∃ c', env.cells.lookup x = some c' ∧ h.IsCell c' (some v) := by
            cases n with
            | loc m a _ _ => rcases hk with z | z <;> (rw [a] at z; cases z)
            | cell c a b d => exact ⟨c, b, d⟩
            | free c a b d => exact ⟨c, b, d⟩
          obtain ⟨c', hc', iv⟩ := cellv
          have kx := kof x
          rw [e, Option.map_some] at kx
          cases z : (NameKind.free == NameKind.free && env.scope.kind == .function && env.kindOf x == some .cell) with
          | true => rw [z, if_pos rfl] at kx; exact .cell c' kx (clk x e c' hc') (iv.keeps s3)
          | false => rw [z, if_neg Bool.false_ne_true] at kx; exact .free c' kx (clk x e c' hc') (iv.keeps s3)
        · cases b with
          | d y =>
            have o' : Rd M h v y := o
            exact (o'.move fun b o vs n m e _ => ⟨s3 b o e, fun z => by
              rcases List.mem_cons.mp z with rfl | z
              · rw [hD] at e; cases e
              · exact m z⟩ : Rd (D :: M) _ v y)
          | r u => exact o
    glb := fun x i => by rw [kof, i]; rfl
    kl := fun x i => by rw [kof, i]; rfl
    kc := fun x i => by
      obtain ⟨c, e, l, ic⟩ := cells_own scope.names H₁ (closL env.cells scope.names []) x nd (mem_of_lookup i)
      rw [hz] at e l
      exact ⟨by rw [kof, i]; rfl, c, none, e, .tail _ (List.mem_filter.mpr ⟨List.mem_map.mpr ⟨_, mem_of_lookup e, rfl⟩, decide_eq_true (by omega)⟩), ic⟩
    kf := fun x i => by
      obtain ⟨hk, c, v, hc, ic⟩ := kfv x i
      refine ⟨?_, c, v, clk x i c hc, ic.keeps s3⟩
      rw [kof, i, Option.map_some]
      split
      · exact .inl rfl
      · exact .inr rfl
    inj := fun x y c hx hy => name_of_addr pw (mem_of_lookup hx) (mem_of_lookup hy)
    ns := ⟨_, (show H₁.Ns H₀.objs.size (fun _ => none) from hH1 ▸ Heap.Ns.new H₀ _).keeps s2⟩
    wl := .head _
    wo := fun a m => by
      rcases List.mem_cons.mp m with rfl | m
      · obtain ⟨o, es, n, e, d, _⟩ := (show H₁.Ns H₀.objs.size (fun _ => none) from hH1 ▸ Heap.Ns.new H₀ _).keeps s2
        exact ⟨o, e, .inl ⟨es, n, d⟩⟩
      · obtain ⟨m, hm⟩ := List.mem_filter.mp m
        obtain ⟨⟨x, c⟩, mx, rfl⟩ := List.mem_map.mp m
        rcases cells_mem scope.names H₁ _ x c (by rw [hz]; exact mx) with z | ⟨o, e, d⟩
        · exact absurd (oldc x c z) (Nat.not_lt.mpr (of_decide_eq_true hm))
        · exact ⟨o, e, .inr ⟨_, d⟩⟩
    g := H.g.keeps s3
    b := H.b.keeps s3
    gw := by obtain ⟨o, _, _, e, _⟩ := H.g; exact notW _ _ e
    bw := by obtain ⟨o, _, _, e, _⟩ := H.b; exact notW _ _ e
    lw := by obtain ⟨mc, ⟨o, _, _, e, _⟩, _⟩ := H.lim; exact notW _ _ e
    lim := H.lim.keeps s3
    mok := fun a m => by
      rcases List.mem_cons.mp m with rfl | m
      · obtain ⟨o, e⟩ := hDo; exact ⟨o, s2 _ _ (s1 _ _ e)⟩
      · exact H.mok.stay s3 a m }
end Mine
namespace Mine
open PySem PySem.Calls PyProof.Rows
variable {prog : Program} {w : World} {k : Nat} {M : List Addr} {env : Env} {h : Heap} {mg mb : Str → Option Value} {nm : List (Str × NameKind)} {W : List Addr} {σ : List (Str × Bd)}

/-- a list comprehension, up to its end -/
theorem comp_core {elt : Expr} {gens : List Comprehension} {scope : Scope} {pos : Pos} {target iter : Expr} {ifs : List Expr} {ds : List PyData} (outs : PyData → List PyData)
    (H : EN mg mb env nm W σ M h) (sm : Seqs M h)
    (sr : SR prog w k M env h iter target ds)
    (ci : ∀ cenv W' D, (∀ a ∈ W', h.get? a = none) → h.get? D = none → ∀ d ∈ ds, CI prog w k M h mg mb cenv scope.names W' D elt gens scope pos 0 σ target ifs d (outs d))
    (hl : (ds.flatMap outs).length ≤ 1000000)
    (hg : gens[0]? = some ⟨target, iter, ifs, 0⟩ := by rfl) (hkind : scope.kind = .function := by rfl)
    (hnd : (scope.names.map (·.1)).Nodup := by decide +kernel)
    (hfree : (scope.names.all fun x => x.2 != .free || nm.lookup x.1 == some .cell || nm.lookup x.1 == some .free) = true := by decide +kernel)
    (hown : ∀ x ∈ scope.names, x.2 = .local ∨ x.2 = .cell → σ.lookup x.1 = none)
    (hs : ∀ x, foldedSetIterable iter env x = pure x := by intro _; rfl) {A : Around} {s : Shared} {Q : Value → Shared → Prop} {E : Value → Shared → Prop} {use : Option (Value → Sem Unit)} (m : Rm k A) (t : Stay h s.heap)
    (q : ∀ D C h₂ t₂, Stay s.heap h₂ → Rd M h₂ (.ref D) (.list (ds.flatMap outs)) → Acc (D :: M) D (ds.flatMap outs) h₂ → (∃ mm, h₂.Ns C mm) → s.heap.get? C = none → s.heap.get? D = none → compPost (model prog w) A E use Q (.ref D) C (.ok .next) { s with heap := h₂, toks := t₂ }) :
    wpAny (model prog w) A (comprehension (.ListComp elt gens scope pos) scope env (firstIterPos gens pos) (newList []) (firstAsync gens) (firstIter gens env) use) Q E s := by
  have hfree' : ∀ x ∈ scope.names, x.2 = .free → nm.lookup x.1 = some .cell ∨ nm.lookup x.1 = some .free := fun x mx hx => by
    have := List.all_eq_true.mp hfree x mx
    simp only [hx, Bool.or_eq_true, bne_self_eq_false, Bool.false_eq_true, false_or, beq_iff_eq] at this
    exact this
  have m' : Rm k (A.mark none) := ⟨m.handled, m.depth, m.units⟩
  obtain ⟨g0, gr, rfl⟩ : ∃ g0 gr, gens = g0 :: gr := by
    cases gens with
    | nil => cases hg
    | cons a r => exact ⟨a, r, rfl⟩
  have e0 : g0 = ⟨target, iter, ifs, 0⟩ := by simpa using hg
  subst e0
  refine wpAny_comprehension_free (use := use) rfl hs (closureFor_is fun x mx hx => ?_) hkind (fun x mx hx => ?_) ?_
  · rcases hfree' x mx hx with e | e
    · obtain ⟨_, c, v, e, _⟩ := H.kc _ e; exact ⟨c, e⟩
    · obtain ⟨_, c, v, e, _⟩ := H.kf _ e; exact ⟨c, e⟩
  · exact lookup_nodup hnd (by obtain ⟨a, b⟩ := x; dsimp only at hx; subst hx; exact mx)
  refine sr.run m t fun h₁ t₁ I wr TT s₁ hwr => ?_
  refine wpAny_newObj_type (comp_env ?_)
  have eD : ({ ({ s with heap := h₁, toks := t₁ } : Shared) with heap := h₁.push { cls := .type "list", dict := none, data := .seq ([] : List Value).toArray } } : Shared).heap.objs.size = h₁.objs.size + 1 := Heap.size_push ..
  have th : Stay h h₁ := t.trans s₁
  have hD : h.get? h₁.objs.size = none := th.freshAt
  have sD := Stay.push h₁ { cls := .type "list", dict := none, data := .seq ([] : List Value).toArray }
  obtain ⟨W', hW0, H'⟩ := comp_EN (H₀ := h₁.push { cls := .type "list", dict := none, data := .seq ([] : List Value).toArray }) (D := h₁.objs.size) (scope := scope) H (th.trans sD) hD ⟨_, Heap.get?_push_size _ rfl⟩ hkind hnd hfree' hown
  have hW' : ∀ a ∈ W', h.get? a = none := fun a ma => by
    cases e : h.get? a with
    | none => rfl
    | some o => have := th.trans sD a o e; rw [hW0 a ma] at this; cases this
  have s2 : Stay (h₁.push { cls := .type "list", dict := none, data := .seq ([] : List Value).toArray }) (pushCells ((h₁.push { cls := .type "list", dict := none, data := .seq ([] : List Value).toArray }).push { cls := .type "dict", data := .dict #[] }) scope.names) :=
    (Stay.push _ _).trans (pushCells_keeps _ _)
  have s3 := sD.trans s2
  have hne : ∀ a ∈ wr, h.get? a = none := fun a ma => by
    cases e : h.get? a with
    | none => rfl
    | some o => have := t a o e; rw [hwr a ma] at this; cases this
  have ac : Acc (h₁.objs.size :: M) h₁.objs.size [] (pushCells ((h₁.push { cls := .type "list", dict := none, data := .seq ([] : List Value).toArray }).push { cls := .type "dict", data := .dict #[] }) scope.names) :=
    ⟨#[], ⟨0, s2 _ _ (Heap.get?_push_size _ rfl)⟩, .nil⟩
  have sq := seqs_cons ac (sm.move (th.trans s3).seq)
  obtain ⟨J, Jm, T, j0⟩ := TT (h₁.objs.size :: M) fun a ma => by
    rcases List.mem_cons.mp ma with rfl | ma
    · exact .inr (fresh_none (Nat.le_refl _))
    · exact .inl ma
  have j1 : J 0 (pushCells ((h₁.push { cls := .type "list", dict := none, data := .seq ([] : List Value).toArray }).push { cls := .type "dict", data := .dict #[] }) scope.names) := T.stab j0 fun a o g _ _ _ => s3 a o g
  have loop : ∀ cenv : Env, EN mg mb cenv scope.names W' σ (h₁.objs.size :: M) (pushCells ((h₁.push { cls := .type "list", dict := none, data := .seq ([] : List Value).toArray }).push { cls := .type "dict", data := .dict #[] }) scope.names) → (cenv.locals = h₁.objs.size + 1) →
      codeAny (model prog w) A (.compLoop (.ListComp elt (⟨target, iter, ifs, 0⟩ :: gr) scope pos) 0 (.ref I) (.ref h₁.objs.size) cenv) (compPost (model prog w) A E use Q (.ref h₁.objs.size) cenv.locals)
        { s with heap := pushCells ((h₁.push { cls := .type "list", dict := none, data := .seq ([] : List Value).toArray }).push { cls := .type "dict", data := .dict #[] }) scope.names, toks := t₁ } := fun cenv HC hloc => by
    refine comp_loop (s := ⟨_, s.gens, s.drawn, t₁, s.os⟩) (iter := iter) rfl hW' hD outs (ci cenv W' _ hW' hD) m (th.trans s3) HC sq ac T j1 hne (by simpa using hl) fun h₂ t₂ H₂ sq₂ ac₂ k1 k2 => ?_
    obtain ⟨mm, hns⟩ := H₂.ns
    have st2 : Stay s.heap h₂ := fun a o e => by
      have e1 := s₁ a o e
      have lt := Heap.lt_size e1
      have na : a ∉ wr := fun z => by rw [hwr a z] at e; cases e
      refine k1 a o na (fun z => ?_) (s3 a o e1)
      rcases List.mem_cons.mp z with z | z
      · exact Nat.ne_of_lt lt z
      · have := sD a o e1; rw [hW0 a z] at this; cases this
    have ac₃ : Acc (h₁.objs.size :: M) h₁.objs.size (ds.flatMap outs) h₂ := by simpa using ac₂
    obtain ⟨vs, ⟨n, pl⟩, ra⟩ := ac₂
    refine q _ _ h₂ t₂ st2 (.list pl (H.mok.stay th).fresh ?_) ac₃ ⟨mm, hns⟩ ?_ s₁.freshAt
    · simpa using ra.move (M' := M) fun b o vs n mm e d => ⟨e, fun z => mm (.tail _ z)⟩
    · rw [hloc]
      cases e : s.heap.get? (h₁.objs.size + 1) with
      | none => rfl
      | some o => exact absurd (Heap.lt_size (s₁ _ _ e)) (Nat.not_lt.mpr (Nat.le_succ _))
  exact comp_start rfl (loop _ H' eD) (T.again (s := ⟨_, s.gens, s.drawn, t₁, s.os⟩) j1 (loop _ H' eD))
theorem seq_same {C : Addr} {h h' : Heap} {mm} (hns : h.Ns C mm) (hs : Heap.SameBut C h h') : ∀ (a : Addr) (o : Obj) (vs : Array Value) (n : Nat), h.get? a = some o → o.data = .seq vs n → h'.get? a = some o := fun a o vs n e d => by
  obtain ⟨od, es, ep, ed, dd, _⟩ := hns
  exact hs.extBut a o (fun z => by rw [z, ed] at e; cases e; rw [dd] at d; cases d) e
theorem Rd.seq {M h h' v d} (x : Rd M h v d) (kk : ∀ (a : Addr) (o : Obj) (vs : Array Value) (n : Nat), h.get? a = some o → o.data = .seq vs n → h'.get? a = some o) : Rd M h' v d := x.move fun b o vs n m e d => ⟨kk b o vs n e d, m⟩
theorem stay_same {C : Addr} {h₀ h h' : Heap} (st : Stay h₀ h) (hC : h₀.get? C = none) (hs : Heap.SameBut C h h') : Stay h₀ h' := fun a o e => hs.extBut a o (fun z => by rw [z, hC] at e; cases e) (st a o e)

/-- a list comprehension -/
theorem ev_comp {elt : Expr} {gens : List Comprehension} {scope : Scope} {pos : Pos} {target iter : Expr} {ifs : List Expr} {ds : List PyData} (outs : PyData → List PyData)
    (H : EN mg mb env nm W σ M h) (sm : Seqs M h)
    (sr : SR prog w k M env h iter target ds)
    (ci : ∀ cenv W' D, (∀ a ∈ W', h.get? a = none) → h.get? D = none → ∀ d ∈ ds, CI prog w k M h mg mb cenv scope.names W' D elt gens scope pos 0 σ target ifs d (outs d))
    (hl : (ds.flatMap outs).length ≤ 1000000)
    (hg : gens[0]? = some ⟨target, iter, ifs, 0⟩ := by rfl) (hkind : scope.kind = .function := by rfl)
    (hnd : (scope.names.map (·.1)).Nodup := by decide +kernel)
    (hfree : (scope.names.all fun x => x.2 != .free || nm.lookup x.1 == some .cell || nm.lookup x.1 == some .free) = true := by decide +kernel)
    (hown : ∀ x ∈ scope.names, x.2 = .local ∨ x.2 = .cell → σ.lookup x.1 = none)
    (hs : ∀ x, foldedSetIterable iter env x = pure x := by intro _; rfl) : EV prog w k M env h (.ListComp elt gens scope pos) (.list (ds.flatMap outs)) := ⟨fun {A s Q E} m t q => by
  rw [eval_ListComp]
  refine comp_core outs H sm sr ci hl hg hkind hnd hfree hown hs m t fun D C h₂ t₂ st2 rd _ hns hC hD => ?_
  obtain ⟨mm, hns⟩ := hns
  exact ⟨mm, hns, fun h₃ hs₃ => q _ h₃ t₂ (stay_same st2 hC hs₃) (rd.seq (seq_same hns hs₃))⟩⟩

theorem EN.at {h h' : Heap} (H : EN mg mb env nm W σ M h) (k : Stay h h') : EN mg mb env nm W σ M h' := H.stay k
theorem EN.freshM {h h' : Heap} {D : Addr} (H : EN mg mb env nm W σ M h) (sm : Seqs M h) (k : Stay h h') (hD : h.get? D = none) (hx : ∃ o, h'.get? D = some o) : EN mg mb env nm W σ (D :: M) h' :=
  H.moveM sm (fun a m => by
    rcases List.mem_cons.mp m with rfl | m
    · exact hx
    · exact H.mok.stay k a m) (fun a o e m _ => ⟨k a o e, fun z => by
    rcases List.mem_cons.mp z with rfl | z
    · rw [hD] at e; cases e
    · exact m z⟩)

/-- a comprehension that is stored in a plain name at once -/
theorem st_comp0 {elt : Expr} {gens : List Comprehension} {scope : Scope} {pos py spos : Pos} {y : Str} {target iter : Expr} {ifs : List Expr} {ds : List PyData} (outs : PyData → List PyData) {A : Around} {s : Shared} {Q : Flow → Shared → Prop} {E : Value → Shared → Prop} (m : Rm k A)
    (H : EN mg mb env nm W σ M s.heap) (sm : Seqs M s.heap)
    (sr : SR prog w k M env s.heap iter target ds)
    (ci : ∀ cenv W' D, (∀ a ∈ W', s.heap.get? a = none) → s.heap.get? D = none → ∀ d ∈ ds, CI prog w k M s.heap mg mb cenv scope.names W' D elt gens scope pos 0 σ target ifs d (outs d))
    (hl : (ds.flatMap outs).length ≤ 1000000) (hy : nm.lookup y = some .local)
    (hsw : swapsWith (.ListComp elt gens scope pos) (some (.Name y py)) spos.line env = pure true)
    (hown : ∀ x ∈ scope.names, x.2 = .local ∨ x.2 = .cell → σ.lookup x.1 = none)
    (q : ∀ D h₂, Stay s.heap h₂ → Rd M h₂ (.ref D) (.list (ds.flatMap outs)) → Acc (D :: M) D (ds.flatMap outs) h₂ → s.heap.get? D = none → ∃ M' b, EN mg mb env nm W σ M' h₂ ∧ Seqs M' h₂ ∧ b.ok M' h₂ (.ref D) ∧
      ∀ h' tk, EN mg mb env nm W ((y, b) :: σ) M' h' → Chg W s.heap h' → (∀ (a : Addr) (o : Obj) (vs : Array Value) (n : Nat), h₂.get? a = some o → o.data = .seq vs n → h'.get? a = some o) → Q .next { s with heap := h', toks := tk })
    (hg : gens[0]? = some ⟨target, iter, ifs, 0⟩ := by rfl) (hkind : scope.kind = .function := by rfl)
    (hnd : (scope.names.map (·.1)).Nodup := by decide +kernel)
    (hfree : (scope.names.all fun x => x.2 != .free || nm.lookup x.1 == some .cell || nm.lookup x.1 == some .free) = true := by decide +kernel)
    (hs : ∀ x, foldedSetIterable iter env x = pure x := by intro _; rfl) : wpAny (model prog w) A (exec (.Assign [.Name y py] (.ListComp elt gens scope pos) spos) env) Q E s := by
  rw [exec_Assign_Name_used _ _ _ _ hsw]
  refine wpAny_bind (wpAny_standAt (wpAny_bind ?_))
  show wpAny _ A (do let _ ← comprehension (.ListComp elt gens scope pos) scope env (firstIterPos gens pos) (newList []) (firstAsync gens) (firstIter gens env) (some (assign (.Name y py) env))) _ _ s
  refine wpAny_bind (comp_core (use := some (assign (.Name y py) env)) outs H sm sr ci hl hg hkind hnd hfree hown hs m (.refl _) fun D C h₂ t₂ st2 rd ac hns hC hD => ?_)
  obtain ⟨mm, hns⟩ := hns
  obtain ⟨M', b, H₂, sm₂, hb, fin⟩ := q D h₂ st2 rd ac hD
  show wpAny _ A (assign (.Name y py) env (.ref D)) _ _ _
  have hCW : C ∉ W := fun z => by obtain ⟨o, e, _⟩ := H.wo C z; rw [hC] at e; cases e
  refine wpAny_assign_Name (H₂.store (s := ⟨h₂, s.gens, s.drawn, t₂, s.os⟩) (.inl hy) hb fun h₃ t₃ H₃ e₃ m₃ => ?_)
  have hns3 : h₃.Ns C mm := hns.at' fun o e => e₃ C o hCW e
  refine ⟨mm, hns3, fun h₄ hs => ?_⟩
  have ne : ∀ a o, s.heap.get? a = some o → C ≠ a := fun a o e z => by rw [← z, hC] at e; cases e
  obtain ⟨lm, ⟨lo, _, _, le, _⟩⟩ := H.ns
  have H₄ : EN mg mb env nm W ((y, b) :: σ) M' h₄ := H₃.other hns3 (ne _ _ le) (let ⟨o, _, _, e, _⟩ := H.g; ne _ o e) (let ⟨o, _, _, e, _⟩ := H.b; ne _ o e) (let ⟨_, ⟨o, _, _, e, _⟩, _⟩ := H.lim; ne _ o e) hs hCW (sm₂.move fun a o vs n e d => m₃ a o e (fun es n z => by rw [d] at z; cases z) (fun v z => by rw [d] at z; cases z))
  refine wpAny_pure (wpAny_pure (fin h₄ _ H₄ ⟨fun a o na e => hs.extBut a o (fun z => ne a o e z.symm) (e₃ a o na (st2 a o e)), fun a o e n1 n2 => hs.extBut a o (fun z => ne a o e z.symm) (m₃ a o (st2 a o e) n1 n2)⟩ fun a o vs n e d => ?_))
  exact seq_same hns3 hs a o vs n (m₃ a o e (fun es n z => by rw [d] at z; cases z) (fun v z => by rw [d] at z; cases z)) d
end Mine
namespace Mine
open PySem PySem.Calls PyProof.Rows
variable {prog : Program} {w : World} {k : Nat}

/-- what stays the same through a def's body -/
structure Cx where
  top : Heap
  base : Heap
  V : List Addr
  mg : Str → Option Value
  mb : Str → Option Value
  env : Env
  nm : List (Str × NameKind)
  W : List Addr

/-- the state within a def's body: its names (σ), the lists that it changes (μ; M: those and its callers'), and what has stayed since org -/
structure FS (C : Cx) (org : Heap) (σ : List (Str × Bd)) (M : List Addr) (μ : List (Addr × List PyData)) (h : Heap) : Prop where
  en : EN C.mg C.mb C.env C.nm C.W σ M h
  sm : Seqs M h
  tp : Stay C.top h
  ef : Eff C.V C.base h
  vx : ∀ a ∈ C.V, ∃ o vs n, h.get? a = some o ∧ o.data = .seq vs n
  wb : ∀ a ∈ C.W, C.base.get? a = none ∧ C.top.get? a = none
  og : ∀ a o, org.get? a = some o → a ∉ M → (∀ es n, o.data ≠ .dict es n) → (∀ v, o.data ≠ .cell v) → h.get? a = some o
  ox : ∀ a o, org.get? a = some o → ∃ o', h.get? a = some o'
  mu : ∀ p ∈ μ, p.1 ∈ M ∧ Acc M p.1 p.2 h ∧ (p.1 ∈ C.V ∨ C.base.get? p.1 = none) ∧ C.top.get? p.1 = none
  nd : (μ.map (·.1)).Nodup

variable {C : Cx} {org : Heap} {σ : List (Str × Bd)} {M : List Addr} {μ : List (Addr × List PyData)} {h : Heap}

theorem FS.stay {h'} (F : FS C org σ M μ h) (s : Stay h h') : FS C org σ M μ h' where
  en := F.en.stay s
  sm := F.sm.move s.seq
  tp := F.tp.trans s
  ef := F.ef.trans (.of s)
  vx := fun a m => let ⟨o, vs, n, e, d⟩ := F.vx a m; ⟨o, vs, n, s a o e, d⟩
  wb := F.wb
  og := fun a o e m n1 n2 => s a o (F.og a o e m n1 n2)
  ox := fun a o e => let ⟨o', e'⟩ := F.ox a o e; ⟨o', s a o' e'⟩
  mu := fun p m => let ⟨a, b, c⟩ := F.mu p m; ⟨a, b.move s.seq, c⟩
  nd := F.nd
theorem FS.chg {h' σ'} (F : FS C org σ M μ h) (H : EN C.mg C.mb C.env C.nm C.W σ' M h') (c : Chg C.W h h') : FS C org σ' M μ h' where
  en := H
  sm := F.sm.move c.seq
  tp := c.eff.base F.tp fun a m => (F.wb a m).2
  ef := fun a o m e => c.eff a o (fun z => by rw [(F.wb a z).1] at e; cases e) (F.ef a o m e)
  vx := fun a m => let ⟨o, vs, n, e, d⟩ := F.vx a m; ⟨o, vs, n, c.seq a o vs n e d, d⟩
  wb := F.wb
  og := fun a o e m n1 n2 => c.mild a o (F.og a o e m n1 n2) n1 n2
  ox := fun a o e => by
    obtain ⟨o', e'⟩ := F.ox a o e
    by_cases z : a ∈ C.W
    · obtain ⟨o2, e2, _⟩ := H.wo a z; exact ⟨o2, e2⟩
    · exact ⟨o', c.eff a o' z e'⟩
  mu := fun p m => let ⟨a, b, d⟩ := F.mu p m; ⟨a, b.move c.seq, d⟩
  nd := F.nd
theorem FS.reorg (F : FS C org σ M μ h) : FS C h σ M μ h := { F with og := fun _ _ e _ _ _ => e, ox := fun _ o e => ⟨o, e⟩ }
theorem FS.unorg {org' : Heap} (F : FS C org' σ M μ h) (k : ∀ a o, org.get? a = some o → a ∉ M → (∀ es n, o.data ≠ .dict es n) → (∀ v, o.data ≠ .cell v) → org'.get? a = some o) (kx : ∀ a o, org.get? a = some o → ∃ o', org'.get? a = some o') : FS C org σ M μ h :=
  { F with og := fun a o e m n1 n2 => F.og a o (k a o e m n1 n2) m n1 n2, ox := fun a o e => let ⟨o', e'⟩ := kx a o e; F.ox a o' e' }
theorem FS.names {σ'} (F : FS C org σ M μ h) (H : EN C.mg C.mb C.env C.nm C.W σ' M h) : FS C org σ' M μ h := { F with en := H }
theorem FS.sub {μ'} (F : FS C org σ M μ h) (s : ∀ p ∈ μ', p ∈ μ) (nd : (μ'.map (·.1)).Nodup) : FS C org σ M μ' h := { F with mu := fun p m => F.mu p (s p m), nd := nd }
/-- names that are not asked again may be forgotten -/
theorem FS.look {σ'} (F : FS C org σ M μ h) (s : ∀ x b, σ'.lookup x = some b → σ.lookup x = some b) : FS C org σ' M μ h :=
  F.names { F.en with loc := fun x b i l => F.en.loc x b i (s x b l) }

theorem Acc.rd {M D ys h} (x : Acc M D ys h) : Rd [] h (.ref D) (.list ys) := by
  obtain ⟨vs, ⟨n, e⟩, r⟩ := x
  exact .list e List.not_mem_nil r.off
/-! statements -/
section
variable {A : Around} {g : Array GenState} {dr : Drawn} {tk : Nat} {os : OsState} {E : Value → Shared → Prop} {Q : Flow → Shared → Prop}

theorem x_seq {env : Env} {st : Stmt} {rest : List Stmt} {s : Shared} (a : wpAny (model prog w) A (exec st env) (fun f s' => match f with | .next => wpAny (model prog w) A (execs rest env) Q E s' | f => Q f s') E s) :
    wpAny (model prog w) A (execs (st :: rest) env) Q E s := wpAny_execs_cons a

/-- x = e -/
theorem s_assign {x : Str} {p pos : Pos} {value : Expr} {d : PyData} (F : FS C org σ M μ h) (m : Rm k A) (e : EV prog w k M C.env h value d) (hx : (C.nm.lookup x == some .local || C.nm.lookup x == some .cell) = true)
    (hs : swapsWith value (some (.Name x p)) pos.line C.env = pure false)
    (q : ∀ h' tk', FS C org ((x, .d d) :: σ) M μ h' → Q .next ⟨h', g, dr, tk', os⟩) : wpAny (model prog w) A (exec (.Assign [.Name x p] value pos) C.env) Q E ⟨h, g, dr, tk, os⟩ := by
  refine wpAny_Assign_Name (e.run (s := ⟨h, g, dr, tk, os⟩) m (.refl _) fun v h₁ t₁ s₁ r₁ => ?_) hs
  refine (F.stay s₁).en.store (s := ⟨h₁, g, dr, t₁, os⟩) (b := .d d) (by simpa using hx) r₁ fun h₂ t₂ H₂ e₂ m₂ => q h₂ t₂ ((F.stay s₁).chg H₂ ⟨e₂, m₂⟩)

/-- x, y = e -/
theorem s_assign2 {x y : Str} {p p' tp pos : Pos} {kk : Nat} {value : Expr} {d d' : PyData} (F : FS C org σ M μ h) (m : Rm k A) (e : EV prog w k M C.env h value (.tuple [d, d'])) (hx : (C.nm.lookup x == some .local || C.nm.lookup x == some .cell) = true) (hy : (C.nm.lookup y == some .local || C.nm.lookup y == some .cell) = true)
    (hs : swapsWithSole [.Tuple [.Name x p, .Name y p'] kk tp] value pos.line C.env = pure false) (hw : swappedStores [.Tuple [.Name x p, .Name y p'] kk tp] value C.env = pure none)
    (q : ∀ h' tk', FS C org ((y, .d d') :: (x, .d d) :: σ) M μ h' → Q .next ⟨h', g, dr, tk', os⟩) : wpAny (model prog w) A (exec (.Assign [.Tuple [.Name x p, .Name y p'] kk tp] value pos) C.env) Q E ⟨h, g, dr, tk, os⟩ := by
  refine PyProof.Rows.Assign_Tuple (e.run (s := ⟨h, g, dr, tk, os⟩) m (.refl _) fun v h₁ t₁ s₁ r₁ => ?_) hs hw
  exact assign_tg (s := ⟨h₁, g, dr, t₁, os⟩) m.handled (F.stay s₁).en (.pair (by simpa using hx) (by simpa using hy)) (TD.of r₁ fun _ => ⟨_, rfl⟩) fun h₂ t₂ H₂ c₂ => q h₂ t₂ ((F.stay s₁).chg H₂ c₂)

theorem FS.fresh (F : FS C org σ M μ h) (hV : C.V = []) {D : Addr} (hD : h.get? D = none) : C.base.get? D = none ∧ C.top.get? D = none ∧ org.get? D = none := by
  refine ⟨?_, ?_, ?_⟩
  · cases e : C.base.get? D with
    | none => rfl
    | some o => have := F.ef D o (by rw [hV]; exact List.not_mem_nil) e; rw [hD] at this; cases this
  · cases e : C.top.get? D with
    | none => rfl
    | some o => have := F.tp D o e; rw [hD] at this; cases this
  · cases e : org.get? D with
    | none => rfl
    | some o => obtain ⟨o', e'⟩ := F.ox D o e; rw [hD] at e'; cases e'
theorem newAcc {vs : List Value} {ds : List PyData} (r : RdAll M h vs ds) (hD : h.get? h.objs.size = none) : Acc (h.objs.size :: M) h.objs.size ds (h.push { cls := .type "list", data := .seq vs.toArray }) :=
  ⟨vs.toArray, ⟨0, get_push _ _ rfl⟩, by
    simpa using r.move fun b o vs n m e _ => ⟨Stay.push _ _ _ _ e, fun z => by
      rcases List.mem_cons.mp z with z | z
      · rw [z, hD] at e; cases e
      · exact m z⟩⟩
/-- a new list joins those that are changed -/
theorem FS.addlist {h' : Heap} {D : Addr} {ds : List PyData} (F : FS C org σ M μ h) (hV : C.V = []) (hD : h.get? D = none) (s : Stay h h') (ac : Acc (D :: M) D ds h') : FS C org σ (D :: M) ((D, ds) :: μ) h' := by
  obtain ⟨f1, f2, f3⟩ := F.fresh hV hD
  obtain ⟨vs, ⟨n, eD⟩, ra⟩ := ac
  have sm : Seqs (D :: M) h' := fun a m => by
    rcases List.mem_cons.mp m with rfl | m
    · exact ⟨_, vs, n, eD, rfl⟩
    · exact F.sm.move s.seq a m
  have grow : ∀ {us ys}, RdAll M h us ys → RdAll (D :: M) h' us ys := fun {us ys} x => x.move fun b o vs n m e _ => ⟨s b o e, fun z => by
    rcases List.mem_cons.mp z with z | z
    · rw [z, hD] at e; cases e
    · exact m z⟩
  exact {
    en := F.en.freshM F.sm s hD ⟨_, eD⟩
    sm := sm
    tp := F.tp.trans s
    ef := F.ef.trans (.of s)
    vx := fun a m => let ⟨o, vs, n, e, d⟩ := F.vx a m; ⟨o, vs, n, s a o e, d⟩
    wb := F.wb
    og := fun a o e m n1 n2 => s a o (F.og a o e (fun z => m (.tail _ z)) n1 n2)
    ox := fun a o e => let ⟨o', e'⟩ := F.ox a o e; ⟨o', s a o' e'⟩
    mu := fun p m => by
      rcases List.mem_cons.mp m with rfl | m
      · exact ⟨.head _, ⟨vs, ⟨n, eD⟩, ra⟩, .inr f1, f2⟩
      · obtain ⟨a, ⟨us, ⟨n', e'⟩, rr⟩, b⟩ := F.mu p m
        exact ⟨.tail _ a, ⟨us, ⟨n', s _ _ e'⟩, grow rr⟩, b⟩
    nd := by
      rw [List.map_cons, List.nodup_cons]
      refine ⟨fun z => ?_, F.nd⟩
      obtain ⟨p, mp, ep⟩ := List.mem_map.mp z
      obtain ⟨_, ⟨us, ⟨n', e'⟩, _⟩, _⟩ := F.mu p mp
      dsimp only at ep
      rw [ep, hD] at e'; cases e' }

/-- x = [..], a list that will be changed -/
theorem s_newlist {x : Str} {p pos lp : Pos} {es : List Expr} {ds : List PyData} (F : FS C org σ M μ h) (m : Rm k A) (e : EVs prog w k M C.env h es ds) (hx : (C.nm.lookup x == some .local || C.nm.lookup x == some .cell) = true)
    (hs : swapsWith (.List es lp) (some (.Name x p)) pos.line C.env = pure false) (hn : ds.length ≤ 1000000) (hV : C.V = [])
    (q : ∀ a h' tk', h.get? a = none → org.get? a = none → FS C org ((x, .r (.ref a)) :: σ) (a :: M) ((a, ds) :: μ) h' → Q .next ⟨h', g, dr, tk', os⟩) : wpAny (model prog w) A (exec (.Assign [.Name x p] (.List es lp) pos) C.env) Q E ⟨h, g, dr, tk, os⟩ := by
  refine wpAny_Assign_Name (wpAny_List (e.run (s := ⟨h, g, dr, tk, os⟩) m (.refl _) fun vs h₁ t₁ s₁ r₁ => ⟨by rw [r₁.length]; exact small_line hn, ?_⟩)) hs
  have F₁ := F.stay s₁
  have hD : h₁.get? h₁.objs.size = none := fresh_none (Nat.le_refl _)
  have F₂ := F₁.addlist hV hD (Stay.push _ _) (newAcc r₁ hD)
  have nD : ∀ {h₀ : Heap}, (∀ a o, h₀.get? a = some o → ∃ o', h₁.get? a = some o') → h₀.get? h₁.objs.size = none := fun {h₀} kx => by
    cases e : h₀.get? h₁.objs.size with
    | none => rfl
    | some o => obtain ⟨o', e'⟩ := kx _ _ e; rw [hD] at e'; cases e'
  exact F₂.en.store (s := ⟨_, g, dr, t₁, os⟩) (b := .r (.ref h₁.objs.size)) (by simpa using hx) rfl fun h₂ t₂ H₂ e₂ m₂ => q _ h₂ t₂ (nD fun a o e => ⟨o, s₁ a o e⟩) (nD F₁.ox) (F₂.chg H₂ ⟨e₂, m₂⟩)

/-- return e -/
theorem s_return {pos : Pos} {value : Expr} {d : PyData} (F : FS C org σ M μ h) (m : Rm k A) (e : EV prog w k M C.env h value d)
    (q : ∀ v h' tk', FS C org σ M μ h' → Rd M h' v d → Q (.ret v) ⟨h', g, dr, tk', os⟩) : wpAny (model prog w) A (exec (.Return (some value) pos) C.env) Q E ⟨h, g, dr, tk, os⟩ :=
  wpAny_Return_some (e.run (s := ⟨h, g, dr, tk, os⟩) m (.refl _) fun v h₁ t₁ s₁ r₁ => q v h₁ t₁ (F.stay s₁) r₁)

/-- if -/
theorem s_if {pos : Pos} {test : Expr} {body orelse : List Stmt} {b : Bool} (F : FS C org σ M μ h) (m : Rm k A) (t : TV prog w k C.env h test b)
    (q1 : b = true → ∀ h' tk', Stay h h' → FS C org σ M μ h' → wpAny (model prog w) A (execs body C.env) Q E ⟨h', g, dr, tk', os⟩)
    (q2 : b = false → ∀ h' tk', Stay h h' → FS C org σ M μ h' → wpAny (model prog w) A (execs orelse C.env) Q E ⟨h', g, dr, tk', os⟩) : wpAny (model prog w) A (exec (.If test body orelse pos) C.env) Q E ⟨h, g, dr, tk, os⟩ :=
  wpAny_If (t.run (s := ⟨h, g, dr, tk, os⟩) m (.refl _) fun h₁ t₁ s₁ => by
    cases b with
    | true => exact q1 rfl h₁ t₁ s₁ (F.stay s₁)
    | false => exact q2 rfl h₁ t₁ s₁ (F.stay s₁))
end
end Mine
namespace Mine
open PySem PySem.Calls PyProof.Rows
variable {prog : Program} {w : World} {k : Nat}
variable {C : Cx} {org : Heap} {σ : List (Str × Bd)} {M : List Addr} {μ : List (Addr × List PyData)} {h : Heap}

theorem mapSeq_plain (f : Array Value → Array Value) (vs : Array Value) (n : Nat) : ∃ n', Obj.mapSeq f { cls := .type "list", data := .seq vs n } = { cls := .type "list", data := .seq (f vs) n' } := by
  simp [Obj.mapSeq]

/-- a list that is changed takes new items -/
theorem FS.mutate {a : Addr} {ds ds' : List PyData} {f : Array Value → Array Value} (F : FS C org σ M ((a, ds) :: μ) h) (r : ∀ vs n, h.get? a = some { cls := .type "list", data := .seq vs n } → RdAll M h vs.toList ds → RdAll M h (f vs).toList ds') :
    FS C org σ M ((a, ds') :: μ) (h.update a (Obj.mapSeq f)) := by
  obtain ⟨am, ⟨vs, ⟨n, e⟩, ra⟩, hv, ht⟩ := F.mu _ (.head _)
  obtain ⟨n', e'⟩ := mapSeq_plain f vs n
  have hs : Heap.SameBut a h (h.update a (Obj.mapSeq f)) := Heap.SameBut.update ..
  have ge : (h.update a (Obj.mapSeq f)).get? a = some { cls := .type "list", data := .seq (f vs) n' } := by
    rw [Heap.get?_update_self _ e (by rw [e']; rfl), e']
  have ra' := r vs n e ra
  have old : ∀ b o, h.get? b = some o → b ≠ a → (h.update a (Obj.mapSeq f)).get? b = some o := fun b o g ne => hs.extBut b o ne g
  have grow : ∀ {us ys}, RdAll M h us ys → RdAll M (h.update a (Obj.mapSeq f)) us ys := fun {us ys} x => x.move fun b o vs n m e _ => ⟨old b o e (fun z => m (z ▸ am)), m⟩
  have sm : Seqs M (h.update a (Obj.mapSeq f)) := fun b m => by
    by_cases z : b = a
    · subst z; exact ⟨_, _, _, ge, rfl⟩
    · obtain ⟨o, us, k, g, d⟩ := F.sm b m; exact ⟨o, us, k, old b o g z, d⟩
  exact {
    en := F.en.move F.sm (fun b m => let ⟨o, _, _, g, _⟩ := sm b m; ⟨o, g⟩) fun b o g m _ => old b o g (fun z => m (z ▸ am))
    sm := sm
    tp := fun b o g => old b o (F.tp b o g) (fun z => by rw [z, ht] at g; cases g)
    ef := fun b o m g => old b o (F.ef b o m g) (fun z => by
      rcases hv with hv | hv
      · exact m (z ▸ hv)
      · rw [z, hv] at g; cases g)
    vx := fun b m => by
      by_cases z : b = a
      · subst z; exact ⟨_, _, _, ge, rfl⟩
      · obtain ⟨o, us, j, g, d⟩ := F.vx b m; exact ⟨o, us, j, old b o g z, d⟩
    wb := F.wb
    og := fun b o g m n1 n2 => old b o (F.og b o g m n1 n2) (fun z => m (z ▸ am))
    ox := fun b o g => by
      by_cases z : b = a
      · subst z; exact ⟨_, ge⟩
      · obtain ⟨o', g'⟩ := F.ox b o g; exact ⟨o', old b o' g' z⟩
    mu := fun p m => by
      rcases List.mem_cons.mp m with rfl | m
      · exact ⟨am, ⟨f vs, ⟨n', ge⟩, grow ra'⟩, hv, ht⟩
      · obtain ⟨x, ⟨us, ⟨j, g⟩, rr⟩, y⟩ := F.mu p (.tail _ m)
        have ne : p.1 ≠ a := fun z => by
          have := F.nd
          rw [List.map_cons, List.nodup_cons] at this
          exact this.1 (List.mem_map.mpr ⟨p, m, z⟩)
        exact ⟨x, ⟨us, ⟨j, old _ _ g ne⟩, grow rr⟩, y⟩
    nd := F.nd }

section
variable {A : Around} {g : Array GenState} {dr : Drawn} {tk : Nat} {os : OsState} {E : Value → Shared → Prop} {Q : Flow → Shared → Prop}

/-- the value of a name that is a list to be changed -/
theorem FS.raw {x : Str} {v : Value} (F : FS C org σ M μ h) (hx : isLoc (C.nm.lookup x) = true) (l : σ.lookup x = some (.r v)) : Nm C.env h x v := by
  obtain ⟨u, n, o⟩ := F.en.loc x _ hx l
  have : u = v := o
  subst this; exact n

theorem FS.plain {a : Addr} {ds} (F : FS C org σ M μ h) (m : (a, ds) ∈ μ) : ∃ vs n, h.get? a = some { cls := .type "list", data := .seq vs n } ∧ RdAll M h vs.toList ds := by
  obtain ⟨_, ⟨vs, ⟨n, e⟩, r⟩, _⟩ := F.mu _ m
  exact ⟨vs, n, e, r⟩

/-- a method's call as a statement -/
theorem s_call {x name : Str} {np ap pos spos : Pos} {args : List Expr} {v : Value} (F : FS C org σ M μ h) (hx : isLoc (C.nm.lookup x) = true) (l : σ.lookup x = some (.r v))
    (hd : ((x == ("__debug__" : Str)) || (x == ("__classdict__" : Str))) = false)
    (hfew : ((backTo pos (starEach args C.env)).all (fun x => !x.1) && (backToKw pos (keywordEach [] C.env)).all (fun x => x.1.isSome)
      && decide (args.length + ([] : List Keyword).length + (if ([] : List Keyword).isEmpty then 0 else 1) < 30)) = true) (hline : (ap.endLine == pos.line) = true)
    (hi : interactive C.env = false) (hs : swapsWith (.Call (.Attribute (.Name x np) name ap) args [] pos) none spos.line C.env = pure false)
    (q : MethodOnS prog w A E name v pos (backTo pos (starEach args C.env)) (fun v s' => match v with | .ref _ => False | _ => Q .next s') ⟨h, g, dr, tk, os⟩) :
    wpAny (model prog w) A (exec (.Expr (.Call (.Attribute (.Name x np) name ap) args [] pos) spos) C.env) Q E ⟨h, g, dr, tk, os⟩ := by
  obtain ⟨h1, h2⟩ := Bool.or_eq_false_iff.mp hd
  exact wpAny_Expr (wpAny_Call_method_lateS rfl hfew hline ((F.raw hx l).load (s := ⟨h, g, dr, tk, os⟩) F.en.fn h1 h2 q)) hi hs

/-- x.append(e) -/
theorem s_append {x : Str} {np ap pos spos : Pos} {e : Expr} {a : Addr} {ds : List PyData} {d : PyData} (F : FS C org σ M ((a, ds) :: μ) h) (m : Rm k A) (ev : EV prog w k M C.env h e d) (hx : isLoc (C.nm.lookup x) = true) (l : σ.lookup x = some (.r (.ref a)))
    (hd : ((x == ("__debug__" : Str)) || (x == ("__classdict__" : Str))) = false) (hst : ∀ rest, starEach (e :: rest) C.env = (false, eval e C.env) :: starEach rest C.env) (hline : (ap.endLine == pos.line) = true)
    (hi : interactive C.env = false) (hs : swapsWith (.Call (.Attribute (.Name x np) "append" ap) [e] [] pos) none spos.line C.env = pure false) (hn : ds.length ≤ 100000)
    (q : ∀ h' tk', FS C org σ M ((a, ds ++ [d]) :: μ) h' → Q .next ⟨h', g, dr, tk', os⟩) :
    wpAny (model prog w) A (exec (.Expr (.Call (.Attribute (.Name x np) "append" ap) [e] [] pos) spos) C.env) Q E ⟨h, g, dr, tk, os⟩ := by
  obtain ⟨vs, n, ge, ra⟩ := F.plain (.head _)
  refine s_call F hx l hd (by rw [hst]; rfl) hline hi hs ⟨"list", "list.append", PySem.F.plainAttrs_list, slot_list_append, type_list_append, ⟨_, ge, rfl⟩, fun b hb => ?_, ?_⟩
  · cases hb; exact ⟨_, ge, rfl⟩
  · rw [hst]
    show wpAny (model prog w) A (callWith pos (.builtin "list.append") [.ref a] [(false, eval e C.env)] []) _ _ _
    refine PySem.P.append_list (ev.run (s := ⟨h, g, dr, tk, os⟩) m (.refl _) fun v h₁ t₁ s₁ r₁ => ?_)
    obtain ⟨vs', n', ge', ra'⟩ := (F.stay s₁).plain (.head _)
    have := ra'.length
    simp at this
    refine ⟨vs', n', small_line (by omega), ge', q _ _ ((F.stay s₁).mutate fun us j gu ru => ?_)⟩
    rw [Array.toList_push]
    exact ru.append (.cons r₁ .nil)

/-- x.extend(e) -/
theorem s_extend {x : Str} {np ap pos spos : Pos} {e : Expr} {a : Addr} {ds xs : List PyData} (F : FS C org σ M ((a, ds) :: μ) h) (m : Rm k A) (ev : EV prog w k M C.env h e (.list xs)) (hx : isLoc (C.nm.lookup x) = true) (l : σ.lookup x = some (.r (.ref a)))
    (hd : ((x == ("__debug__" : Str)) || (x == ("__classdict__" : Str))) = false) (hst : ∀ rest, starEach (e :: rest) C.env = (false, eval e C.env) :: starEach rest C.env) (hline : (ap.endLine == pos.line) = true)
    (hi : interactive C.env = false) (hs : swapsWith (.Call (.Attribute (.Name x np) "extend" ap) [e] [] pos) none spos.line C.env = pure false) (hn : ds.length + xs.length ≤ 1000)
    (q : ∀ h' tk', FS C org σ M ((a, ds ++ xs) :: μ) h' → Q .next ⟨h', g, dr, tk', os⟩) :
    wpAny (model prog w) A (exec (.Expr (.Call (.Attribute (.Name x np) "extend" ap) [e] [] pos) spos) C.env) Q E ⟨h, g, dr, tk, os⟩ := by
  obtain ⟨vs, n, ge, ra⟩ := F.plain (.head _)
  refine s_call F hx l hd (by rw [hst]; rfl) hline hi hs ⟨"list", "list.extend", PySem.F.plainAttrs_list, PySem.F.slot_list_extend, PySem.F.type_list_extend, ⟨_, ge, rfl⟩, fun b hb => ?_, ?_⟩
  · cases hb; exact ⟨_, ge, rfl⟩
  · rw [hst]
    show wpAny (model prog w) A (callWith pos (.builtin "list.extend") [.ref a] [(false, eval e C.env)] []) _ _ _
    refine PySem.P.extend_list (ev.run (s := ⟨h, g, dr, tk, os⟩) m (.refl _) fun v h₁ t₁ s₁ r₁ => ?_)
    obtain ⟨vs', n', ge', ra'⟩ := (F.stay s₁).plain (.head _)
    obtain ⟨b, us, n2, rfl, gb, _, rb⟩ := r₁.listRef
    have l1 := ra'.length
    have l2 := rb.length
    simp at l1 l2
    refine ⟨b, vs', us, n', n2, small_line (by omega), Nat.le_succ_of_le (small_line (by omega)), ?_, rfl, ge', gb, q _ _ ((F.stay s₁).mutate fun vs'' j gu ru => ?_)⟩
    · intro z
      have : Builtin.List.listTooLong (vs'.size + us.size) = false := by
        unfold Builtin.List.listTooLong
        have := small_line (n := vs'.size + us.size) (by omega)
        simp
        omega
      rw [this, Bool.and_false] at z
      cases z
    · rw [Array.toList_append]
      exact ru.append rb

theorem setItem_plain0 {s : Shared} {l : Addr} {items : Array Value} {n : Nat} {kk : Int} {t : Tok} {v : Value} {Q : Unit → Shared → Prop} (hl : s.heap.get? l = some { cls := .type "list", data := .seq items n }) (h0 : 0 ≤ kk) (hj : kk < items.size) (hfit : kk < 2 ^ 63)
    (hQ : Q () { s with heap := s.heap.update l (Obj.mapSeq (·.setIfInBounds kk.toNat v)) }) : wpAny (model prog w) A (setItem (.ref l) (.int kk t) v) Q E s := by
  have hT : s.TypeIs (.ref l) "list" := ⟨_, hl, rfl⟩
  unfold setItem
  try with_reducible refine wpAny_holding ?_
  first | refine wpAny_bind (wpAny_pure ?_) | skip
  refine wpAny_bind (wpAny_sequenceKey hT (by decide) ?_)
  refine wpAny_bind (wpAny_callSpecial?_slot (name := Str.ofString "__setitem__") hT slot_list_setitem (wpAny_call_entry slot_list_setitem hT entry_list_setitem ?_ (args_list_setitem _ _ _)))
  show wpAny _ _ (Builtin.List.listSubscript? (.int kk t) >>= _) _ _ s
  refine wpAny_bind (wpAny_listSubscript_int (fitsIndex_of h0 hfit) ?_)
  clear hfit
  obtain ⟨j, rfl⟩ := Int.eq_ofNat_of_zero_le h0
  have hj : j < items.size := by omega
  show wpAny _ _ ((seqItemAt l j >>= fun r => pure (r.map (j, ·))) >>= _) _ _ s
  refine wpAny_bind (wpAny_bind (wpAny_seqItemAt hl rfl (wpAny_pure ?_)))
  rw [Array.getElem?_eq_getElem hj]
  show wpAny _ _ (setSeqItemAt l j v >>= _) _ _ s
  refine wpAny_bind (wpAny_setSeqItemAt hl rfl ?_)
  first
    | exact wpAny_bind (wpAny_pure (wpAny_pure ⟨.none, rfl, wpAny_pure hQ⟩))
    | exact wpAny_pure ⟨.none, rfl, wpAny_pure hQ⟩
theorem setItem_plain {s : Shared} {l : Addr} {items : Array Value} {n : Nat} {j : Nat} {t : Tok} {v : Value} {Q : Unit → Shared → Prop} (hl : s.heap.get? l = some { cls := .type "list", data := .seq items n }) (hj : j < items.size) (hz : items.size ≤ 1000000)
    (hQ : Q () { s with heap := s.heap.update l (Obj.mapSeq (·.setIfInBounds j v)) }) : wpAny (model prog w) A (setItem (.ref l) (.int (j : Int) t) v) Q E s :=
  setItem_plain0 hl (by omega) (by omega) (Int.lt_trans (show (j : Int) < 1000001 by omega) (by decide)) hQ

/-- x[i] = e -/
theorem s_setitem {x : Str} {np sp pos : Pos} {i e : Expr} {a : Addr} {ds : List PyData} {d : PyData} {j : Nat} (F : FS C org σ M ((a, ds) :: μ) h) (m : Rm k A) (ev : EV prog w k M C.env h e d) (iv : EV prog w k M C.env h i (.int (j : Int))) (hx : isLoc (C.nm.lookup x) = true) (l : σ.lookup x = some (.r (.ref a)))
    (hd : ((x == ("__debug__" : Str)) || (x == ("__classdict__" : Str))) = false) (hs : swapsWith e (some (.Subscript (.Name x np) i sp)) pos.line C.env = pure false) (hj : j < ds.length) (hn : ds.length ≤ 1000)
    (q : ∀ h' tk', FS C org σ M ((a, ds.set j d) :: μ) h' → Q .next ⟨h', g, dr, tk', os⟩) :
    wpAny (model prog w) A (exec (.Assign [.Subscript (.Name x np) i sp] e pos) C.env) Q E ⟨h, g, dr, tk, os⟩ := by
  obtain ⟨h1, h2⟩ := Bool.or_eq_false_iff.mp hd
  refine wpAny_Assign_Subscript (ev.run (s := ⟨h, g, dr, tk, os⟩) m (.refl _) fun v h₁ t₁ s₁ r₁ => ?_) hs
  have F₁ := F.stay s₁
  refine (F₁.raw hx l).load (s := ⟨h₁, g, dr, t₁, os⟩) F.en.fn h1 h2 ((iv.stay s₁).run (s := ⟨h₁, g, dr, t₁, os⟩) m (.refl _) fun u h₂ t₂ s₂ r₂ => ?_)
  obtain ⟨t, rfl⟩ := r₂.intVal
  obtain ⟨vs', n', ge', ra'⟩ := (F₁.stay s₂).plain (.head _)
  have l1 := ra'.length
  simp at l1
  refine setItem_plain (s := ⟨h₂, g, dr, t₂, os⟩) ge' (by omega) (by omega) (q _ _ ((F₁.stay s₂).mutate fun us kk gu ru => ?_))
  rw [Array.toList_setIfInBounds]
  exact ru.set j (r₁.stay s₂)

/-- x[i] += e, of ints -/
theorem s_augadd {x : Str} {np sp pos : Pos} {i e : Expr} {a : Addr} {ds : List PyData} {b c : Int} {j : Nat} (F : FS C org σ M ((a, ds) :: μ) h) (m : Rm k A) (ev : EV prog w k M C.env h e (.int c)) (iv : EV prog w k M C.env h i (.int (j : Int))) (hx : isLoc (C.nm.lookup x) = true) (l : σ.lookup x = some (.r (.ref a)))
    (hd : ((x == ("__debug__" : Str)) || (x == ("__classdict__" : Str))) = false) (hi : ∀ ov iv new, augStore i ov iv new = (do holding [new, ov, iv] (setItem ov iv new); release [new, ov, iv] []; pure .next)) (hj : ds[j]? = some (.int b)) (hn : ds.length ≤ 1000)
    (q : ∀ h' tk', FS C org σ M ((a, ds.set j (.int (b + c))) :: μ) h' → Q .next ⟨h', g, dr, tk', os⟩) :
    wpAny (model prog w) A (exec (.AugAssign (.Subscript (.Name x np) i sp) .Add e pos) C.env) Q E ⟨h, g, dr, tk, os⟩ := by
  obtain ⟨h1, h2⟩ := Bool.or_eq_false_iff.mp hd
  refine wpAny_AugAssign_SubscriptAny ?_ hi
  refine (F.raw hx l).load (s := ⟨h, g, dr, tk, os⟩) F.en.fn h1 h2 (iv.run (s := ⟨h, g, dr, tk, os⟩) m (.refl _) fun u h₂ t₂ s₂ r₂ => ?_)
  obtain ⟨t, rfl⟩ := r₂.intVal
  have F₂ := F.stay s₂
  obtain ⟨vs', n', ge', ra'⟩ := F₂.plain (.head _)
  have l1 := ra'.length
  simp at l1
  have hlt : j < ds.length := by
    rcases Nat.lt_or_ge j ds.length with z | z
    · exact z
    · rw [List.getElem?_eq_none z] at hj; cases hj
  obtain ⟨v, hv, rv⟩ := ra'.at hj
  obtain ⟨tb, rfl⟩ := rv.intVal
  refine wpAny_getItem_list (s := ⟨h₂, g, dr, t₂, os⟩) (items := vs') ⟨_, ge', rfl, _, rfl⟩ (by omega) (by omega) (x := .int b tb) (by simpa using hv) ?_
  refine (ev.stay s₂).run (s := ⟨h₂, g, dr, t₂, os⟩) m (.refl _) fun v h₃ t₃ s₃ r₃ => ?_
  obtain ⟨tc, rfl⟩ := r₃.intVal
  refine wpAny_iadd_int ?_
  obtain ⟨vs2, n2, ge2, ra2⟩ := (F₂.stay s₃).plain (.head _)
  have l2 := ra2.length
  simp at l2
  refine setItem_plain (s := ⟨h₃, g, dr, t₃ + 1, os⟩) ge2 (by omega) (by omega) (q _ _ ((F₂.stay s₃).mutate fun us kk gu ru => ?_))
  rw [Array.toList_setIfInBounds]
  exact ru.set j (.int ..)

/-- x op= e, of ints -/
theorem s_aug {x : Str} {np pos : Pos} {e : Expr} {op : Operator} {a b c : Int} (F : FS C org σ M μ h) (m : Rm k A) (ev : EV prog w k M C.env h e (.int b)) (hx : (C.nm.lookup x == some .local) = true) (l : σ.lookup x = some (.d (.int a)))
    (r : ∀ {A : Around} {s : Shared} {Q : Value → Shared → Prop} {E : Value → Shared → Prop} {t u : Tok}, Q (.int c s.toks) { s with toks := s.toks + 1 } → wpAny (model prog w) A (inplaceOp op (.int a t) (.int b u)) Q E s)
    (q : ∀ h' tk', FS C org ((x, .d (.int c)) :: σ) M μ h' → Q .next ⟨h', g, dr, tk', os⟩) :
    wpAny (model prog w) A (exec (.AugAssign (.Name x np) op e pos) C.env) Q E ⟨h, g, dr, tk, os⟩ := by
  have hx' : C.nm.lookup x = some .local := by simpa using hx
  obtain ⟨v, n, o⟩ := F.en.loc x _ (by rw [hx']; rfl) l
  obtain ⟨t, rfl⟩ := Rd.intVal o
  refine wpAny_AugAssign_Name ?_
  have ld : ∀ {Q : Value → Shared → Prop}, Q (.int a t) ⟨h, g, dr, tk, os⟩ → wpAny (model prog w) A (loadName C.env x) Q E ⟨h, g, dr, tk, os⟩ := fun {Q} q => by
    cases n with
    | loc mm a b c => exact wpAny_loadName_local F.en.fn a b c q
    | cell c a b d => exact wpAny_loadName_cell F.en.fn a b d q
    | free c a b d => rw [F.en.kl x hx'] at a; cases a
  refine ld (ev.run (s := ⟨h, g, dr, tk, os⟩) m (.refl _) fun v h₁ t₁ s₁ r₁ => ?_)
  obtain ⟨u, rfl⟩ := r₁.intVal
  refine r ?_
  exact (F.stay s₁).en.store (s := ⟨h₁, g, dr, t₁ + 1, os⟩) (b := .d (.int c)) (.inl hx') (.int ..) fun h₂ t₂ H₂ e₂ m₂ => q h₂ t₂ ((F.stay s₁).chg H₂ ⟨e₂, m₂⟩)

/-- for -/
theorem s_for {target iter : Expr} {body orelse : List Stmt} {pos : Pos} {ds : List PyData} (F : FS C org σ M μ h) (m : Rm k A) (sr : SR prog w k M C.env h iter target ds)
    (I : Nat → List (Str × Bd) → List (Addr × List PyData) → Prop) (h0 : I 0 σ μ)
    (turn : ∀ i d σ₁ μ₁, ds[i]? = some d → I i σ₁ μ₁ → ∃ bs, Tg C.nm target d bs ∧ ∀ h₁ h₂ tk₂ E', (∀ σ' μ' h', FS C h₁ σ' M μ' h' → FS C org σ' M μ' h') → FS C h₁ (bs ++ σ₁) M μ₁ h₂ →
      wpAny (model prog w) A (execs body C.env) (fun f s' => match f with
        | .ret v => Q (.ret v) s'
        | .brk => Q .next s'
        | _ => ∃ σ' μ' h' tk', s' = ⟨h', g, dr, tk', os⟩ ∧ FS C h₁ σ' M μ' h' ∧ I (i + 1) σ' μ') E' ⟨h₂, g, dr, tk₂, os⟩)
    (fin : ∀ σ' μ' h' tk' E', I ds.length σ' μ' → FS C org σ' M μ' h' → wpAny (model prog w) A (execs orelse C.env) Q E' ⟨h', g, dr, tk', os⟩)
    (hs : ∀ x, foldedSetIterable iter C.env x = pure x) : wpAny (model prog w) A (exec (.For target iter body orelse pos) C.env) Q E ⟨h, g, dr, tk, os⟩ := by
  refine wpAny_For (sr.run (s := ⟨h, g, dr, tk, os⟩) m (.refl _) fun h₁ t₁ It wr TT s₁ hwr => ?_) hs
  obtain ⟨J, Jm, T, j0⟩ := TT M fun a ma => .inl ma
  refine codeAny_forLoop_any (fun n s' => ∃ i σ' μ' h' tk', s' = ⟨h', g, dr, tk', os⟩ ∧ n = ds.length + 1 - i ∧ i ≤ ds.length ∧ I i σ' μ' ∧ FS C org σ' M μ' h' ∧ J i h' ∧ (∀ a ∈ wr, C.base.get? a = none ∧ C.top.get? a = none ∧ org.get? a = none)) ?_ (ds.length + 1)
    ⟨0, σ, μ, h₁, t₁, rfl, rfl, Nat.zero_le _, h0, F.stay s₁, j0, fun a ma => ?_⟩
  · rintro n s' ⟨i, σ', μ', h', tk', rfl, rfl, hi, hI, F', ji, hw⟩
    have fd := T.its ji
    have move : ∀ {σ' μ' h h'}, (∀ a ∈ wr, FD h a) → FS C org σ' M μ' h → Eff wr h h' → FS C org σ' M μ' h' := fun {σ' μ' h h'} fd F e => by
      obtain ⟨H, sq⟩ := F.en.eff F.sm fd e
      exact {
        en := H
        sm := sq
        tp := fun a o g => e a o (fun z => by rw [(hw a z).2.1] at g; cases g) (F.tp a o g)
        ef := fun a o nv g => e a o (fun z => by rw [(hw a z).1] at g; cases g) (F.ef a o nv g)
        wb := F.wb
        vx := fun a m => let ⟨o, vs, n, g, d⟩ := F.vx a m; ⟨o, vs, n, eff_seqs fd e a o vs n g d, d⟩
        og := fun a o g n1 n2 n3 => e a o (fun z => by rw [(hw a z).2.2] at g; cases g) (F.og a o g n1 n2 n3)
        ox := fun a o g => let ⟨o', g'⟩ := F.ox a o g; ⟨o', e a o' (fun z => by rw [(hw a z).2.2] at g; cases g) g'⟩
        mu := fun p m => let ⟨a, b, d⟩ := F.mu p m; ⟨a, b.move (eff_seqs fd e), d⟩
        nd := F.nd }
    by_cases hlt : i < ds.length
    · have hd : ds[i]? = some ds[i] := List.getElem?_eq_getElem hlt
      refine T.item m.handled hd ji fun v h₂ t₂ jm e₂ => ?_
      have fd₂ := T.itm jm
      refine T.go hd jm fun h₃ t₃ j₃ td e₃ => ?_
      have F₃ := move fd₂ (move fd F' e₂) e₃
      obtain ⟨bs, tg, bd⟩ := turn i ds[i] σ' μ' hd hI
      refine assign_tg (s := ⟨h₃, g, dr, t₃, os⟩) m.handled F₃.en tg td fun h₄ t₄ H₄ c₄ => ?_
      have F₄ : FS C h₃ (bs ++ σ') M μ' h₄ := F₃.reorg.chg H₄ c₄
      refine wpAny_mono (bd h₃ h₄ t₄ _ (fun σ'' μ'' h'' Fx => Fx.unorg F₃.og F₃.ox) F₄) (fun f s' hf => ?_) fun _ _ e => e
      have next : (∃ σ'' μ'' h'' tk'', s' = ⟨h'', g, dr, tk'', os⟩ ∧ FS C h₃ σ'' M μ'' h'' ∧ I (i + 1) σ'' μ'') → ∃ m, m < ds.length + 1 - i ∧ ∃ i σ' μ' h' tk', s' = (⟨h', g, dr, tk', os⟩ : Shared) ∧ m = ds.length + 1 - i ∧ i ≤ ds.length ∧ I i σ' μ' ∧ FS C org σ' M μ' h' ∧ J i h' ∧ (∀ a ∈ wr, C.base.get? a = none ∧ C.top.get? a = none ∧ org.get? a = none) := by
        rintro ⟨σ'', μ'', h'', tk'', rfl, Fx, Ix⟩
        exact ⟨ds.length + 1 - (i + 1), by omega, i + 1, σ'', μ'', h'', tk'', rfl, rfl, hlt, Ix, Fx.unorg F₃.og F₃.ox, T.stab j₃ Fx.og, hw⟩
      cases f with
      | next => exact next hf
      | cont => exact next hf
      | brk => exact hf
      | ret v => exact hf
    · have hn : ds[i]? = none := List.getElem?_eq_none (by omega)
      refine T.done m.handled hn ji fun h₂ t₂ e₂ => ?_
      have he : i = ds.length := by omega
      subst he
      exact fin σ' μ' h₂ t₂ _ hI (move fd F' e₂)
  · have nn : h.get? a = none := hwr a ma
    refine ⟨?_, ?_, ?_⟩
    · cases e : C.base.get? a with
      | none => rfl
      | some o =>
        by_cases z : a ∈ C.V
        · obtain ⟨o, _, _, e, _⟩ := F.vx a z; rw [nn] at e; cases e
        · have := F.ef a o z e; rw [nn] at this; cases this
    · cases e : C.top.get? a with
      | none => rfl
      | some o => have := F.tp a o e; rw [nn] at this; cases this
    · cases e : org.get? a with
      | none => rfl
      | some o => obtain ⟨o', e'⟩ := F.ox a o e; rw [nn] at e'; cases e'

/-- while -/
theorem s_while {test : Expr} {body orelse : List Stmt} {pos : Pos} (F : FS C org σ M μ h) (m : Rm k A)
    (I : Nat → List (Str × Bd) → List (Addr × List PyData) → Prop) (n : Nat) (h0 : I n σ μ)
    (turn : ∀ n σ₁ μ₁ h₁, I n σ₁ μ₁ → FS C org σ₁ M μ₁ h₁ → ∃ b, TV prog w k C.env h₁ test b ∧
      (b = true → ∀ h₂ tk₂ E', FS C org σ₁ M μ₁ h₂ → wpAny (model prog w) A (execs body C.env) (fun f s' => match f with
        | .ret v => Q (.ret v) s'
        | .brk => Q .next s'
        | _ => ∃ n' σ' μ' h' tk', n' < n ∧ s' = ⟨h', g, dr, tk', os⟩ ∧ FS C org σ' M μ' h' ∧ I n' σ' μ') E' ⟨h₂, g, dr, tk₂, os⟩) ∧
      (b = false → ∀ h₂ tk₂ E', FS C org σ₁ M μ₁ h₂ → wpAny (model prog w) A (execs orelse C.env) Q E' ⟨h₂, g, dr, tk₂, os⟩)) :
    wpAny (model prog w) A (exec (.While test body orelse pos) C.env) Q E ⟨h, g, dr, tk, os⟩ := by
  refine wpAny_While (codeAny_whileLoop (fun n s' => ∃ σ' μ' h' tk', s' = ⟨h', g, dr, tk', os⟩ ∧ I n σ' μ' ∧ FS C org σ' M μ' h') ?_ n ⟨σ, μ, h, tk, rfl, h0, F⟩)
  rintro n s' ⟨σ', μ', h', tk', rfl, hI, F'⟩
  obtain ⟨b, tv, t1, t2⟩ := turn n σ' μ' h' hI F'
  refine tv.run (s := ⟨h', g, dr, tk', os⟩) m (.refl _) fun h₂ t₂ s₂ => ?_
  cases b with
  | true =>
    refine wpAny_mono (t1 rfl h₂ t₂ _ (F'.stay s₂)) (fun f s' hf => ?_) fun _ _ e => e
    have next : (∃ n' σ'' μ'' h'' tk'', n' < n ∧ s' = ⟨h'', g, dr, tk'', os⟩ ∧ FS C org σ'' M μ'' h'' ∧ I n' σ'' μ'') → ∃ m, m < n ∧ ∃ σ' μ' h' tk', s' = (⟨h', g, dr, tk', os⟩ : Shared) ∧ I m σ' μ' ∧ FS C org σ' M μ' h' := by
      rintro ⟨n', σ'', μ'', h'', tk'', hn, rfl, Fx, Ix⟩
      exact ⟨n', hn, σ'', μ'', h'', tk'', rfl, Ix, Fx⟩
    cases f with
    | next => exact next hf
    | cont => exact next hf
    | brk => exact hf
    | ret v => exact hf
  | false => exact t2 rfl h₂ t₂ _ (F'.stay s₂)
end
end Mine
namespace Mine
open PySem PySem.Calls PyProof.Rows
variable {prog : Program} {w : World} {k : Nat}
variable {C : Cx} {org : Heap} {σ : List (Str × Bd)} {M : List Addr} {μ : List (Addr × List PyData)} {h : Heap}

/-- a def that stands at the top -/
structure Fn (top : Heap) (mg : Str → Option Value) (name : Str) (params : Arguments) (body : List Stmt) (scope : Scope) (fa : Addr) : Prop where
  glob : mg name = some (.ref fa)
  ob : ∃ o pm cd doc, top.get? fa = some o ∧ o.data = .func (docDef name params body scope pm cd doc) ∧ top.CodeRec cd name

/-- the top's facts -/
structure GT (top : Heap) (mg mb : Str → Option Value) : Prop where
  g : top.Ns mainGlobals mg
  b : top.Ns builtinsNs mb
  lim : top.NoLimit
  bb : ∀ x : Str, x ≠ "__name__" → mb x = bootBuiltins x

def mainNames (σ : List (Str × Bd)) : List Str := σ.map (·.1)

/-- the parameters' names, read as data -/
inductive Par (M : List Addr) (h : Heap) : List (Str × Value) → List (Str × Bd) → Prop
  | nil : Par M h [] []
  | cons {x v b bs σ} : b.ok M h v → Par M h bs σ → Par M h ((x, v) :: bs) ((x, b) :: σ)
theorem Par.look {M h bs σ} (p : Par M h bs σ) : ∀ {x b}, σ.lookup x = some b → ∃ v, bs.lookup x = some v ∧ b.ok M h v := by
  induction p with
  | nil => intro x b e; cases e
  | @cons y v c bs σ o _ ih =>
    intro x b e
    rw [List.lookup_cons] at e ⊢
    cases z : x == y with
    | true => rw [z] at e; cases e; exact ⟨v, rfl, o⟩
    | false => rw [z] at e; exact ih e

theorem bindL_look {kof : Str → Option NameKind} : ∀ {bs : List (Str × Value)} {m : Str → Option Value} {x v}, (bs.map (·.1)).Nodup → kof x = some .local → bs.lookup x = some v → bindL kof bs m x = some v
  | (n, u) :: r, m, x, v, nd, hk, l => by
    rw [List.map_cons, List.nodup_cons] at nd
    rw [List.lookup_cons] at l
    unfold bindL
    cases z : x == n with
    | true =>
      rw [z] at l
      have := eq_of_beq z; subst this
      cases l
      have key : ∀ {bs : List (Str × Value)} {m : Str → Option Value}, x ∉ bs.map (·.1) → bindL kof bs m x = m x := by
        intro bs
        induction bs with
        | nil => intro m _; rfl
        | cons p r ih =>
          intro m hn
          obtain ⟨n', u'⟩ := p
          rw [List.map_cons, List.mem_cons, not_or] at hn
          unfold bindL
          rw [ih hn.2]
          split
          · show (if x = n' then _ else _) = _; rw [if_neg hn.1]
          · rfl
      rw [key nd.1, if_pos hk]
      simp
    | false => rw [z] at l; exact bindL_look nd.2 hk l
theorem bindC_look {kof : Str → Option NameKind} : ∀ {bs : List (Str × Value)} {m : Str → Option Value} {x v}, (bs.map (·.1)).Nodup → kof x ≠ some .local → bs.lookup x = some v → bindC kof bs m x = some v
  | (n, u) :: r, m, x, v, nd, hk, l => by
    rw [List.map_cons, List.nodup_cons] at nd
    rw [List.lookup_cons] at l
    unfold bindC
    cases z : x == n with
    | true =>
      rw [z] at l
      have := eq_of_beq z; subst this
      cases l
      have key : ∀ {bs : List (Str × Value)} {m : Str → Option Value}, x ∉ bs.map (·.1) → bindC kof bs m x = m x := by
        intro bs
        induction bs with
        | nil => intro m _; rfl
        | cons p r ih =>
          intro m hn
          obtain ⟨n', u'⟩ := p
          rw [List.map_cons, List.mem_cons, not_or] at hn
          unfold bindC
          rw [ih hn.2]
          split
          · rfl
          · show (if x = n' then _ else _) = _; rw [if_neg hn.1]
      rw [key nd.1, if_neg hk]
      simp
    | false => rw [z] at l; exact bindC_look nd.2 hk l

theorem cells_find {cm : Str → Option Value} {h : Heap} : ∀ {cs : List (Str × Addr)} {cells : List (Addr × Obj)}, CellsAre cm cs cells → (∀ p ∈ cells, h.get? p.1 = some p.2) → ∀ {x c}, (x, c) ∈ cs → h.IsCell c (cm x)
  | _, _, .nil, _, _, _, m => nomatch m
  | _, _, .cons d r, hg, x, c, m => by
    rcases List.mem_cons.mp m with m | m
    · cases m; exact ⟨_, hg _ (.head _), d⟩
    · exact cells_find r (fun p mp => hg p (.tail _ mp)) m
theorem cells_old {cm : Str → Option Value} {h : Heap} : ∀ {cs : List (Str × Addr)} {cells : List (Addr × Obj)}, CellsAre cm cs cells → (∀ p ∈ cells, h.get? p.1 = none) → ∀ {x c}, (x, c) ∈ cs → h.get? c = none
  | _, _, .nil, _, _, _, m => nomatch m
  | _, _, .cons d r, hg, x, c, m => by
    rcases List.mem_cons.mp m with m | m
    · cases m; exact hg _ (.head _)
    · exact cells_old r (fun p mp => hg p (.tail _ mp)) m

/-- the state at a def's first statement -/
theorem def_FS {name : Str} {scope : Scope} {fa : Addr} {cd : Value} {top : Heap} {mg mb : Str → Option Value} {s : Shared} {h₁ : Heap} {cells : List (Addr × Obj)} {binds : List (Str × Value)} {V : List Addr}
    (T : GT top mg mb) (tp : Stay top s.heap) (mok : MOk M s.heap) (sm : Seqs M s.heap) (par : Par M s.heap binds σ) (hnb : (binds.map (·.1)).Nodup) (hkind : scope.kind = .function) (hnf : ∀ x : Str, scope.names.lookup x ≠ some .free)
    (hmu : ∀ p ∈ μ, p.1 ∈ M ∧ Acc M p.1 p.2 s.heap ∧ p.1 ∈ V ∧ top.get? p.1 = none) (hnd : (μ.map (·.1)).Nodup) (hV : ∀ a ∈ V, a ∈ M)
    (F : Fr s.heap s.heap.objs.size h₁ (bindL (envOfC name scope s.heap.objs.size fa cd).kindOf binds fun _ => none)) (N : News s.heap s.heap.objs.size h₁ cells)
    (X : CellsAre (bindC (envOfC name scope s.heap.objs.size fa cd).kindOf binds fun _ => none) (cellsFrom (s.heap.objs.size + 1) scope.names []) cells) :
    FS { top, base := s.heap, V, mg, mb, env := envOfC name scope s.heap.objs.size fa cd, nm := scope.names, W := s.heap.objs.size :: (cellsFrom (s.heap.objs.size + 1) scope.names []).map (·.2) } s.heap σ M μ h₁ := by
  have st : Stay s.heap h₁ := F.keep
  have kof : ∀ x, (envOfC name scope s.heap.objs.size fa cd).kindOf x = scope.names.lookup x := fun _ => rfl
  have nw : ∀ a ∈ s.heap.objs.size :: (cellsFrom (s.heap.objs.size + 1) scope.names []).map (·.2), s.heap.get? a = none := fun a m => by
    rcases List.mem_cons.mp m with rfl | m
    · exact fresh_none (Nat.le_refl _)
    · obtain ⟨⟨x, c⟩, mx, rfl⟩ := List.mem_map.mp m
      exact cells_old X (fun p mp => (N p mp).2.2) mx
  have notW : ∀ a o, s.heap.get? a = some o → a ∉ s.heap.objs.size :: (cellsFrom (s.heap.objs.size + 1) scope.names []).map (·.2) := fun a o e m => by rw [nw a m] at e; cases e
  have hg := T.g.keeps (fun b o e => tp b o e)
  have hb := T.b.keeps (fun b o e => tp b o e)
  have hl := T.lim.keeps (fun b o e => tp b o e)
  have pw : (cellsFrom (s.heap.objs.size + 1) scope.names []).Pairwise fun x y => x.2 ≠ y.2 := cells_apart _ _ _ List.Pairwise.nil fun _ _ m => nomatch m
  exact {
    en := {
      fn := hkind
      gl := rfl
      bl := rfl
      loc := fun x b i l => by
        obtain ⟨v, lv, o⟩ := par.look l
        refine ⟨v, ?_, o.stay st⟩
        cases e : scope.names.lookup x with
        | none => rw [e] at i; cases i
        | some kd =>
          cases kd with
          | «local» => exact .loc _ (by rw [kof]; exact e) F.ns (bindL_look hnb (by rw [kof]; exact e) lv)
          | cell =>
            have hm : (x, NameKind.cell) ∈ scope.names := mem_of_lookup e
            have : ∃ c, (cellsFrom (s.heap.objs.size + 1) scope.names []).lookup x = some c := by
              have key : ∀ (names : List (Str × NameKind)) (n : Nat) (acc : List (Str × Addr)), ((x, NameKind.cell) ∈ names ∨ ∃ c, acc.lookup x = some c) → ∃ c, (cellsFrom n names acc).lookup x = some c := by
                intro names
                induction names with
                | nil => intro n acc z; rcases z with z | z; cases z; exact z
                | cons p r ih =>
                  intro n acc z
                  obtain ⟨y, kd⟩ := p
                  unfold cellsFrom
                  split
                  · rename_i ek
                    refine ih _ _ ?_
                    by_cases hy : x = y
                    · right; rw [hy, List.lookup_cons]; simp
                    · rcases z with z | ⟨c, z⟩
                      · rcases List.mem_cons.mp z with z | z
                        · cases z; exact absurd rfl hy
                        · exact .inl z
                      · right
                        rw [List.lookup_cons]
                        have : (x == y) = false := by simpa using hy
                        rw [this]; exact ⟨c, z⟩
                  · rename_i ek
                    refine ih _ _ ?_
                    rcases z with z | z
                    · rcases List.mem_cons.mp z with z | z
                      · cases z; exact absurd rfl ek
                      · exact .inl z
                    · exact .inr z
              exact key _ _ _ (.inl hm)
            obtain ⟨c, hc⟩ := this
            have := cells_find X (fun p mp => (N p mp).1) (mem_of_lookup hc)
            rw [bindC_look hnb (by rw [kof, e]; intro z; cases z) lv] at this
            exact .cell c (by rw [kof]; exact e) hc this
          | free => exact absurd e (hnf x)
          | _ => rw [e] at i; cases i
      glb := fun x i => i
      kl := fun x i => i
      kc := fun x i => by
        have hm : (x, NameKind.cell) ∈ scope.names := mem_of_lookup i
        refine ⟨i, ?_⟩
        have key : ∀ (names : List (Str × NameKind)) (n : Nat) (acc : List (Str × Addr)), ((x, NameKind.cell) ∈ names ∨ ∃ c, acc.lookup x = some c) → ∃ c, (cellsFrom n names acc).lookup x = some c := by
          intro names
          induction names with
          | nil => intro n acc z; rcases z with z | z; cases z; exact z
          | cons p r ih =>
            intro n acc z
            obtain ⟨y, kd⟩ := p
            unfold cellsFrom
            split
            · rename_i ek
              refine ih _ _ ?_
              by_cases hy : x = y
              · right; rw [hy, List.lookup_cons]; simp
              · rcases z with z | ⟨c, z⟩
                · rcases List.mem_cons.mp z with z | z
                  · cases z; exact absurd rfl hy
                  · exact .inl z
                · right
                  rw [List.lookup_cons]
                  have : (x == y) = false := by simpa using hy
                  rw [this]; exact ⟨c, z⟩
            · rename_i ek
              refine ih _ _ ?_
              rcases z with z | z
              · rcases List.mem_cons.mp z with z | z
                · cases z; exact absurd rfl ek
                · exact .inl z
              · exact .inr z
        obtain ⟨c, hc⟩ := key _ _ [] (.inl hm)
        exact ⟨c, _, hc, .tail _ (List.mem_map.mpr ⟨_, mem_of_lookup hc, rfl⟩), cells_find X (fun p mp => (N p mp).1) (mem_of_lookup hc)⟩
      kf := fun x i => absurd i (hnf x)
      inj := fun x y c hx hy => name_of_addr pw (mem_of_lookup hx) (mem_of_lookup hy)
      ns := ⟨_, F.ns⟩
      wl := .head _
      wo := fun a m => by
        rcases List.mem_cons.mp m with rfl | m
        · obtain ⟨o, es, n, e, d, _⟩ := F.ns; exact ⟨o, e, .inl ⟨es, n, d⟩⟩
        · obtain ⟨⟨x, c⟩, mx, rfl⟩ := List.mem_map.mp m
          obtain ⟨o, e, d⟩ := cells_find X (fun p mp => (N p mp).1) mx
          exact ⟨o, e, .inr ⟨_, d⟩⟩
      g := hg.keeps st
      b := hb.keeps st
      gw := by obtain ⟨o, _, _, e, _⟩ := hg; exact notW _ _ e
      bw := by obtain ⟨o, _, _, e, _⟩ := hb; exact notW _ _ e
      lw := by obtain ⟨_, ⟨o, _, _, e, _⟩, _⟩ := hl; exact notW _ _ e
      lim := hl.keeps st
      mok := mok.stay st }
    sm := sm.move st.seq
    tp := tp.trans st
    ef := .of st
    vx := fun a m => let ⟨o, vs, n, e, d⟩ := sm a (hV a m); ⟨o, vs, n, st a o e, d⟩
    wb := fun a m => ⟨nw a m, by
      cases e : top.get? a with
      | none => rfl
      | some o => have := tp a o e; rw [nw a m] at this; cases this⟩
    og := fun a o e _ _ _ => st a o e
    ox := fun a o e => ⟨o, st a o e⟩
    mu := fun p m => let ⟨a, b, c, d⟩ := hmu p m; ⟨a, b.move st.seq, .inl c, d⟩
    nd := hnd }

/-- what is asked of a def's block -/
def defOk (scope : Scope) (ns : List Str) : Bool :=
  decide (ns.Nodup) && scope.kind == .function && (scope.names.all fun x => x.2 != .free) && (ns.all fun y => scope.names.lookup y == some .local || scope.names.lookup y == some .cell) &&
  decide (((cellsFrom 0 scope.names []).map (·.1)).Nodup) && !scope.isCoroutine && !scope.isGenerator

/-- a def is called -/
theorem def_call {name : Str} {params : Arguments} {body : List Stmt} {scope : Scope} {fa : Addr} {top : Heap} {mg mb : Str → Option Value} {A : Around} {h₀ : Heap} {g : Array GenState} {dr : Drawn} {tk : Nat} {os : OsState} {E : Value → Shared → Prop} {Q : Value → Shared → Prop} {vs : List Value} {binds : List (Str × Value)} {V : List Addr} {ns : List Str}
    (f : Fn top mg name params body scope fa) (T : GT top mg mb) (tp : Stay top h₀) (m : Rm (k + 1) A) (mok : MOk M h₀) (sm : Seqs M h₀) (par : Par M h₀ binds σ)
    (hmu : ∀ p ∈ μ, p.1 ∈ M ∧ Acc M p.1 p.2 h₀ ∧ p.1 ∈ V ∧ top.get? p.1 = none) (hnd : (μ.map (·.1)).Nodup) (hV : ∀ a ∈ V, a ∈ M)
    (hbind : ∀ pm cd doc, PySem.bindArgs (docDef name params body scope pm cd doc) ⟨vs, []⟩ = pure binds) (hns : binds.map (·.1) = ns) (hok : defOk scope ns = true)
    (q : ∀ L cd W h₁ tk₁ A', Rm k A' → FS ⟨top, h₀, V, mg, mb, envOfC name scope L fa cd, scope.names, W⟩ h₀ σ M μ h₁ →
      wpAny (model prog w) A' (execs body (envOfC name scope L fa cd)) (fun f s' => Q (match f with | .ret v => v | _ => .none) s') (fun _ _ => False) ⟨h₁, g, dr, tk₁, os⟩) :
    wpAny (model prog w) A (call (.ref fa) vs) Q E ⟨h₀, g, dr, tk, os⟩ := by
  simp only [defOk, Bool.and_eq_true, decide_eq_true_eq, Bool.not_eq_true', beq_iff_eq] at hok
  obtain ⟨⟨⟨⟨⟨⟨hnb, hkind⟩, hnf⟩, hks⟩, hcn⟩, hco⟩, hgen⟩ := hok
  rw [← hns] at hnb hks
  obtain ⟨o, pm, cd, doc, ho, hd, hcd⟩ := f.ob
  have hnf' : ∀ x : Str, scope.names.lookup x ≠ some .free := fun x e => by
    have := List.all_eq_true.mp hnf _ (mem_of_lookup e)
    simp at this
  refine wpAny_call (call_cellsN_ret (s := ⟨h₀, g, dr, tk, os⟩) m.lim (tp _ _ ho) hd (T.lim.keeps tp) (hcd.keeps tp) (hbind pm cd doc) (fun x mx => ?_) hcn (fun h₁ tk₁ cells F N X => ?_) hco hgen hkind)
  · have := List.all_eq_true.mp hks x.1 (List.mem_map.mpr ⟨x, mx, rfl⟩)
    simp only [Bool.or_eq_true, beq_iff_eq] at this
    rcases this with e | e
    · exact .inl e
    · refine .inr ⟨e, ?_⟩
      have key : ∀ (names : List (Str × NameKind)) (n : Nat) (acc : List (Str × Addr)), ((x.1, NameKind.cell) ∈ names ∨ (acc.lookup x.1).isSome = true) → ((cellsFrom n names acc).lookup x.1).isSome = true := by
        intro names
        induction names with
        | nil => intro n acc z; rcases z with z | z; cases z; exact z
        | cons p r ih =>
          intro n acc z
          obtain ⟨y, kd⟩ := p
          unfold cellsFrom
          split
          · refine ih _ _ ?_
            by_cases hy : x.1 = y
            · right; rw [hy, List.lookup_cons]; simp
            · rcases z with z | z
              · rcases List.mem_cons.mp z with z | z
                · cases z; exact absurd rfl hy
                · exact .inl z
              · right
                rw [List.lookup_cons]
                have : (x.1 == y) = false := by simpa using hy
                rw [this]; exact z
          · rename_i ek
            refine ih _ _ ?_
            rcases z with z | z
            · rcases List.mem_cons.mp z with z | z
              · cases z; exact absurd rfl ek
              · exact .inl z
            · exact .inr z
      exact key _ _ _ (.inl (mem_of_lookup e))
  · have FF := def_FS (V := V) (s := ⟨h₀, g, dr, tk, os⟩) (name := name) (fa := fa) (cd := cd) T tp mok sm par hnb hkind hnf' hmu hnd hV F N X
    exact q _ _ _ h₁ tk₁ _ (m.deeper _) FF

/-- a def that gives data for data, and changes nothing -/
structure PF (prog : Program) (w : World) (k : Nat) (top : Heap) (fa : Addr) (spec : List PyData → PyData → Prop) : Prop where
  run : ∀ {A : Around} {h : Heap} {g : Array GenState} {dr : Drawn} {tk : Nat} {os : OsState} {Q : Value → Shared → Prop} {E : Value → Shared → Prop} {M : List Addr} {vs : List Value} {ds : List PyData} {d : PyData},
    Rm k A → Stay top h → MOk M h → Seqs M h → RdAll M h vs ds → spec ds d → (∀ v h' tk', Stay h h' → Rd M h' v d → Q v ⟨h', g, dr, tk', os⟩) → wpAny (model prog w) A (call (.ref fa) vs) Q E ⟨h, g, dr, tk, os⟩

/-- the values of a pure def's parameters -/
inductive Pars : List Str → List PyData → List (Str × Bd) → Prop
  | nil : Pars [] [] []
  | cons {x d ns ds σ} : Pars ns ds σ → Pars (x :: ns) (d :: ds) ((x, .d d) :: σ)
theorem pars_par {M h} : ∀ {ns ds σ vs}, Pars ns ds σ → RdAll M h vs ds → Par M h (ns.zip vs) σ ∧ (ns.zip vs).map (·.1) = ns
  | _, _, _, _, .nil, .nil => ⟨.nil, rfl⟩
  | _, _, _, _, .cons p, .cons a r => by
    obtain ⟨x, y⟩ := pars_par p r
    exact ⟨.cons (b := .d _) a x, by rw [List.zip_cons_cons, List.map_cons, y]⟩

theorem pars_len : ∀ {ns ds σ}, Pars ns ds σ → ds.length = ns.length
  | _, _, _, .nil => rfl
  | _, _, _, .cons p => by rw [List.length_cons, List.length_cons, pars_len p]
theorem vals1 {P : List Value → Prop} (q : ∀ a, P [a]) : ∀ vs : List Value, vs.length = 1 → P vs
  | [a], _ => q a
theorem vals2 {P : List Value → Prop} (q : ∀ a b, P [a, b]) : ∀ vs : List Value, vs.length = 2 → P vs
  | [a, b], _ => q a b
theorem vals3 {P : List Value → Prop} (q : ∀ a b c, P [a, b, c]) : ∀ vs : List Value, vs.length = 3 → P vs
  | [a, b, c], _ => q a b c
/-- a pure def, by its body -/
theorem PF.intro {name : Str} {params : Arguments} {body : List Stmt} {scope : Scope} {fa : Addr} {top : Heap} {mg mb : Str → Option Value} {spec : List PyData → PyData → Prop} (ns : List Str)
    (f : Fn top mg name params body scope fa) (T : GT top mg mb) (hok : defOk scope ns = true)
    (hbind : ∀ vs : List Value, vs.length = ns.length → ∀ pm cd doc, PySem.bindArgs (docDef name params body scope pm cd doc) ⟨vs, []⟩ = pure (ns.zip vs))
    (q : ∀ ds d, spec ds d → ∃ σ, Pars ns ds σ ∧ ∀ {M : List Addr} {h₀ h₁ : Heap} {L : Addr} {cd : Value} {W : List Addr} {A : Around} {g : Array GenState} {dr : Drawn} {tk : Nat} {os : OsState} {Q : Value → Shared → Prop}, Rm k A → Stay top h₀ →
      FS ⟨top, h₀, [], mg, mb, envOfC name scope L fa cd, scope.names, W⟩ h₀ σ M [] h₁ → MOk M h₀ →
      (∀ v M' σ' μ' h' tk', FS ⟨top, h₀, [], mg, mb, envOfC name scope L fa cd, scope.names, W⟩ h₀ σ' M' μ' h' → Rd M h' v d → Q v ⟨h', g, dr, tk', os⟩) →
      wpAny (model prog w) A (execs body (envOfC name scope L fa cd)) (fun f s' => Q (match f with | .ret v => v | _ => .none) s') (fun _ _ => False) ⟨h₁, g, dr, tk, os⟩) : PF prog w (k + 1) top fa spec := ⟨by
  intro A h g dr tk os Q E M vs ds d m tp mok sm rd sp q'
  obtain ⟨σ, ps, body'⟩ := q ds d sp
  obtain ⟨par, hn⟩ := pars_par ps rd
  have hl : vs.length = ns.length := by
    rw [rd.length]; exact pars_len ps
  refine def_call (μ := []) (V := []) f T tp m mok sm par (fun _ m => nomatch m) List.nodup_nil (fun _ m => nomatch m) (hbind vs hl) hn hok fun L cd W h₁ tk₁ A' m' F => ?_
  exact body' m' tp F mok fun v M' σ' μ' h' tk' F' r => q' v h' tk' (Eff.stay F'.ef) r⟩
end Mine
namespace Mine
open PySem PySem.Calls PyProof.Rows
variable {prog : Program} {w : World} {k : Nat} {M : List Addr} {env : Env} {h : Heap} {mg mb : Str → Option Value} {nm : List (Str × NameKind)} {W : List Addr} {σ : List (Str × Bd)}

/-! enumerate -/
section
variable {A : Around} {E : Value → Shared → Prop} {s : Shared}
theorem nextOf_tuple_item {it t : Addr} {i : Nat} {items} {x : Value} {Q : Value → Shared → Prop} (hit : s.heap.IsTupleIter it t i) (ht : s.heap.IsTuple t items) (hx : items[i]? = some x)
    (hQ : ∀ h', h'.IsTupleIter it t (i + 1) → Heap.SameBut it s.heap h' → Q x { s with heap := h' }) : wpAny (model prog w) A (Builtin.SmallTypes.nextOf (.ref it)) Q E s := by
  obtain ⟨o, ho, hc, hd⟩ := id hit
  obtain ⟨ol, hol, _, nl, hdl⟩ := ht
  unfold Builtin.SmallTypes.nextOf
  refine wpAny_bind (wpAny_callSpecial?_slot (name := Str.ofString "__next__") hit.typeIs PySem.F.slot_tuple_iterator_next
    (wpAny_call_entry PySem.F.slot_tuple_iterator_next hit.typeIs PySem.F.entry_tuple_iterator_next ?_ (PySem.F.args_tuple_iterator_next_1 _)))
  show wpAny _ _ (field (.ref it) 0 >>= _) _ _ s
  refine wpAny_bind (wpAny_field ho hd (x := .ref t) rfl ?_)
  show wpAny _ _ (if (Value.ref t == Value.none) = true then _ else _) _ _ s
  rw [if_neg (show ¬ ((Value.ref t == Value.none) = true) from Bool.false_ne_true)]
  show wpAny _ _ (field (.ref it) 1 >>= _) _ _ s
  refine wpAny_bind (wpAny_field ho hd (x := .int i 0) rfl ?_)
  show wpAny _ _ (seqItems? (.ref t) >>= _) _ _ s
  refine wpAny_bind (wpAny_seqItems hol hdl ?_)
  simp only [Int.toNat_natCast, hx]
  refine wpAny_bind (wpAny_setField ho hd (by simp) (wpAny_pure ⟨x, rfl, wpAny_pure (hQ _ ?_ (Heap.SameBut.update ..))⟩))
  exact ⟨_, Heap.get?_update_self _ ho (Obj.isFreed_of_fields (Obj.data_mapFields hd _)), (Obj.cls_mapFields ..).trans hc, by
    rw [Obj.data_mapFields hd]; simp [rawInt]⟩
theorem nextOf_tuple_end {it t : Addr} {i : Nat} {items} {Q : Value → Shared → Prop} (hh : A.handled = none) (hit : s.heap.IsTupleIter it t i) (ht : s.heap.IsTuple t items) (hx : items[i]? = none)
    (hE : ∀ h' e, Heap.ExtBut it s.heap h' → (∃ o, h'.get? e = some o ∧ o.cls = .type "StopIteration") → E (.ref e) { s with heap := h' }) : wpAny (model prog w) A (Builtin.SmallTypes.nextOf (.ref it)) Q E s := by
  obtain ⟨o, ho, hc, hd⟩ := id hit
  obtain ⟨ol, hol, _, nl, hdl⟩ := ht
  unfold Builtin.SmallTypes.nextOf
  refine wpAny_bind (wpAny_callSpecial?_slot (name := Str.ofString "__next__") hit.typeIs PySem.F.slot_tuple_iterator_next
    (wpAny_call_entry PySem.F.slot_tuple_iterator_next hit.typeIs PySem.F.entry_tuple_iterator_next ?_ (PySem.F.args_tuple_iterator_next_1 _)))
  show wpAny _ _ (field (.ref it) 0 >>= _) _ _ s
  refine wpAny_bind (wpAny_field ho hd (x := .ref t) rfl ?_)
  show wpAny _ _ (if (Value.ref t == Value.none) = true then _ else _) _ _ s
  rw [if_neg (show ¬ ((Value.ref t == Value.none) = true) from Bool.false_ne_true)]
  show wpAny _ _ (field (.ref it) 1 >>= _) _ _ s
  refine wpAny_bind (wpAny_field ho hd (x := .int i 0) rfl ?_)
  show wpAny _ _ (seqItems? (.ref t) >>= _) _ _ s
  refine wpAny_bind (wpAny_seqItems hol hdl ?_)
  simp only [Int.toNat_natCast, hx]
  refine wpAny_bind (wpAny_rule (wpAny_bind (wpAny_setField ho hd (by simp) ?_)))
  show wpAny _ _ (newExc (.type "StopIteration") [] >>= _) _ _ _
  refine wpAny_bind ?_
  simp only [newExc, newTuple]
  refine wpAny_bind (wpAny_newObj_type ?_ (by size_fits))
  refine wpAny_bind (m := firstArgMember _ _) (wpAny_of_eq (a := Value.none) (by first | rfl | (simp only [firstArgMember]; rfl)) ?_)
  refine wpAny_newObj_type ?_ (by size_fits)
  simp only [raiseNew]
  refine wpAny_bind (wpAny_handled ?_)
  first | rw [show A.in1.handled = none from hh] | rw [hh]
  refine wpAny_bind (wpAny_pure (wpAny_throw ?_))
  exact hE _ _ (((Heap.SameBut.update ..).extBut.push _).push _) ⟨_, Heap.get?_push_size _ rfl, rfl⟩
end

theorem drawsTuple {A : Around} (hh : A.handled = none) (it l : Addr) (hne : l ≠ it) (items : Array Value) :
    Draws prog w A it [it, l] items.size (fun i v => items[i]? = some v) (fun i h => h.IsTupleIter it l i ∧ h.IsTuple l items) where
  live := fun _ _ st => let ⟨o, ho, _⟩ := st.1; ⟨o, ho⟩
  frame := fun _ _ _ st hk => ⟨st.1.at fun o e => hk it (by simp) o e, st.2.at fun o e => hk l (by simp) o e⟩
  item := fun i s Q E hi st hQ => by
    refine nextOf_tuple_item st.1 st.2 (x := items[i]) (by simp [hi]) fun h' hit' hs' => ?_
    exact hQ _ h' s.toks (by simp [hi]) ⟨hit', st.2.extBut hs'.extBut hne⟩ hs'
  done := fun s Q E st hE => nextOf_tuple_end hh st.1 st.2 (by simp) hE

def enumD (ds : List PyData) : List PyData := (ds.zipIdx).map fun p => .tuple [.int (p.2 : Int), p.1]
theorem enum_at {ds : List PyData} {i : Nat} {d} (e : (enumD ds)[i]? = some d) : ∃ x, ds[i]? = some x ∧ d = .tuple [.int (i : Int), x] := by
  unfold enumD at e
  rw [List.getElem?_map, Option.map_eq_some_iff] at e
  obtain ⟨p, e, rfl⟩ := e
  rw [List.getElem?_zipIdx, Option.map_eq_some_iff] at e
  obtain ⟨x, e, rfl⟩ := e
  exact ⟨x, e, by simp⟩
theorem enum_none {ds : List PyData} {i : Nat} (e : (enumD ds)[i]? = none) : ds.length ≤ i := by
  unfold enumD at e
  rw [List.getElem?_eq_none_iff] at e
  simpa using e

/-- enumerate over what draws items that read ds -/
theorem It.enum {elts : List Expr} {kk : Nat} {pos : Pos} {it e : Addr} {fp : List Addr} {n : Nat} {P : Nat → Value → Prop} {St : Nat → Heap → Prop} {ds : List PyData} {R : Heap → Prop}
    (D : ∀ A : Around, A.handled = none → Draws prog w A.in1 it fp n P St) (hei : e ≠ it) (hef : e ∉ fp) (hif : it ∈ fp) (hn : n = ds.length) (heM : e ∉ M)
    (read : ∀ {i v h d}, P i v → R h → ds[i]? = some d → Rd M h v d)
    (Rst : ∀ {h h'}, R h → (∀ (a : Addr) (o : Obj) (vs : Array Value) (n : Nat), h.get? a = some o → o.data = .seq vs n → a ∉ M → h'.get? a = some o) → R h')
    (fpo : ∀ {i h}, St i h → ∀ b ∈ fp, b ∉ M ∧ ∃ o, h.get? b = some o ∧ (∀ es n, o.data ≠ .dict es n) ∧ (∀ v, o.data ≠ .cell v))
    (itf : ∀ {i h}, St i h → FD h it) :
    It prog w (.Tuple elts kk pos) M e (enumD ds) [e, it] (fun i h => ((∃ old, IsEnum h e it i old) ∧ St i h) ∧ R h ∧ i ≤ n)
      (fun i v h => ∃ T t x, v = .ref T ∧ P i x ∧ h.IsTuple T #[.int i t, x] ∧ ((∃ x, IsEnumOut h e it ((i : Int) + 1) x T) ∧ St (i + 1) h ∧ T ≠ e ∧ T ≠ it) ∧ R h ∧ i + 1 ≤ n) := by
  have WT := fun (A : Around) (hh : A.handled = none) => WalksT.enumerateD (D A hh) e hei hef hif
  have rs : ∀ {h h'}, R h → (∀ a ∈ [e, it], FD h a) → Eff [e, it] h h' → R h' := fun r f ef => Rst r fun a o vs n g d _ => eff_seqs f ef a o vs n g d
  have fdj : ∀ {i : Nat} {h : Heap}, (∃ old, IsEnum h e it i old) ∧ St i h → ∀ a ∈ [e, it], FD h a := fun {i h} j a m => by
    obtain ⟨⟨old, he⟩, st⟩ := j
    rcases List.mem_cons.mp m with rfl | m
    · exact ⟨_, _, he, rfl⟩
    · rw [List.mem_singleton.mp m]; exact itf st
  have fdm : ∀ {i : Nat} {h : Heap} {T : Addr}, ((∃ x, IsEnumOut h e it ((i : Int) + 1) x T) ∧ St (i + 1) h ∧ T ≠ e ∧ T ≠ it) → ∀ a ∈ [e, it], FD h a := fun {i h T} j a m => by
    obtain ⟨⟨old, he⟩, st, _⟩ := j
    rcases List.mem_cons.mp m with rfl | m
    · exact ⟨_, _, he, rfl⟩
    · rw [List.mem_singleton.mp m]; exact itf st
  refine { item := ?_, go := ?_, done := ?_, again := ?_, stab := ?_, its := fun j => fdj j.1, itm := ?_ }
  · intro i d A s Q E hh hd j q
    obtain ⟨x, hx, rfl⟩ := enum_at hd
    have hi : i < n := by
      rw [hn]
      rcases Nat.lt_or_ge i ds.length with z | z
      · exact z
      · rw [List.getElem?_eq_none z] at hx; cases hx
    refine (WT A hh).item i s Q E hi j.1 fun T vals h' tk hP _ hT hm hk => ?_
    obtain ⟨t, y, hy, rfl⟩ := hP
    have ef : Eff [e, it] s.heap h' := fun a o na g => hk a o na g
    exact q _ h' tk ⟨T, t, y, rfl, hy, hT, hm, rs j.2.1 (fdj j.1) ef, hi⟩ ef
  · intro i d A v s Q E hd j q
    obtain ⟨x, hx, rfl⟩ := enum_at hd
    obtain ⟨T, t, y, rfl, hy, hT, hm, r, hi⟩ := j
    obtain ⟨⟨z, ho⟩, hs, hTe, hTi⟩ := hm
    refine wpAny_letOwnedTupleGo_enum ho fun h' he' hs' => ?_
    have ef : Eff [e, it] s.heap h' := (Eff.same hs').mono fun a m => by rw [List.mem_singleton.mp m]; exact .head _
    have r' := rs r (fdm ⟨⟨z, ho⟩, hs, hTe, hTi⟩) ef
    have hT' : h'.IsTuple T #[.int i t, y] := hT.at fun o g => hs'.extBut T o hTe g
    refine q h' s.toks ⟨⟨⟨z, by simpa using he'⟩, (D { handled := none } rfl).frame _ _ _ hs fun b hb o g => hs'.extBut b o (fun z => hef (z ▸ hb)) g⟩, r', hi⟩ ?_ ef
    unfold TD
    rw [if_pos (show isTupE (Expr.Tuple elts kk pos) = true from rfl)]
    exact ⟨T, _, _, rfl, rfl, hT', .cons (.int ..) (.cons (read hy r' hx) .nil)⟩
  · intro i A s Q E hh hd j q
    have hl := enum_none hd
    have hin : i = n := by have := j.2.2; omega
    subst hin
    exact (WT A hh).done s Q E j.1 fun h' tk hk => q h' tk fun a o na g => hk a o na g
  · intro i A s Q E j q
    obtain ⟨⟨⟨old, he⟩, _⟩, _⟩ := j
    exact wpAny_pyIter_enum he q
  · intro i h h' j kk
    obtain ⟨⟨⟨old, he⟩, st⟩, r, hi⟩ := j
    refine ⟨⟨⟨old, kk e _ he heM (fun es n z => by cases z) (fun v z => by cases z)⟩, (D { handled := none } rfl).frame _ _ _ st fun b hb o g => ?_⟩, Rst r fun a o vs n g d m => kk a o g m (fun es n z => by rw [d] at z; cases z) (fun v z => by rw [d] at z; cases z), hi⟩
    obtain ⟨m, o', g', n1, n2⟩ := fpo st b hb
    rw [g] at g'; cases g'
    exact kk b o g m n1 n2
  · rintro i v h ⟨T, t, x, rfl, hy, hT, hm, _⟩
    exact fdm hm

theorem sr_enum_aux {e elt : Expr} {x : Str} {p pos : Pos} {target : Expr} {ds : List PyData} (H : EN mg mb env nm W σ M h) (i : nm.lookup x = some .globalImplicit) (hg : mg x = none) (hb : mb x = some (.type "enumerate")) (hd : (x == ("__debug__" : Str)) = false)
    (he : ∀ rest, starEach (e :: rest) env = (false, eval e env) :: starEach rest env)
    (a : ∀ {A : Around} {s : Shared} {Q : Value → Shared → Prop} {E : Value → Shared → Prop}, Rm k A → Stay h s.heap →
      (∀ h' tk I wr, (∀ M', (∀ a ∈ M', a ∈ M ∨ h'.get? a = none) → ∃ J Jm, It prog w target M' I ds wr J Jm ∧ J 0 h') → Stay s.heap h' → (∀ a ∈ wr, s.heap.get? a = none) → Q (.ref I) { s with heap := h', toks := tk }) →
      wpAny (model prog w) A (eval e env) (fun v s₁ => wpAny (model prog w) A (call (.type "enumerate") [v]) (fun x s₂ => wpAny (model prog w) A (pyIter x) Q E s₂) E s₁) E s) :
    SR prog w k M env h (.Call (.Name x p) [e] [] pos) target ds := ⟨fun {A s Q E} m t q => by
  refine Call_ (H.blt t i hg hb hd ?_) rfl
  refine PyProof.Rows.callWith_type1 (wpAny_items_cons (wpAny_mono (a m t q) (fun v s₁ h₁ => wpAny_items_nil h₁) fun _ _ e => e) (he _)) (he _) rfl⟩

theorem sr_enum_list {e : Expr} {x : Str} {p pos tp : Pos} {elts : List Expr} {kk : Nat} {ds : List PyData} (H : EN mg mb env nm W σ M h) (i : nm.lookup x = some .globalImplicit) (hg : mg x = none) (hb : mb x = some (.type "enumerate")) (hd : (x == ("__debug__" : Str)) = false)
    (he : ∀ rest, starEach (e :: rest) env = (false, eval e env) :: starEach rest env) (a : EV prog w k M env h e (.list ds)) : SR prog w k M env h (.Call (.Name x p) [e] [] pos) (.Tuple elts kk tp) (enumD ds) :=
  sr_enum_aux (elt := e) H i hg hb hd he fun {A s Q E} m t q => by
    refine a.run m t fun v h₁ t₁ s₁ r₁ => ?_
    obtain ⟨l, vs, n, rfl, g, lm, r⟩ := r₁.listRef
    have mk := H.mok.stay (t.trans s₁)
    have lt := Heap.lt_size g
    refine call_enumerate_list (s := ⟨h₁, s.gens, s.drawn, t₁, s.os⟩) (items := vs) ⟨_, g, rfl, _, rfl⟩ fun h₂ hE hI hsz hk => ?_
    have s2 : Stay h₁ h₂ := hk
    refine wpAny_pyIter_enum hE (q h₂ t₁ _ [h₁.objs.size + 1, h₁.objs.size] (fun M' hM => ?_) (s₁.trans s2) fun a ma => ?_)
    · have nI : h₁.objs.size ∉ M' := fun z => by
        rcases hM _ z with z | z
        · exact mk.fresh z
        · obtain ⟨o, e, _⟩ := hI; rw [e] at z; cases z
      have nE : h₁.objs.size + 1 ∉ M' := fun z => by
        rcases hM _ z with z | z
        · obtain ⟨o, e⟩ := mk _ z; exact absurd (Heap.lt_size e) (Nat.not_lt.mpr (Nat.le_succ _))
        · have hE' : h₂.get? (h₁.objs.size + 1) = _ := hE; rw [hE'] at z; cases z
      have nl : l ∉ M' := notM hM (s2 _ _ g) lm
      refine ⟨_, _, It.enum (it := h₁.objs.size) (P := fun i v => vs[i]? = some v) (R := fun h => RdAll M' h vs.toList ds ∧ h.get? l = some { cls := .type "list", data := .seq vs n }) (fun A hh => Draws.list (A := A.in1) hh h₁.objs.size l (Nat.ne_of_lt lt) vs) (Nat.succ_ne_self _) ?_ (by simp) (by have := r.length; simpa using this) nE ?_ ?_ ?_ ?_, ⟨⟨_, hE⟩, hI, ⟨_, s2 _ _ g, rfl, _, rfl⟩⟩, ⟨(r.stay s2).grow hM, s2 _ _ g⟩, Nat.zero_le _⟩
      · intro z
        rcases List.mem_cons.mp z with z | z
        · exact Nat.succ_ne_self _ z
        · rw [List.mem_singleton] at z; rw [← z] at lt; exact absurd lt (Nat.not_lt.mpr (Nat.le_succ _))
      · intro i v h d hv hr hd
        obtain ⟨u, hu, ru⟩ := hr.1.at hd
        have : v = u := by rw [Array.getElem?_toList] at hu; rw [hv] at hu; exact Option.some.inj hu
        rw [this]; exact ru
      · intro h h' hr kk'
        exact ⟨hr.1.move fun b o vs n m e d => ⟨kk' b o vs n e d m, m⟩, kk' _ _ _ _ hr.2 rfl nl⟩
      · intro i h st b hb
        rcases List.mem_cons.mp hb with rfl | hb
        · obtain ⟨o, e, _, d⟩ := st.1
          exact ⟨nI, o, e, (fun es n z => by rw [d] at z; cases z), (fun v z => by rw [d] at z; cases z)⟩
        · rw [List.mem_singleton] at hb; subst hb
          obtain ⟨o, e, _, n, d⟩ := st.2
          exact ⟨nl, o, e, (fun es n z => by rw [d] at z; cases z), (fun v z => by rw [d] at z; cases z)⟩
      · intro i h st
        obtain ⟨o, e, _, d⟩ := st.1
        exact ⟨o, _, e, d⟩
    · rcases List.mem_cons.mp ma with rfl | ma
      · cases e : s.heap.get? (h₁.objs.size + 1) with
        | none => rfl
        | some o => exact absurd (Heap.lt_size (s₁ _ _ e)) (Nat.not_lt.mpr (Nat.le_succ _))
      · rw [List.mem_singleton.mp ma]; exact s₁.freshAt

set_option maxHeartbeats 1000000 in
theorem meets_enum_tuple (l : Addr) (items : Array Value) (n : Nat) :
    Meets (Builtin.«enumerate.__new__» ⟨[.type "enumerate", .ref l], []⟩) (fun _ R s => s.heap.get? l = some { cls := .type "tuple", dict := none, data := .seq items n, slots := #[] } ∧
      R (.ok (.ret (.ref (s.heap.push { cls := .type "tuple_iterator", data := .fields #[.ref l, .int 0 0] }).objs.size)))
        { s with heap := (s.heap.push { cls := .type "tuple_iterator", data := .fields #[.ref l, .int 0 0] }).push { cls := .type "enumerate", data := .fields #[.none, .bool false, .ref s.heap.objs.size, rawInt 0, .none, .none] } }) :=
  .of_wp fun prog w A R s h => by
    obtain ⟨hp, g, d, tk, os⟩ := s
    obtain ⟨hl, h⟩ := h
    have hsub := sub_enumerate
    have hL : Heap.IsTuple (Shared.heap ⟨hp, g, d, tk, os⟩) l items := ⟨_, hl, rfl, n, rfl⟩
    wp_walk using AutoSeq1.wpAny_loadPart' hl
    refine wpAny_stack_any fun st => wpAny_pure ?_
    split
    · rename_i c _ _ _ _ _
      cases (c == Value.type "enumerate")
      · wp_walk using AutoSeq1.wpAny_loadPart' hl, wpAny_pyIter_tuple hL
        exact ⟨_, rfl, h⟩
      · wp_walk using AutoSeq1.wpAny_loadPart' hl, wpAny_pyIter_tuple hL
        exact ⟨_, rfl, h⟩
    · wp_walk using AutoSeq1.wpAny_loadPart' hl, wpAny_pyIter_tuple hL
      exact ⟨_, rfl, h⟩
theorem call_enum_tuple {A : Around} {E : Value → Shared → Prop} {s : Shared} {l : Addr} {items : Array Value} {n : Nat} {Q : Value → Shared → Prop} (hl : s.heap.get? l = some { cls := .type "tuple", data := .seq items n })
    (h : ∀ h', IsEnum h' (s.heap.objs.size + 1) s.heap.objs.size 0 .none → h'.IsTupleIter s.heap.objs.size l 0 → (∀ b o, s.heap.get? b = some o → h'.get? b = some o) → Q (.ref (s.heap.objs.size + 1)) { s with heap := h' }) :
    wpAny (model prog w) A (call (.type "enumerate") [.ref l]) Q E s := by
  refine callType_new PySem.F.called_enumerate (by decide) (PySem.F.typeCall_enumerate_1 _) (PySem.F.newCall_enumerate_1 _) (fun obj => PySem.F.args_object_init_2 obj _) PySem.F.entry_enumerate_new
    (meets_enum_tuple l items n) ⟨hl, ?_⟩
  have hz : (s.heap.push { cls := .type "tuple_iterator", data := .fields #[.ref l, .int 0 0] }).objs.size = s.heap.objs.size + 1 := Heap.size_push ..
  show _ ∧ _
  rw [hz]
  have he : IsEnum ((s.heap.push { cls := .type "tuple_iterator", data := .fields #[.ref l, .int 0 0] }).push
      { cls := .type "enumerate", data := .fields #[.none, .bool false, .ref s.heap.objs.size, rawInt 0, .none, .none] }) (s.heap.objs.size + 1) s.heap.objs.size 0 .none := by
    have := Heap.get?_push_size (s.heap.push { cls := .type "tuple_iterator", data := .fields #[.ref l, .int 0 0] })
      (o := { cls := .type "enumerate", data := .fields #[.none, .bool false, .ref s.heap.objs.size, rawInt 0, .none, .none] }) rfl
    rw [hz] at this; exact this
  exact ⟨⟨_, he, rfl⟩, h _ he ⟨_, Heap.get?_push_of_some _ (Heap.get?_push_size _ rfl), rfl, rfl⟩ fun b o x => Heap.get?_push_of_some _ (Heap.get?_push_of_some _ x)⟩

theorem sr_enum_tuple {e : Expr} {x : Str} {p pos tp : Pos} {elts : List Expr} {kk : Nat} {ds : List PyData} (H : EN mg mb env nm W σ M h) (i : nm.lookup x = some .globalImplicit) (hg : mg x = none) (hb : mb x = some (.type "enumerate")) (hd : (x == ("__debug__" : Str)) = false)
    (he : ∀ rest, starEach (e :: rest) env = (false, eval e env) :: starEach rest env) (a : EV prog w k M env h e (.tuple ds)) : SR prog w k M env h (.Call (.Name x p) [e] [] pos) (.Tuple elts kk tp) (enumD ds) :=
  sr_enum_aux (elt := e) H i hg hb hd he fun {A s Q E} m t q => by
    refine a.run m t fun v h₁ t₁ s₁ r₁ => ?_
    obtain ⟨l, vs, n, rfl, g, lm, r⟩ := r₁.tupRef
    have mk := H.mok.stay (t.trans s₁)
    have lt := Heap.lt_size g
    refine call_enum_tuple (s := ⟨h₁, s.gens, s.drawn, t₁, s.os⟩) (items := vs) g fun h₂ hE hI hk => ?_
    have s2 : Stay h₁ h₂ := hk
    refine wpAny_pyIter_enum hE (q h₂ t₁ _ [h₁.objs.size + 1, h₁.objs.size] (fun M' hM => ?_) (s₁.trans s2) fun a ma => ?_)
    · have nI : h₁.objs.size ∉ M' := fun z => by
        rcases hM _ z with z | z
        · exact mk.fresh z
        · obtain ⟨o, e, _⟩ := hI; rw [e] at z; cases z
      have nE : h₁.objs.size + 1 ∉ M' := fun z => by
        rcases hM _ z with z | z
        · obtain ⟨o, e⟩ := mk _ z; exact absurd (Heap.lt_size e) (Nat.not_lt.mpr (Nat.le_succ _))
        · have hE' : h₂.get? (h₁.objs.size + 1) = _ := hE; rw [hE'] at z; cases z
      have nl : l ∉ M' := notM hM (s2 _ _ g) lm
      refine ⟨_, _, It.enum (it := h₁.objs.size) (P := fun i v => vs[i]? = some v) (R := fun h => RdAll M' h vs.toList ds ∧ h.get? l = some { cls := .type "tuple", data := .seq vs n }) (fun A hh => drawsTuple (A := A.in1) hh h₁.objs.size l (Nat.ne_of_lt lt) vs) (Nat.succ_ne_self _) ?_ (by simp) (by have := r.length; simpa using this) nE ?_ ?_ ?_ ?_, ⟨⟨_, hE⟩, hI, ⟨_, s2 _ _ g, rfl, _, rfl⟩⟩, ⟨(r.stay s2).grow hM, s2 _ _ g⟩, Nat.zero_le _⟩
      · intro z
        rcases List.mem_cons.mp z with z | z
        · exact Nat.succ_ne_self _ z
        · rw [List.mem_singleton] at z; rw [← z] at lt; exact absurd lt (Nat.not_lt.mpr (Nat.le_succ _))
      · intro i v h d hv hr hd
        obtain ⟨u, hu, ru⟩ := hr.1.at hd
        have : v = u := by rw [Array.getElem?_toList] at hu; rw [hv] at hu; exact Option.some.inj hu
        rw [this]; exact ru
      · intro h h' hr kk'
        exact ⟨hr.1.move fun b o vs n m e d => ⟨kk' b o vs n e d m, m⟩, kk' _ _ _ _ hr.2 rfl nl⟩
      · intro i h st b hb
        rcases List.mem_cons.mp hb with rfl | hb
        · obtain ⟨o, e, _, d⟩ := st.1
          exact ⟨nI, o, e, (fun es n z => by rw [d] at z; cases z), (fun v z => by rw [d] at z; cases z)⟩
        · rw [List.mem_singleton] at hb; subst hb
          obtain ⟨o, e, _, n, d⟩ := st.2
          exact ⟨nl, o, e, (fun es n z => by rw [d] at z; cases z), (fun v z => by rw [d] at z; cases z)⟩
      · intro i h st
        obtain ⟨o, e, _, d⟩ := st.1
        exact ⟨o, _, e, d⟩
    · rcases List.mem_cons.mp ma with rfl | ma
      · cases e : s.heap.get? (h₁.objs.size + 1) with
        | none => rfl
        | some o => exact absurd (Heap.lt_size (s₁ _ _ e)) (Nat.not_lt.mpr (Nat.le_succ _))
      · rw [List.mem_singleton.mp ma]; exact s₁.freshAt

def signsD (x : Str) : List PyData := x.cps.toList.map fun c => .str ⟨#[c]⟩
theorem sr_enum_str {e : Expr} {x : Str} {p pos tp : Pos} {elts : List Expr} {kk : Nat} {y : Str} (H : EN mg mb env nm W σ M h) (i : nm.lookup x = some .globalImplicit) (hg : mg x = none) (hb : mb x = some (.type "enumerate")) (hd : (x == ("__debug__" : Str)) = false) (ha : (y.cps.all (· < 128)) = true)
    (he : ∀ rest, starEach (e :: rest) env = (false, eval e env) :: starEach rest env) (a : EV prog w k M env h e (.str y)) : SR prog w k M env h (.Call (.Name x p) [e] [] pos) (.Tuple elts kk tp) (enumD (signsD y)) :=
  sr_enum_aux (elt := e) H i hg hb hd he fun {A s Q E} m t q => by
    refine a.run m t fun v h₁ t₁ s₁ r₁ => ?_
    obtain ⟨tk, rfl⟩ := r₁.strVal
    have mk := H.mok.stay (t.trans s₁)
    refine call_enumerate_str (s := ⟨h₁, s.gens, s.drawn, t₁, s.os⟩) fun h₂ hE hI _ hk => ?_
    have s2 : Stay h₁ h₂ := hk
    have hI' : h₂.IsStrIter h₁.objs.size "str_ascii_iterator" y tk 0 := by
      have e : strIterType y = "str_ascii_iterator" := by unfold strIterType; rw [if_pos ha]
      rw [← e]; exact hI
    refine wpAny_pyIter_enum hE (q h₂ t₁ _ [h₁.objs.size + 1, h₁.objs.size] (fun M' hM => ?_) (s₁.trans s2) fun a ma => ?_)
    · have nI : h₁.objs.size ∉ M' := fun z => by
        rcases hM _ z with z | z
        · exact mk.fresh z
        · obtain ⟨o, e, _⟩ := hI; rw [e] at z; cases z
      have nE : h₁.objs.size + 1 ∉ M' := fun z => by
        rcases hM _ z with z | z
        · obtain ⟨o, e⟩ := mk _ z; exact absurd (Heap.lt_size e) (Nat.not_lt.mpr (Nat.le_succ _))
        · have hE' : h₂.get? (h₁.objs.size + 1) = _ := hE; rw [hE'] at z; cases z
      refine ⟨_, _, It.enum (it := h₁.objs.size) (R := fun _ => True) (fun A hh => Draws.strAscii (A := A.in1) hh h₁.objs.size y tk) (Nat.succ_ne_self _) ?_ (by simp) (by simp [signsD]) nE ?_ ?_ ?_ ?_, ⟨⟨_, hE⟩, hI'⟩, trivial, Nat.zero_le _⟩
      · intro z; exact Nat.succ_ne_self _ (List.mem_singleton.mp z)
      · rintro i v h d ⟨c, u, hc, rfl⟩ _ hd
        unfold signsD at hd
        rw [List.getElem?_map, Array.getElem?_toList, hc] at hd
        cases hd
        exact .str ..
      · intros; trivial
      · intro i h st b hb
        rw [List.mem_singleton] at hb; subst hb
        obtain ⟨o, e, _, d⟩ := st
        exact ⟨nI, o, e, (fun es n z => by rw [d] at z; cases z), (fun v z => by rw [d] at z; cases z)⟩
      · intro i h st
        obtain ⟨o, e, _, d⟩ := st
        exact ⟨o, _, e, d⟩
    · rcases List.mem_cons.mp ma with rfl | ma
      · cases e : s.heap.get? (h₁.objs.size + 1) with
        | none => rfl
        | some o => exact absurd (Heap.lt_size (s₁ _ _ e)) (Nat.not_lt.mpr (Nat.le_succ _))
      · rw [List.mem_singleton.mp ma]; exact s₁.freshAt
end Mine
namespace Mine
open PySem PySem.Calls PyProof.Rows
variable {prog : Program} {w : World} {k : Nat} {M : List Addr} {env : Env} {h : Heap} {mg mb : Str → Option Value} {nm : List (Str × NameKind)} {W : List Addr} {σ : List (Str × Bd)}

/-- a def of the program is called -/
theorem ev_call {p pos : Pos} {e : Expr} {rest : List Expr} {ds : List PyData} {d : PyData} {top : Heap} {fa : Addr} {spec : List PyData → PyData → Prop} {name : Str} {params : Arguments} {body : List Stmt} {scope : Scope} {j : Nat} (H : EN mg mb env nm W σ M h) (sm : Seqs M h) (tp : Stay top h)
    (f : Fn top mg name params body scope fa) (F : PF prog w j top fa spec) (hj : j ≤ k) (i : nm.lookup name = some .globalImplicit) (hd : (name == ("__debug__" : Str)) = false)
    (a : EVs prog w k M env h (e :: rest) ds) (sp : spec ds d) : EV prog w k M env h (.Call (.Name name p) (e :: rest) [] pos) d := ⟨fun {A s Q E} m t q => by
  obtain ⟨o, pm, cd, doc, ho, hdat, _⟩ := f.ob
  have he : ∀ r, starEach (e :: r) env = (false, eval e env) :: starEach r env := by cases a with | cons _ _ he => exact he
  refine Call_ (Name_function_global H.fn (H.glb name i) (loadGlobal_global (mg := mg) (by rw [H.gl]; exact H.g.keeps t) f.glob ?_) hd) rfl
  refine callWith_def (o := o) hdat (a.run m t fun vs h₁ t₁ s₁ r₁ => ⟨s₁ _ _ (t _ _ (tp _ _ ho)), ?_⟩) (he _)
  exact F.run (m.mono hj) (tp.trans (t.trans s₁)) (H.mok.stay (t.trans s₁)) (sm.move (t.trans s₁).seq) r₁ sp fun v h' tk' st rd => q v h' tk' (s₁.trans st) rd⟩

/-- len of a list -/
theorem ev_len {M₁ : List Addr} {p pos : Pos} {e : Expr} {ds : List PyData} (H : EN mg mb env nm W σ M h) (i : nm.lookup ("len" : Str) = some .globalImplicit) (hg : mg "len" = none) (hb : mb "len" = some (.builtin "len")) (a : EV prog w k M₁ env h e (.list ds))
    (he : ∀ rest, starEach (e :: rest) env = (false, eval e env) :: starEach rest env) (hn : ds.length ≤ 1000000) : EV prog w k M env h (.Call (.Name "len" p) [e] [] pos) (.int (ds.length : Int)) := ⟨fun {A s Q E} m t q => by
  refine Call_ (H.blt t i hg hb (by decide +kernel) ?_) rfl
  refine PyProof.Rows.callWith_builtin1 (wpAny_items_cons (a.run m t fun v h₁ t₁ s₁ r₁ => wpAny_items_nil ?_) (he _)) (he _) rfl
  obtain ⟨l, vs, n, rfl, g, lm, r⟩ := r₁.listRef
  have e1 := r.length
  simp at e1
  refine call_len_list (s := ⟨h₁, s.gens, s.drawn, t₁, s.os⟩) (items := vs) ⟨_, g, rfl, _, rfl⟩ (by omega) ?_
  have := q (.int (vs.size : Int) (t₁ + 1)) h₁ (t₁ + 1 + 1) s₁ (by rw [e1]; exact .int _ _)
  exact this⟩

/-- list.index among ints -/
theorem ev_index {o e : Expr} {apos pos : Pos} {l : List Int} {i : Int} {M₁ M₂ : List Addr} (a : EV prog w k M₁ env h o (.list (il l))) (b : EV prog w k M₂ env h e (.int i)) (hm : i ∈ l) (hl : l.length ≤ 1000000)
    (hbase : attributeBase o "index" env (eval o env) = eval o env := by rfl) (hs : starEach [e] env = [(false, eval e env)] := by rfl) (hline : (apos.endLine == pos.line) = true := by rfl) :
    EV prog w k M env h (.Call (.Attribute o "index" apos) [e] [] pos) (.int (l.idxOf i : Nat)) := ⟨fun {A s Q E} m t q => by
  refine Call_method1 hbase hs hline (a.run m t fun u h₁ t₁ s₁ r₁ => ?_)
  obtain ⟨ad, vs, n, rfl, g, _, r⟩ := r₁.listRef
  refine ⟨"list", "list.index", PySem.F.plainAttrs_list, PySem.F.slot_list_index, PySem.F.type_list_index, ⟨_, g, rfl⟩, fun b hb => ?_, ?_⟩
  · cases hb; exact ⟨_, g, rfl⟩
  · refine PySem.P.index_list (b.run (s := ⟨h₁, s.gens, s.drawn, t₁, s.os⟩) m (t.trans s₁) fun v h₂ t₂ s₂ r₂ => ?_)
    obtain ⟨tk, rfl⟩ := r₂.intVal
    have e1 := r.length
    simp [il] at e1
    have hj : l.idxOf i < l.length := List.idxOf_lt_length_iff.mpr hm
    have r' := r.stay s₂
    have av : ∀ (j : Nat) (hj : j < vs.size), ∃ t', vs[j] = .int (l[j]'(by omega)) t' := fun j hj => by
      obtain ⟨d, e, rd⟩ := r'.atV (i := j) (v := vs[j]) (by simp [hj])
      have : d = .int (l[j]'(by omega)) := by
        unfold il at e
        rw [List.getElem?_map, List.getElem?_eq_getElem (by omega)] at e
        exact (Option.some.inj e).symm
      subst this
      exact rd.intVal
    refine ⟨vs, n, isV i, l.idxOf i, by omega, s₂ _ _ g, fun y hy => ?_, by omega, ?_, fun m' hm' hlt => ?_, ?_⟩
    · obtain ⟨j, t', rfl⟩ := mem_vals r' y (by simpa using hy)
      exact MeetsSeq.EqGives.int j i t' tk
    · obtain ⟨t', e⟩ := av (l.idxOf i) (by omega)
      rw [e]
      show (l[l.idxOf i]'hj == i) = true
      simp
    · obtain ⟨t', e⟩ := av m' hm'
      rw [e]
      show (l[m']'(by omega) == i) = false
      exact ne_of_lt_idxOf hlt _
    · exact q _ h₂ _ (s₁.trans s₂) (.int ..)⟩

def sl (l : List Str) : List PyData := l.map .str
theorem sl_vals {M h} : ∀ {vs : List Value} {l : List Str}, RdAll M h vs (sl l) → StrsAre vs l
  | [], [], _ => .nil
  | v :: vs, i :: l, .cons a r => by obtain ⟨t, rfl⟩ := a.strVal; exact .cons _ _ (sl_vals r)
/-- str.join of a list -/
theorem ev_join {o e : Expr} {apos pos : Pos} {x : Str} {l : List Str} {M₁ M₂ : List Addr} (a : EV prog w k M₁ env h o (.str x)) (b : EV prog w k M₂ env h e (.list (sl l))) (hl : (l.map (·.length)).sum + l.length * x.length ≤ 1000000)
    (hbase : attributeBase o "join" env (eval o env) = eval o env := by rfl) (hs : starEach [e] env = [(false, eval e env)] := by rfl) (hline : (apos.endLine == pos.line) = true := by rfl) :
    EV prog w k M env h (.Call (.Attribute o "join" apos) [e] [] pos) (.str (Str.join x l)) := ⟨fun {A s Q E} m t q => by
  refine Call_method1 hbase hs hline (a.run m t fun u h₁ t₁ s₁ r₁ => ?_)
  obtain ⟨tk, rfl⟩ := r₁.strVal
  refine ⟨"str", "str.join", PySem.F.plainAttrs_str, PySem.F.slot_str_join, PySem.F.type_str_join, typeIs_str _ _ _, fun b hb => (by cases hb), ?_⟩
  refine PySem.Calls.callWith_builtin rfl (PySem.Calls.evalArgs_plain (PySem.Calls.spliced_cons (b.run (s := ⟨h₁, s.gens, s.drawn, t₁, s.os⟩) m (t.trans s₁) fun v h₂ t₂ s₂ r₂ => PySem.Calls.spliced_nil ?_)))
  obtain ⟨ad, vs, n, rfl, g, _, r⟩ := r₂.listRef
  refine PyProof.Rows.join_list (s := ⟨h₂, s.gens, s.drawn, t₂, s.os⟩) (items := vs) ⟨_, g, rfl, _, rfl⟩ (sl_vals r) (by omega) fun t' kk => ?_
  rw [show Txt.join x l = Str.join x l from StrLaws.glued_eq_join x l]
  exact q _ h₂ kk (s₁.trans s₂) (.str ..)⟩

/-- a slice of any base -/
theorem sub_slice {A : Around} {s : Shared} {E : Value → Shared → Prop} {value : Expr} {lower upper : Option Expr} {p pos : Pos} {Q : Value → Shared → Prop}
    (h : wpAny (model prog w) A (eval value env) (fun o s₁ => wpAny (model prog w) A (evalPart lower env) (fun vl s₂ => wpAny (model prog w) A (evalPart upper env) (fun vu s₃ =>
      ∃ l items lo hi, o = .ref l ∧ s₃.heap.IsList l items ∧ items.size ≤ sizeLine ∧ IsPart vl lo ∧ IsPart vu hi ∧
        Q (.ref (s₃.heap.objs.size + 1)) { s₃ with heap := (s₃.heap.push { cls := .type "slice", data := .fields #[vl, vu, .none] }).push { cls := .type "list", data := .seq (slicePick items lo hi none) } }) E s₂) E s₁) E s) :
    wpAny (model prog w) A (eval (.Subscript value (.Slice lower upper none p) pos) env) Q E s := by
  rw [eval_Subscript]
  refine wpAny_bind (wpAny_mono h (fun o s₁ h₁ => wpAny_bind (wpAny_holding (wpAny_mono (wpAny_Slice (wpAny_mono h₁ (fun vl s₂ h₂ => wpAny_mono h₂ (fun vu s₃ h₃ => ?_) fun _ _ e => e) fun _ _ e => e)) (fun i s₄ h₄ => wpAny_bind (wpAny_standAt (h₄ : _))) fun _ _ x => x))) fun _ _ x => x)
  obtain ⟨l, items, lo, hi, rfl, hl, hsz, pl, pu, hQ⟩ := h₃
  rw [evalPart_none]
  refine wpAny_pure ?_
  have fin : wpAny (model prog w) A (operate [.ref s₃.heap.objs.size, .ref l] (getItem (.ref l) (.ref s₃.heap.objs.size))) (fun r s₄ => wpAny (model prog w) A (letTemporaryGo value (.ref l) r >>= fun _ => pure r) Q E s₄) E { s₃ with heap := s₃.heap.push { cls := .type "slice", data := .fields #[vl, vu, .none] } } :=
    wpAny_operating (wpAny_getItem_list_slice (hl.push _) (Heap.IsSliceOf.new ..) pl pu .none (by simp) (by
      rw [Heap.size_push]
      exact wpAny_bind (wpAny_letTemporaryGo (wpAny_pure hQ))) hsz)
  have hT : (({ s₃ with heap := s₃.heap.push { cls := .type "slice", data := .fields #[vl, vu, .none] } } : Shared)).TypeIs (.ref l) "list" := (hl.push _).typeIs
  first
    | (refine wpAny_bind ?_
       rw [getitemInPython_of_ne hT.not_modules]
       refine wpAny_bind (wpAny_specialOf hT list_getitem_lookup ?_)
       first
         | exact wpAny_pure (wpAny_bind fin)
         | exact wpAny_bind (wpAny_pure (wpAny_bind fin))
         | exact wpAny_bind fin)
    | (refine wpAny_bind (wpAny_specialOf hT list_getitem_lookup ?_)
       first
         | exact wpAny_bind (wpAny_pure (wpAny_bind fin))
         | exact wpAny_bind fin)

/-- slices -/
theorem ev_upto {value u : Expr} {p pos : Pos} {ds : List PyData} {j : Nat} (H : EN mg mb env nm W σ M h) (a : EV prog w k M env h value (.list ds)) (b : EV prog w k M env h u (.int (j : Int))) (hn : ds.length ≤ 1000000) (hj : j ≤ ds.length) : EV prog w k M env h (.Subscript value (.Slice none (some u) none p) pos) (.list (ds.take j)) := ⟨fun {A s Q E} m t q => by
  refine sub_slice (a.run m t fun u₁ h₁ t₁ s₁ r₁ => evalPart_none_step (evalPart_some_step (b.run (s := ⟨h₁, s.gens, s.drawn, t₁, s.os⟩) m (t.trans s₁) fun v h₂ t₂ s₂ r₂ => ?_)))
  obtain ⟨tk, rfl⟩ := r₂.intVal
  obtain ⟨ad, vs, n, rfl, g, lm, r⟩ := (r₁.stay s₂).listRef
  have e1 := r.length
  simp at e1
  refine ⟨ad, vs, none, some (j : Int), rfl, ⟨_, g, rfl, _, rfl⟩, small_line (by omega), .none, .int _ _, ?_⟩
  rw [slicePick_upto vs j (by omega)]
  have mk := H.mok.stay (t.trans (s₁.trans s₂))
  have st : Stay h₂ (h₂.push { cls := .type "slice", data := .fields #[.none, .int j tk, .none] }) := Stay.push _ _
  have nw := (mk.stay st).newList ((r.stay st).take j)
  rw [Heap.size_push] at nw
  exact q _ _ _ (s₁.trans (s₂.trans (st.trans (Stay.push _ _)))) nw⟩
theorem ev_from {value u : Expr} {p pos : Pos} {ds : List PyData} {j : Nat} (H : EN mg mb env nm W σ M h) (a : EV prog w k M env h value (.list ds)) (b : EV prog w k M env h u (.int (j : Int))) (hn : ds.length ≤ 1000000) (hj : j ≤ ds.length) : EV prog w k M env h (.Subscript value (.Slice (some u) none none p) pos) (.list (ds.drop j)) := ⟨fun {A s Q E} m t q => by
  refine sub_slice (a.run m t fun u₁ h₁ t₁ s₁ r₁ => (evalPart_some_step (b.run (s := ⟨h₁, s.gens, s.drawn, t₁, s.os⟩) m (t.trans s₁) fun v h₂ t₂ s₂ r₂ => evalPart_none_step ?_)))
  obtain ⟨tk, rfl⟩ := r₂.intVal
  obtain ⟨ad, vs, n, rfl, g, lm, r⟩ := (r₁.stay s₂).listRef
  have e1 := r.length
  simp at e1
  refine ⟨ad, vs, some (j : Int), none, rfl, ⟨_, g, rfl, _, rfl⟩, small_line (by omega), .int _ _, .none, ?_⟩
  rw [slicePick_from vs j (by omega)]
  have mk := H.mok.stay (t.trans (s₁.trans s₂))
  have st : Stay h₂ (h₂.push { cls := .type "slice", data := .fields #[.int j tk, .none, .none] }) := Stay.push _ _
  have nw := (mk.stay st).newList ((r.stay st).drop j)
  rw [Heap.size_push] at nw
  exact q _ _ _ (s₁.trans (s₂.trans (st.trans (Stay.push _ _)))) nw⟩

/-- a value as a test -/
theorem tv_int {e : Expr} {i : Int} {M₁ : List Addr} (a : EV prog w k M₁ env h e (.int i)) (he : ∀ whole, isTrue e env whole = (do let v ← whole; standAt e.pos; holding [v] (truthy v)) := by intro _; rfl) : TV prog w k env h e (i != 0) :=
  ⟨fun {A s Q E} m t q => wpAny_isTrue_value (a.run m t fun v h₁ t₁ s₁ r₁ => by
    obtain ⟨tk, rfl⟩ := r₁.intVal
    exact PyProof.Rows.truthy_int (q h₁ t₁ s₁)) (he _)⟩
theorem tv_bool {e : Expr} {b : Bool} {M₁ : List Addr} (a : EV prog w k M₁ env h e (.bool b)) (he : ∀ whole, isTrue e env whole = (do let v ← whole; standAt e.pos; holding [v] (truthy v)) := by intro _; rfl) : TV prog w k env h e b :=
  ⟨fun {A s Q E} m t q => wpAny_isTrue_value (a.run m t fun v h₁ t₁ s₁ r₁ => by
    have := r₁.boolVal; subst this
    exact wpAny_truthy_bool (q h₁ t₁ s₁)) (he _)⟩
theorem tv_list {e : Expr} {ds : List PyData} {M₁ : List Addr} (a : EV prog w k M₁ env h e (.list ds)) (hn : ds.length ≤ 1000000) (he : ∀ whole, isTrue e env whole = (do let v ← whole; standAt e.pos; holding [v] (truthy v)) := by intro _; rfl) : TV prog w k env h e (!ds.isEmpty) :=
  ⟨fun {A s Q E} m t q => wpAny_isTrue_value (a.run m t fun v h₁ t₁ s₁ r₁ => by
    obtain ⟨ad, vs, n, rfl, g, lm, r⟩ := r₁.listRef
    have e1 := r.length
    simp at e1
    refine wpAny_truthy_list (s := ⟨h₁, s.gens, s.drawn, t₁, s.os⟩) (items := vs) ⟨_, g, rfl, _, rfl⟩ (by omega) ?_
    have : vs.isEmpty = ds.isEmpty := by
      rw [Bool.eq_iff_iff, Array.isEmpty_iff_size_eq_zero, List.isEmpty_iff_length_eq_zero, e1]
    rw [this]
    exact q h₁ _ s₁) (he _)⟩
/-- or, of strings -/
theorem ev_orS {x y : Expr} {pos : Pos} {a b : Str} (p : EV prog w k M env h x (.str a)) (q : EV prog w k M env h y (.str b)) (hn : a.length ≤ 1000000) : EV prog w k M env h (.BoolOp .Or [x, y] pos) (.str (if (a.length : Int) != 0 then a else b)) :=
  ⟨fun {A s Q E} m t r => wpAny_Or2 (p.run m t fun v h₁ t₁ s₁ r₁ => by
    obtain ⟨tk, rfl⟩ := r₁.strVal
    refine PySem.P.truthy_str (by omega) ?_
    split
    · rename_i c
      exact r _ h₁ _ s₁ (by rw [if_pos c]; exact .str ..)
    · rename_i c
      exact q.run m (t.trans s₁) fun v h₂ t₂ s₂ r₂ => r v h₂ t₂ (s₁.trans s₂) (by rw [if_neg c]; exact r₂))⟩
/-- and, of tests' Bools -/
theorem ev_and {x y : Expr} {pos : Pos} {a b : Bool} (p : EV prog w k M env h x (.bool a)) (q : a = true → EV prog w k M env h y (.bool b)) : EV prog w k M env h (.BoolOp .And [x, y] pos) (.bool (a && b)) :=
  ⟨fun {A s Q E} m t r => wpAny_And2 (p.run m t fun v h₁ t₁ s₁ r₁ => by
    have := r₁.boolVal; subst this
    refine wpAny_truthy_bool ?_
    cases a with
    | false => exact r _ h₁ _ s₁ (.bool _)
    | true => exact (q rfl).run m (t.trans s₁) fun v h₂ t₂ s₂ r₂ => r v h₂ t₂ (s₁.trans s₂) (by simpa using r₂))⟩
/-- hex -/
theorem ev_hex {p pos : Pos} {e : Expr} {i : Int} (H : EN mg mb env nm W σ M h) (ih : nm.lookup ("hex" : Str) = some .globalImplicit) (hg : mg "hex" = none) (hb : mb "hex" = some (.builtin "hex")) (a : EV prog w k M env h e (.int i)) (hz : (baseText "0x" 16 i).length ≤ sizeLine)
    (he : ∀ rest, starEach (e :: rest) env = (false, eval e env) :: starEach rest env) : EV prog w k M env h (.Call (.Name "hex" p) [e] [] pos) (.str (baseText "0x" 16 i)) := ⟨fun {A s Q E} m t q => by
  refine Call_ (H.blt t ih hg hb (by decide +kernel) ?_) rfl
  refine PyProof.Rows.callWith_builtin1 (wpAny_items_cons (a.run m t fun v h₁ t₁ s₁ r₁ => wpAny_items_nil ?_) (he _)) (he _) rfl
  obtain ⟨tk, rfl⟩ := r₁.intVal
  exact PySem.P.hex_of_int (s := ⟨h₁, s.gens, s.drawn, t₁, s.os⟩) (q _ h₁ _ s₁ (.str ..)) hz⟩
end Mine
namespace Mine
open PySem PySem.Calls PyProof.Rows
variable {prog : Program} {w : World} {k : Nat} {M : List Addr} {env : Env} {h : Heap} {mg mb : Str → Option Value} {nm : List (Str × NameKind)} {W : List Addr} {σ : List (Str × Bd)}

def lv (l : List Int) (i : Nat) : Int := (l[i]?).getD 0
theorem il_at {M h} {vs : List Value} {l : List Int} (r : RdAll M h vs (il l)) {i : Nat} {v : Value} (e : vs[i]? = some v) : ∃ t, v = .int (lv l i) t := by
  obtain ⟨d, e', rd⟩ := r.atV e
  unfold il at e'
  rw [List.getElem?_map, Option.map_eq_some_iff] at e'
  obtain ⟨j, ej, rfl⟩ := e'
  unfold lv
  rw [ej]
  exact rd.intVal

theorem preSum_take (l : List Int) : ∀ j, j ≤ l.length → preSum (lv l) j = (l.take j).sum
  | 0, _ => by simp [preSum]
  | j + 1, hj => by
    show preSum (lv l) j + lv l j = _
    rw [preSum_take l j (by omega), List.take_add_one, List.sum_append, List.getElem?_eq_getElem (by omega)]
    unfold lv
    rw [List.getElem?_eq_getElem (by omega)]
    simp
theorem sum_nonneg' : ∀ {l : List Int}, (∀ x ∈ l, 0 ≤ x) → 0 ≤ l.sum
  | [], _ => by simp
  | x :: r, hx => by
    have h1 := hx x (by simp)
    have h2 := sum_nonneg' (l := r) fun y hy => hx y (by simp [hy])
    simp only [List.sum_cons]; omega
theorem take_sum_le {l : List Int} (hx : ∀ x ∈ l, 0 ≤ x) (j : Nat) : (l.take j).sum ≤ l.sum := by
  have := congrArg List.sum (List.take_append_drop j l)
  rw [List.sum_append] at this
  have h2 := sum_nonneg' (l := l.drop j) fun y hy => hx y (List.mem_of_mem_drop hy)
  omega
theorem mem_le_sum {l : List Int} (hx : ∀ x ∈ l, 0 ≤ x) {j : Nat} (hj : j < l.length) : 0 ≤ lv l j ∧ lv l j ≤ l.sum := by
  unfold lv
  rw [List.getElem?_eq_getElem hj]
  have h1 := hx _ (List.getElem_mem hj)
  refine ⟨h1, ?_⟩
  have h2 := take_sum_le hx (j + 1)
  rw [List.take_add_one, List.sum_append, List.getElem?_eq_getElem hj] at h2
  have h3 := sum_nonneg' (l := l.take j) fun y hy => hx y (List.mem_of_mem_take hy)
  simp at h2 ⊢
  omega

theorem walk_list {A : Around} (hh : A.handled = none) {l : Addr} {items : Array Value} {n : Nat} {hp : Heap} (g : hp.get? l = some { cls := .type "list", data := .seq items n }) :
    let h' := hp.push { cls := .type "list_iterator", data := .fields #[.ref l, .int 0 0] }
    Walks prog w A hp.objs.size [hp.objs.size, l] [hp.objs.size] items.size (fun i v => items[i]? = some v) (fun i h => h.IsListIter hp.objs.size l i ∧ h.IsList l items) ∧
    (h'.IsListIter hp.objs.size l 0 ∧ h'.IsList l items) ∧ (∀ b ∈ [hp.objs.size, l], b < h'.objs.size) := by
  intro h'
  have lt := Heap.lt_size g
  refine ⟨Walks.list hh _ _ (Nat.ne_of_lt lt) items, ⟨⟨_, Heap.get?_push_size _ rfl, rfl, rfl⟩, ⟨_, Stay.push _ _ _ _ g, rfl, _, rfl⟩⟩, fun b hb => ?_⟩
  have hz : h'.objs.size = hp.objs.size + 1 := Heap.size_push ..
  rw [hz]
  simp at hb
  rcases hb with rfl | rfl
  · omega
  · exact Nat.lt_succ_of_lt lt

theorem stay_wr {hp h' : Heap} {o : Obj} (kk : ∀ (b : Addr) (ob : Obj), b ∉ [hp.objs.size] → (hp.push o).get? b = some ob → h'.get? b = some ob) : Stay hp h' := fun b ob e =>
  kk b ob (by simpa using Nat.ne_of_lt (Heap.lt_size e)) (Stay.push _ _ _ _ e)

/-- sum of a list of ints that are not negative -/
theorem ev_sum {p pos : Pos} {e : Expr} {l : List Int} (H : EN mg mb env nm W σ M h) (i : nm.lookup ("sum" : Str) = some .globalImplicit) (hg : mg "sum" = none) (hb : mb "sum" = some (.builtin "sum")) (a : EV prog w k M env h e (.list (il l)))
    (he : ∀ rest, starEach (e :: rest) env = (false, eval e env) :: starEach rest env) (h0 : ∀ x ∈ l, 0 ≤ x) (hs : l.sum < 2 ^ 63) : EV prog w k M env h (.Call (.Name "sum" p) [e] [] pos) (.int l.sum) := ⟨fun {A s Q E} m t q => by
  refine Call_ (H.blt t i hg hb (by decide +kernel) ?_) rfl
  refine PyProof.Rows.callWith_builtin1 (wpAny_items_cons (a.run m t fun v h₁ t₁ s₁ r₁ => wpAny_items_nil ?_) (he _)) (he _) rfl
  obtain ⟨ad, vs, n, rfl, g, lm, r⟩ := r₁.listRef
  have e1 := r.length
  simp [il] at e1
  obtain ⟨W', st, lt⟩ := walk_list (prog := prog) (w := w) (A := A.in1) (by rw [Around.in1_handled]; exact m.handled) g
  refine call_sum_walk (s := ⟨h₁, s.gens, s.drawn, t₁, s.os⟩) (wpAny_pyIter_list (items := vs) ⟨_, g, rfl, _, rfl⟩ ⟨_, _, _, _, _, _, lv l, rfl, W', st, lt, fun i v e => il_at r (by simpa using e), fun j hj => ?_, fun h' tk t' kk => ?_⟩)
  · have h1 := mem_le_sum h0 (j := j) (by omega)
    refine ⟨⟨by omega, by omega⟩, ?_⟩
    rw [preSum_take l _ (by omega)]
    have h2 := take_sum_le h0 (j + 1)
    have h3 := sum_nonneg' (l := l.take (j + 1)) fun y hy => h0 y (List.mem_of_mem_take hy)
    exact ⟨by omega, by omega⟩
  · rw [preSum_take l _ (by omega), List.take_of_length_le (by omega)]
    exact q _ h' tk (s₁.trans (stay_wr kk)) (.int ..)⟩

theorem best_min (val : Nat → Int) : ∀ n i, i ≤ n → val (argBest (fun i j => decide (val i < val j)) n) ≤ val i
  | 0, i, hi => by rw [show i = 0 by omega]; exact Int.le_refl _
  | n + 1, i, hi => by
    unfold argBest
    have ih := best_min val n
    split
    · rename_i c
      have c := of_decide_eq_true c
      rcases Nat.lt_or_ge n i with z | z
      · rw [show i = n + 1 by omega]; exact Int.le_refl _
      · have := ih i z; omega
    · rename_i c
      have c := of_decide_eq_false (Bool.eq_false_iff.mpr c)
      rcases Nat.lt_or_ge n i with z | z
      · rw [show i = n + 1 by omega]; omega
      · exact ih i z
theorem best_max (val : Nat → Int) : ∀ n i, i ≤ n → val i ≤ val (argBest (fun i j => decide (val i > val j)) n)
  | 0, i, hi => by rw [show i = 0 by omega]; exact Int.le_refl _
  | n + 1, i, hi => by
    unfold argBest
    have ih := best_max val n
    split
    · rename_i c
      have c := of_decide_eq_true c
      rcases Nat.lt_or_ge n i with z | z
      · rw [show i = n + 1 by omega]; exact Int.le_refl _
      · have := ih i z; omega
    · rename_i c
      have c := of_decide_eq_false (Bool.eq_false_iff.mpr c)
      rcases Nat.lt_or_ge n i with z | z
      · rw [show i = n + 1 by omega]; omega
      · exact ih i z
theorem argBest_le (bt) : ∀ n, argBest bt n ≤ n
  | 0 => Nat.le_refl _
  | n + 1 => by unfold argBest; split; exact Nat.le_refl _; exact Nat.le_succ_of_le (argBest_le bt n)

/-- min and max of a list of ints -/
theorem ev_min {p pos : Pos} {e : Expr} {l : List Int} {x : Int} (H : EN mg mb env nm W σ M h) (i : nm.lookup ("min" : Str) = some .globalImplicit) (hg : mg "min" = none) (hb : mb "min" = some (.builtin "min")) (a : EV prog w k M env h e (.list (il l)))
    (he : ∀ rest, starEach (e :: rest) env = (false, eval e env) :: starEach rest env) (h0 : x ∈ l) (hs : ∀ y ∈ l, x ≤ y) : EV prog w k M env h (.Call (.Name "min" p) [e] [] pos) (.int x) := ⟨fun {A s Q E} m t q => by
  refine Call_ (H.blt t i hg hb (by decide +kernel) ?_) rfl
  refine PyProof.Rows.callWith_builtin1 (wpAny_items_cons (a.run m t fun v h₁ t₁ s₁ r₁ => wpAny_items_nil ?_) (he _)) (he _) rfl
  obtain ⟨ad, vs, n, rfl, g, lm, r⟩ := r₁.listRef
  have e1 := r.length
  simp [il] at e1
  have hl : 0 < l.length := List.length_pos_of_mem h0
  obtain ⟨W', st, lt⟩ := walk_list (prog := prog) (w := w) (A := A.in1) (by rw [Around.in1_handled]; exact m.handled) g
  refine call_min_walk (s := ⟨h₁, s.gens, s.drawn, t₁, s.os⟩) (wpAny_pyIter_list (items := vs) ⟨_, g, rfl, _, rfl⟩ ⟨_, _, _, _, _, _, _, rfl, W', st, lt, by omega, CmpOf.ints_lt (lv l) fun i v e => il_at r (by simpa using e), fun v h' tk pv kk => ?_⟩)
  obtain ⟨tk', rfl⟩ := il_at r (by simpa using pv)
  have hb := argBest_le (fun i j => decide (lv l i < lv l j)) (vs.size - 1)
  have ex : lv l (argBest (fun i j => decide (lv l i < lv l j)) (vs.size - 1)) = x := by
    obtain ⟨j, hj, ej⟩ := List.getElem_of_mem h0
    have h1 := best_min (lv l) (vs.size - 1) j (by omega)
    have h2 : lv l j = x := by unfold lv; rw [List.getElem?_eq_getElem hj, ej]; rfl
    have h3 : lv l (argBest (fun i j => decide (lv l i < lv l j)) (vs.size - 1)) ∈ l := by
      generalize argBest _ _ = z at hb
      unfold lv
      rw [List.getElem?_eq_getElem (by omega)]
      exact List.getElem_mem _
    have h4 := hs _ h3
    omega
  rw [ex]
  exact q _ h' tk (s₁.trans (stay_wr kk)) (.int ..)⟩
theorem ev_max {p pos : Pos} {e : Expr} {l : List Int} {x : Int} (H : EN mg mb env nm W σ M h) (i : nm.lookup ("max" : Str) = some .globalImplicit) (hg : mg "max" = none) (hb : mb "max" = some (.builtin "max")) (a : EV prog w k M env h e (.list (il l)))
    (he : ∀ rest, starEach (e :: rest) env = (false, eval e env) :: starEach rest env) (h0 : x ∈ l) (hs : ∀ y ∈ l, y ≤ x) : EV prog w k M env h (.Call (.Name "max" p) [e] [] pos) (.int x) := ⟨fun {A s Q E} m t q => by
  refine Call_ (H.blt t i hg hb (by decide +kernel) ?_) rfl
  refine PyProof.Rows.callWith_builtin1 (wpAny_items_cons (a.run m t fun v h₁ t₁ s₁ r₁ => wpAny_items_nil ?_) (he _)) (he _) rfl
  obtain ⟨ad, vs, n, rfl, g, lm, r⟩ := r₁.listRef
  have e1 := r.length
  simp [il] at e1
  have hl : 0 < l.length := List.length_pos_of_mem h0
  obtain ⟨W', st, lt⟩ := walk_list (prog := prog) (w := w) (A := A.in1) (by rw [Around.in1_handled]; exact m.handled) g
  refine call_max_walk (s := ⟨h₁, s.gens, s.drawn, t₁, s.os⟩) (wpAny_pyIter_list (items := vs) ⟨_, g, rfl, _, rfl⟩ ⟨_, _, _, _, _, _, _, rfl, W', st, lt, by omega, CmpOf.ints_gt (lv l) fun i v e => il_at r (by simpa using e), fun v h' tk pv kk => ?_⟩)
  obtain ⟨tk', rfl⟩ := il_at r (by simpa using pv)
  have hb := argBest_le (fun i j => decide (lv l i > lv l j)) (vs.size - 1)
  have ex : lv l (argBest (fun i j => decide (lv l i > lv l j)) (vs.size - 1)) = x := by
    obtain ⟨j, hj, ej⟩ := List.getElem_of_mem h0
    have h1 := best_max (lv l) (vs.size - 1) j (by omega)
    have h2 : lv l j = x := by unfold lv; rw [List.getElem?_eq_getElem hj, ej]; rfl
    have h3 : lv l (argBest (fun i j => decide (lv l i > lv l j)) (vs.size - 1)) ∈ l := by
      generalize argBest _ _ = z at hb
      unfold lv
      rw [List.getElem?_eq_getElem (by omega)]
      exact List.getElem_mem _
    have h4 := hs _ h3
    omega
  rw [ex]
  exact q _ h' tk (s₁.trans (stay_wr kk)) (.int ..)⟩
end Mine
namespace Mine
open PySem PySem.Calls PyProof.Rows Builtin SeqAt
variable {prog : Program} {w : World} {k : Nat} {M : List Addr} {env : Env} {h : Heap} {mg mb : Str → Option Value} {nm : List (Str × NameKind)} {W : List Addr} {σ : List (Str × Bd)}

/-- what the order of two pairs of ints says -/
def lt2 (a b c d : Int) : Bool := if a = c then decide (b < d) else decide (a < c)
set_option maxHeartbeats 4000000 in
theorem tup_lt (l r : Addr) (a b c d : Int) (t1 t2 t3 t4 : Tok) (n n2 : Nat) :
    Meets (Builtin.«tuple.__lt__» ⟨[.ref l, .ref r], []⟩)
      (fun A R s => s.heap.get? l = some { cls := .type "tuple", data := .seq #[.int a t1, .int b t2] n } ∧ s.heap.get? r = some { cls := .type "tuple", data := .seq #[.int c t3, .int d t4] n2 } ∧
        R (.ok (.ret (.bool (lt2 a b c d)))) s) :=
  .of_wp fun prog w A R s h => by
    obtain ⟨hp, g, dr, tk, os⟩ := s; obtain ⟨hl, hb, h⟩ := h
    have f2 := AutoSeq1.sub_tuple_tuple
    have r1 : ∀ {A : Around} {s : Shared} {Q : Value → Shared → Prop} {E : Value → Shared → Prop}, Q (.bool (decide (a < c))) s → wpAny (model prog w) A (richCompare .Lt (.int a t1) (.int c t3)) Q E s := fun q => PyProof.Rows.lt_int q
    have r2 : ∀ {A : Around} {s : Shared} {Q : Value → Shared → Prop} {E : Value → Shared → Prop}, Q (.bool (decide (b < d))) s → wpAny (model prog w) A (richCompare .Lt (.int b t2) (.int d t4)) Q E s := fun q => PyProof.Rows.lt_int q
    wp_walk using wpAny_loadPart' hl, wpAny_loadPart' hb, wpAny_forIn_list _ (fun rest bb s' => bb.1 = none ∧ s' = ⟨hp, g, dr, tk, os⟩ ∧ (rest = [(.int a t1, .int c t3), (.int b t2, .int d t4)] ∨ rest = [(.int b t2, .int d t4)] ∧ a = c ∨ rest = [] ∧ a = c ∧ b = d)) _
    case turn =>
      rintro ⟨y, x⟩ rest bb s' ⟨hb', rfl, hz⟩
      rcases hz with hz | ⟨hz, e⟩ | ⟨hz, _⟩
      · injection hz with hyx hrest
        injection hyx with hy hx
        subst hy hx hrest
        refine wpAny_bind ((MeetsSeq.EqGives.int a c t1 t3).at A.in1 _ prog w _ _ ?_)
        by_cases e : a = c
        · have : (a == c) = true := by simpa using e
          rw [this]
          wp_walk
          exact ⟨rfl, rfl, .inr (.inl ⟨rfl, e⟩)⟩
        · have : (a == c) = false := by simpa using e
          rw [this]
          wp_walk using r1
          refine ⟨_, rfl, ?_⟩
          unfold lt2 at h
          rw [if_neg e] at h
          exact h
      · injection hz with hyx hrest
        injection hyx with hy hx
        subst hy hx hrest
        refine wpAny_bind ((MeetsSeq.EqGives.int b d t2 t4).at A.in1 _ prog w _ _ ?_)
        by_cases e2 : b = d
        · have : (b == d) = true := by simpa using e2
          rw [this]
          wp_walk
          exact ⟨rfl, rfl, .inr (.inr ⟨rfl, e, e2⟩)⟩
        · have : (b == d) = false := by simpa using e2
          rw [this]
          wp_walk using r2
          refine ⟨_, rfl, ?_⟩
          unfold lt2 at h
          rw [if_pos e] at h
          exact h
      · cases hz
    case fin =>
      rintro ⟨b1, b2⟩ s' ⟨hb', rfl, hz⟩
      simp only at hb'
      subst hb'
      rcases hz with hz | ⟨hz, e⟩ | ⟨_, e, e2⟩
      · cases hz
      · cases hz
      · wp_walk
        refine ⟨_, rfl, ?_⟩
        have : lt2 a b c d = false := by unfold lt2; rw [if_pos e, e2]; simp
        rw [this] at h
        simpa [Builtin.Tuple.tupleCompareSizes] using h
    case h =>
      exact ⟨rfl, rfl, .inl rfl⟩
theorem cm_tlt {a b c d : Int} : CM prog w .Lt (.tuple [.int a, .int b]) (.tuple [.int c, .int d]) (lt2 a b c d) := ⟨fun {k A s Q E u v} m x y q => by
  obtain ⟨ad, vs, n, rfl, g, _, r⟩ := x.tupRef
  obtain ⟨ad', vs', n', rfl, g', _, r'⟩ := y.tupRef
  have two : ∀ {vs : Array Value} {x y : Int} {M : List Addr}, RdAll M s.heap vs.toList [.int x, .int y] → ∃ t t', vs = #[.int x t, .int y t'] := by
    intro vs x y M r
    obtain ⟨l⟩ := vs
    cases r with | cons p r => cases r with | cons q r => cases r with | nil =>
      obtain ⟨t, rfl⟩ := p.intVal
      obtain ⟨t', rfl⟩ := q.intVal
      exact ⟨t, t', rfl⟩
  obtain ⟨t1, t2, rfl⟩ := two r
  obtain ⟨t3, t4, rfl⟩ := two r'
  exact richCompare_meets_room (op := .Lt) ⟨_, g, rfl⟩ ⟨_, g', rfl⟩ PySem.F.slot_tuple_lt PySem.F.entry_tuple_lt (PySem.F.args_tuple_lt_2 _ _) (tup_lt ad ad' a b c d t1 t2 t3 t4 n n')
    ⟨g, g', show Value.bool _ ≠ Value.notImplemented ∧ Q _ s from ⟨(fun x => nomatch x), q⟩⟩ m.uni⟩
end Mine
namespace Mine
open PySem PySem.Calls PyProof.Rows
variable {prog : Program} {w : World} {k : Nat} {M : List Addr} {env : Env} {h : Heap} {mg mb : Str → Option Value} {nm : List (Str × NameKind)} {W : List Addr} {σ : List (Str × Bd)}

theorem sub_ri_reversed : isSubtype (.type "range_iterator") (.type "reversed") = pure false := by rw [isSubtype_type]; kernel_rfl
theorem range_rev (r : Addr) (a b c : Int) (t u v : Tok) (hc0 : ¬(!(Builtin.Range.rangeFitsLong a && Builtin.Range.rangeFitsLong b && Builtin.Range.rangeFitsLong c && Builtin.Range.rangeFitsLong (-c) && Builtin.Range.rangeFitsLong (a - c) && Builtin.Range.rangeFitsLong (Builtin.Range.rangeSize a b c))) = true) :
    Meets (Builtin.«range.__reversed__» ⟨[.ref r], []⟩) (fun _ R s => s.heap.get? r = some { cls := .type "range", dict := none, data := .fields #[.int a t, .int b u, .int c v], slots := #[] } ∧ R (.ok (.ret (Value.ref s.heap.objs.size))) { s with heap := s.heap.push { cls := .type "range_iterator", data := .fields #[rawInt (a + (Builtin.Range.rangeSize a b c - 1) * c), rawInt (Builtin.Range.rangeSize a b c), rawInt (-c)] } }) :=
  .of_wp fun prog w A R s h => by
    obtain ⟨hp, g, d, tk, os⟩ := s; obtain ⟨hl, h⟩ := h
    have hc1 : (Builtin.Range.rangeFitsLong a && Builtin.Range.rangeFitsLong b && Builtin.Range.rangeFitsLong c && Builtin.Range.rangeFitsLong (-c) && Builtin.Range.rangeFitsLong (a - c) && Builtin.Range.rangeFitsLong (Builtin.Range.rangeSize a b c)) = true := by simpa using hc0
    wp_walk
    simp only [hc1, if_true]
    exact ⟨_, rfl, h⟩
section
variable {A : Around} {E : Value → Shared → Prop} {s : Shared}
theorem call_range_reversed {r : Addr} {n : Nat} {t u v : Tok} {Q : Value → Shared → Prop} (hr : IsRange s.heap r 0 (n : Int) 1 t u v) (hn : n ≤ 1000000)
    (hq : Q (.ref s.heap.objs.size) { s with heap := s.heap.push { cls := .type "range_iterator", data := .fields #[rawInt ((n : Int) - 1), rawInt (n : Int), rawInt (-1)] } }) : wpAny (model prog w) A (call (.builtin "range.__reversed__") [.ref r]) Q E s := by
  have hT : s.TypeIs (.ref r) "range" := ⟨_, hr, rfl⟩
  have e3 : Builtin.Range.rangeSize 0 (n : Int) 1 = (n : Int) := by rw [rangeSize_one 0 (n : Int)]; split <;> omega
  have sm : (Builtin.Range.rangeFitsLong 0 && Builtin.Range.rangeFitsLong (n : Int) && Builtin.Range.rangeFitsLong 1 && Builtin.Range.rangeFitsLong (-1) && Builtin.Range.rangeFitsLong (0 - 1) && Builtin.Range.rangeFitsLong (Builtin.Range.rangeSize 0 (n : Int) 1)) = true := by
    rw [e3]
    unfold Builtin.Range.rangeFitsLong
    simp
    omega
  refine call_meets PySem.F.slot_range_reversed hT PySem.F.entry_range_reversed (PySem.F.args_range_reversed_1 _) (range_rev r 0 n 1 t u v (by rw [sm]; decide)) ⟨hr, ?_⟩
  rw [e3, show (0 : Int) + ((n : Int) - 1) * 1 = (n : Int) - 1 by omega]
  exact hq
theorem rv_call (a : Value) : checkBuiltinCall "reversed.__new__" ⟨[.type "reversed", a], []⟩ = pure () := by kernel_rfl
theorem rv_entry : entryFor table "reversed.__new__" = some Builtin.«reversed.__new__» := entryFor_of_tree (by kernel_rfl)
theorem rv_plain : plainId "reversed.__new__" = true := by decide +kernel
theorem rv_self : isSubtype (.type "reversed") (.type "reversed") = pure true := by rw [isSubtype_type]; kernel_rfl
theorem rv_mro : mroOf (.type "reversed") = pure [.type "reversed", .type "object"] := by rw [mroOf_type]; kernel_rfl
theorem rv_look : typeLookup (.type "reversed") "__new__" = pure (some (.builtin "reversed.__new__")) := by rw [typeLookup_type, builtinLookup_eq_fast]; kernel_rfl
theorem rv_made : Bind.madeBy (.type "reversed") = pure (some "reversed.__new__") := madeBy_type rv_mro rv_look (by decide +kernel)
theorem rv_type (a : Value) : checkTypeCall "reversed" ⟨[a], []⟩ = pure () := by kernel_rfl
theorem rev_class (a : Value) : Builtin.SmallTypes.newClass "reversed" ⟨[.type "reversed", a], []⟩ = pure (.type "reversed", [a]) := by
  unfold Builtin.SmallTypes.newClass
  simp only [isType, rv_self, pure_bind, Bool.not_true, Bool.false_eq_true, if_false]
theorem call_reversed_range {r : Addr} {n : Nat} {t u v : Tok} {Q : Value → Shared → Prop} (hr : IsRange s.heap r 0 (n : Int) 1 t u v) (hn : n ≤ 1000000)
    (hq : Q (.ref s.heap.objs.size) { s with heap := s.heap.push { cls := .type "range_iterator", data := .fields #[rawInt ((n : Int) - 1), rawInt (n : Int), rawInt (-1)] } }) : wpAny (model prog w) A (call (.type "reversed") [.ref r]) Q E s := by
  have hT : ∀ {s' : Shared}, s'.heap = s.heap → s'.TypeIs (.ref r) "range" := fun {s'} e => ⟨_, by rw [e]; exact hr, rfl⟩
  have made : codeAny (model prog w) A.in1 (.call (.builtin "reversed.__new__") ⟨[.type "reversed", .ref r], []⟩) (wants (fun obj s₁ => obj = .ref s.heap.objs.size ∧ s₁ = { s with heap := s.heap.push { cls := .type "range_iterator", data := .fields #[rawInt ((n : Int) - 1), rawInt (n : Int), rawInt (-1)] } }) E) s := by
    refine codeAny_of_tree ?_
    show wpAny _ A.in1.in1 (do checkBuiltinCall "reversed.__new__" ⟨[.type "reversed", .ref r], []⟩; again (.builtin "reversed.__new__" ⟨[.type "reversed", .ref r], []⟩)) _ _ s
    refine wpAny_bind (wpAny_of_eq (rv_call _) (wpAny_pure ⟨plainId_quiet rv_plain _, codeAny_builtin rv_entry ?_⟩))
    rw [Around.under_plainId rv_plain _]
    unfold Builtin.«reversed.__new__»
    refine wpAny_bind (wpAny_of_eq (rev_class _) ?_)
    try dsimp only
    refine wpAny_bind (wpAny_of_eq (a := ()) (by first | rfl | kernel_rfl) ?_)
    refine wpAny_bind (wpAny_of_eq (a := ()) (by first | rfl | kernel_rfl) ?_)
    try dsimp only
    refine wpAny_bind (wpAny_specialOf (hT rfl) PySem.F.slot_range_reversed.lookup ?_)
    try dsimp only
    refine wpAny_bind (wpAny_of_eq (PySem.F.slot_range_reversed.bind _) ?_)
    try dsimp only
    first
    | rw [if_neg (show ¬ ((Value.builtin "range.__reversed__" == Value.none) = true) from Bool.false_ne_true)]
    | (show wpAny _ _ (if (Value.builtin "range.__reversed__" == Value.none) = true then _ else _) _ _ _; rw [if_neg (show ¬ ((Value.builtin "range.__reversed__" == Value.none) = true) from Bool.false_ne_true)])
    refine wpAny_bind (wpAny_rule ?_)
    refine wpAny_bind (m := runValue (.call (.builtin "range.__reversed__") ⟨[.ref r], []⟩)) (show wpAny _ _ (call (.builtin "range.__reversed__") [.ref r]) _ _ _ from call_range_reversed hr hn ?_)
    first
    | exact wpAny_pure ⟨rfl, rfl⟩
    | exact wpAny_bind (wpAny_pure (wpAny_pure ⟨rfl, rfl⟩))
  have h1 : (Value.type "reversed" == Value.type "type") = false := by decide +kernel
  have h2 : ((Manifest.find? "reversed").bind (·.mro.findSome? fun t => (Manifest.find? t).bind fun b => if b.noNew then some true else if b.attrs.any (·.1 == "__new__") then some false else none)).getD false = false := by decide +kernel
  have hmro := rv_mro
  have hmade := rv_made
  have hsub := sub_ri_reversed
  have hct := rv_type (.ref r)
  refine wpAny_call (codeAny_of_tree ?_)
  show wpAny _ _ (callAny (.type "reversed") _) _ _ _
  refine wpAny_pure ⟨Code.quiet_builtin _ (by decide +kernel), codeAny_builtin PySem.F.entry_type_call ?_⟩
  rw [Around.under_plain (weight_type_call_type "reversed" [.ref r] []) rfl]
  repeat (any_goals (first | assumption | wp_step))
  refine codeAny_mono made fun x s₁ hx => ?_
  cases x with
  | error e => exact hx
  | ok fl =>
    cases fl with
    | ret obj =>
      obtain ⟨rfl, rfl⟩ := hx
      have hU : ({ s with heap := s.heap.push { cls := .type "range_iterator", data := .fields #[rawInt ((n : Int) - 1), rawInt (n : Int), rawInt (-1)] } } : Shared).TypeIs (.ref s.heap.objs.size) "range_iterator" := ⟨_, Heap.get?_push_size _ rfl, rfl⟩
      repeat (any_goals (first | assumption | wp_step))
    | _ => exact hx.elim
end

def rrng (n : Nat) : List PyData := (List.range n).map fun (i : Nat) => .int ((n : Int) - 1 - (i : Int))
theorem rrng_at {n i : Nat} {d} (e : (rrng n)[i]? = some d) : i < n ∧ d = .int ((n : Int) - 1 - (i : Int)) := by
  unfold rrng at e
  rw [List.getElem?_map, Option.map_eq_some_iff] at e
  obtain ⟨j, e, rfl⟩ := e
  rw [List.getElem?_eq_some_iff] at e
  obtain ⟨h, e⟩ := e
  simp at h e
  subst e
  exact ⟨h, rfl⟩
theorem It.rrange {I : Addr} {n : Nat} {target : Expr} (ht : isTupE target = false) (hI : I ∉ M) : It prog w target M I (rrng n) [I] (fun i h => i ≤ n ∧ IsRangeIter h I ((n : Int) - 1 - i) ((n : Int) - i) (-1))
      (fun i v h => (i + 1 ≤ n ∧ IsRangeIter h I ((n : Int) - 1 - (i + 1 : Nat)) ((n : Int) - (i + 1 : Nat)) (-1)) ∧ ∃ t, v = .int ((n : Int) - 1 - i) t) := by
  refine { item := ?_, go := ?_, done := ?_, again := ?_, stab := ?_, its := ?_, itm := ?_ }
  · intro i d A s Q E hh hd j q
    obtain ⟨hi, rfl⟩ := rrng_at hd
    refine wpAny_pyNext_range_item j.2 (by omega) fun h' it' hs => ?_
    refine q _ h' _ ⟨⟨hi, ?_⟩, _, rfl⟩ (Eff.same hs)
    have e1 : (n : Int) - 1 - ((i + 1 : Nat) : Int) = (n : Int) - 1 - i + -1 := by omega
    have e2 : (n : Int) - ((i + 1 : Nat) : Int) = (n : Int) - i - 1 := by omega
    rw [e1, e2]; exact it'
  · intro i d A v s Q E hd j q
    obtain ⟨hi, rfl⟩ := rrng_at hd
    obtain ⟨t, rfl⟩ := j.2
    have fin : Q () s := q s.heap s.toks j.1 (TD.of (.int ..) fun z => by rw [ht] at z; cases z) (.refl _ _)
    exact wpAny_letOwnedTupleGo_fields j.1.2 rfl rfl (by decide) fin
  · intro i A s Q E hh hd j q
    refine wpAny_pyNext_range_end hh j.2 (by unfold rrng at hd; rw [List.getElem?_eq_none_iff] at hd; simp at hd; omega) fun h' he => q h' s.toks (Eff.ext he)
  · intro i A s Q E j q
    exact wpAny_pyIter_rangeiter j.2 q
  · intro i h h' j kk
    exact ⟨j.1, kk I _ j.2 hI (fun es n z => by cases z) (fun v z => by cases z)⟩
  · intro i h j a m
    rw [List.mem_singleton.mp m]; exact ⟨_, _, j.2, rfl⟩
  · intro i v h j a m
    rw [List.mem_singleton.mp m]; exact ⟨_, _, j.1.2, rfl⟩

theorem sr_rrange {e target : Expr} {x y : Str} {p pos p' pos' : Pos} {n : Nat} (H : EN mg mb env nm W σ M h) (i : nm.lookup x = some .globalImplicit) (hg : mg x = none) (hb : mb x = some (.type "range")) (hd : (x == ("__debug__" : Str)) = false)
    (i' : nm.lookup y = some .globalImplicit) (hg' : mg y = none) (hb' : mb y = some (.type "reversed")) (hd' : (y == ("__debug__" : Str)) = false)
    (a : EV prog w k M env h e (.int (n : Int))) (hn : n ≤ 1000000) (ht : isTupE target = false) (he : ∀ rest, starEach (e :: rest) env = (false, eval e env) :: starEach rest env) : SR prog w k M env h (.Call (.Name y p') [.Call (.Name x p) [e] [] pos] [] pos') target (rrng n) := ⟨fun {A s Q E} m t q => by
  refine Call_ (H.blt t i' hg' hb' hd' ?_) rfl
  refine PyProof.Rows.callWith_type1 (wpAny_items_cons ?_ rfl) rfl rfl
  refine Call_ (H.blt t i hg hb hd ?_) rfl
  refine PyProof.Rows.callWith_type1 (wpAny_items_cons (a.run m t fun v h₁ t₁ s₁ r₁ => wpAny_items_nil ?_) (he _)) (he _) rfl
  obtain ⟨tk, rfl⟩ := r₁.intVal
  refine call_range_1 (wpAny_items_nil ?_)
  have mk := H.mok.stay (t.trans s₁)
  have s2 := Stay.push h₁ { cls := .type "range", data := .fields #[.int 0 t₁, .int n tk, .int 1 (t₁ + 1)] }
  refine call_reversed_range (s := ⟨_, s.gens, s.drawn, _, s.os⟩) (IsRange.new h₁ 0 n 1 t₁ tk (t₁ + 1)) hn ?_
  refine wpAny_pyIter_rangeiter (x := (n : Int) - 1) (left := (n : Int)) (step := -1) (Heap.get?_push_size _ rfl) ?_
  refine q _ _ _ _ (fun M' hM => ⟨_, _, It.rrange (n := n) ht (notM hM (Heap.get?_push_size _ rfl) (mk.stay s2).fresh), ?_⟩) (s₁.trans (s2.trans (Stay.push _ _))) ?_
  · refine ⟨Nat.zero_le _, ?_⟩
    have e1 : (n : Int) - 1 - ((0 : Nat) : Int) = (n : Int) - 1 := by omega
    have e2 : (n : Int) - ((0 : Nat) : Int) = (n : Int) := by omega
    rw [e1, e2]
    exact Heap.get?_push_size _ rfl
  · intro a ha; rw [List.mem_singleton.mp ha]; exact (s₁.trans s2).freshAt⟩
end Mine
namespace Mine
open PySem PySem.Calls PyProof.Rows
variable {prog : Program} {w : World} {k : Nat} {M : List Addr} {h : Heap} {C : Cx} {org : Heap} {σ : List (Str × Bd)} {μ : List (Addr × List PyData)}

/-- a list that is changed, by whatever code, has new items -/
theorem FS.upd {a : Addr} {ds ds' : List PyData} {h' : Heap} (F : FS C org σ M ((a, ds) :: μ) h) (old : ∀ b o, b ≠ a → h.get? b = some o → h'.get? b = some o) (ac : Acc M a ds' h') :
    FS C org σ M ((a, ds') :: μ) h' := by
  obtain ⟨am, _, hv, ht⟩ := F.mu _ (.head _)
  obtain ⟨vs', ⟨n', ge⟩, ra'⟩ := id ac
  have old : ∀ b o, h.get? b = some o → b ≠ a → h'.get? b = some o := fun b o g ne => old b o ne g
  have grow : ∀ {us ys}, RdAll M h us ys → RdAll M h' us ys := fun {us ys} x => x.move fun b o vs n m e _ => ⟨old b o e (fun z => m (z ▸ am)), m⟩
  have sm : Seqs M h' := fun b m => by
    by_cases z : b = a
    · subst z; exact ⟨_, _, _, ge, rfl⟩
    · obtain ⟨o, us, k, g, d⟩ := F.sm b m; exact ⟨o, us, k, old b o g z, d⟩
  exact {
    en := F.en.move F.sm (fun b m => let ⟨o, _, _, g, _⟩ := sm b m; ⟨o, g⟩) fun b o g m _ => old b o g (fun z => m (z ▸ am))
    sm := sm
    tp := fun b o g => old b o (F.tp b o g) (fun z => by rw [z, ht] at g; cases g)
    ef := fun b o m g => old b o (F.ef b o m g) (fun z => by
      rcases hv with hv | hv
      · exact m (z ▸ hv)
      · rw [z, hv] at g; cases g)
    vx := fun b m => by
      by_cases z : b = a
      · subst z; exact ⟨_, _, _, ge, rfl⟩
      · obtain ⟨o, us, j, g, d⟩ := F.vx b m; exact ⟨o, us, j, old b o g z, d⟩
    wb := F.wb
    og := fun b o g m n1 n2 => old b o (F.og b o g m n1 n2) (fun z => m (z ▸ am))
    ox := fun b o g => by
      by_cases z : b = a
      · subst z; exact ⟨_, ge⟩
      · obtain ⟨o', g'⟩ := F.ox b o g; exact ⟨o', old b o' g' z⟩
    mu := fun p m => by
      rcases List.mem_cons.mp m with rfl | m
      · exact ⟨am, ac, hv, ht⟩
      · obtain ⟨x, ⟨us, ⟨j, g⟩, rr⟩, y⟩ := F.mu p (.tail _ m)
        have ne : p.1 ≠ a := fun z => by
          have := F.nd
          rw [List.map_cons, List.nodup_cons] at this
          exact this.1 (List.mem_map.mpr ⟨p, m, z⟩)
        exact ⟨x, ⟨us, ⟨j, old _ _ g ne⟩, grow rr⟩, y⟩
    nd := F.nd }

/-- a def that changes the list that is its first argument -/
structure PM (prog : Program) (w : World) (k : Nat) (top : Heap) (fa : Addr) (pre : List PyData → List PyData → Prop) (spec : List PyData → List PyData → List PyData → PyData → Prop) : Prop where
  run : ∀ {A : Around} {h : Heap} {g : Array GenState} {dr : Drawn} {tk : Nat} {os : OsState} {Q : Value → Shared → Prop} {E : Value → Shared → Prop} {M : List Addr} {a : Addr} {vs : List Value} {ds args : List PyData},
    Rm k A → Stay top h → MOk M h → Seqs M h → a ∈ M → Acc M a ds h → top.get? a = none → RdAll M h vs args → pre ds args →
    (∀ v h' tk' ds' d, spec ds args ds' d → (∀ b o, b ≠ a → h.get? b = some o → h'.get? b = some o) → Acc M a ds' h' → Rd M h' v d → Q v ⟨h', g, dr, tk', os⟩) → wpAny (model prog w) A (call (.ref fa) (.ref a :: vs)) Q E ⟨h, g, dr, tk, os⟩

theorem PM.intro {name : Str} {params : Arguments} {body : List Stmt} {scope : Scope} {fa : Addr} {top : Heap} {mg mb : Str → Option Value} {pre : List PyData → List PyData → Prop} {spec : List PyData → List PyData → List PyData → PyData → Prop} (x : Str) (ns : List Str)
    (f : Fn top mg name params body scope fa) (T : GT top mg mb) (hok : defOk scope (x :: ns) = true)
    (hbind : ∀ vs : List Value, vs.length = (x :: ns).length → ∀ pm cd doc, PySem.bindArgs (docDef name params body scope pm cd doc) ⟨vs, []⟩ = pure ((x :: ns).zip vs))
    (q : ∀ ds args, pre ds args → ∃ σ, Pars ns args σ ∧ ∀ {M : List Addr} {a : Addr} {h₀ h₁ : Heap} {L : Addr} {cd : Value} {W : List Addr} {A : Around} {g : Array GenState} {dr : Drawn} {tk : Nat} {os : OsState} {Q : Value → Shared → Prop}, Rm k A → Stay top h₀ →
      FS ⟨top, h₀, [a], mg, mb, envOfC name scope L fa cd, scope.names, W⟩ h₀ ((x, .r (.ref a)) :: σ) M [(a, ds)] h₁ → MOk M h₀ →
      (∀ v σ' h' tk' ds' d, FS ⟨top, h₀, [a], mg, mb, envOfC name scope L fa cd, scope.names, W⟩ h₀ σ' M [(a, ds')] h' → spec ds args ds' d → Rd M h' v d → Q v ⟨h', g, dr, tk', os⟩) →
      wpAny (model prog w) A (execs body (envOfC name scope L fa cd)) (fun f s' => Q (match f with | .ret v => v | _ => .none) s') (fun _ _ => False) ⟨h₁, g, dr, tk, os⟩) : PM prog w (k + 1) top fa pre spec := ⟨by
  intro A h g dr tk os Q E M a vs ds args m tp mok sm am ac ta rd sp q'
  obtain ⟨σ, ps, body'⟩ := q ds args sp
  obtain ⟨par, hn⟩ := pars_par ps rd
  have hl : vs.length = ns.length := by
    rw [rd.length]; exact pars_len ps
  refine def_call (σ := (x, .r (.ref a)) :: σ) (binds := (x :: ns).zip (.ref a :: vs)) (μ := [(a, ds)]) (V := [a]) f T tp m mok sm (.cons (b := .r _) rfl par) (fun p m => ?_) ?_ (fun b m => ?_) (hbind _ (by simp [hl])) ?_ hok fun L cd W h₁ tk₁ A' m' F => ?_
  · rw [List.mem_singleton.mp m]; exact ⟨am, ac, .head _, ta⟩
  · simp
  · rw [List.mem_singleton.mp m]; exact am
  · rw [List.zip_cons_cons, List.map_cons, hn]
  · refine body' m' tp F mok fun v σ' h' tk' ds' d F' sp' r => q' v h' tk' ds' d sp' (fun b o ne e => F'.ef b o (by simpa using ne) e) (F'.mu _ (.head _)).2.1 r⟩

section
variable {A : Around} {g : Array GenState} {dr : Drawn} {tk : Nat} {os : OsState} {E : Value → Shared → Prop}

/-- the call of such a def, as a value -/
theorem call_mut {x name : Str} {np p pos : Pos} {rest : List Expr} {args : List PyData} {fa : Addr} {params : Arguments} {body : List Stmt} {scope : Scope} {pre : List PyData → List PyData → Prop} {spec : List PyData → List PyData → List PyData → PyData → Prop} {j : Nat} {a : Addr} {ds : List PyData} {Q : Value → Shared → Prop}
    (F : FS C org σ M ((a, ds) :: μ) h) (m : Rm k A) (f : Fn C.top C.mg name params body scope fa) (P : PM prog w j C.top fa pre spec) (hj : j ≤ k) (i : C.nm.lookup name = some .globalImplicit) (hd : (name == ("__debug__" : Str)) = false)
    (hx : isLoc (C.nm.lookup x) = true) (l : σ.lookup x = some (.r (.ref a))) (hdx : ((x == ("__debug__" : Str)) || (x == ("__classdict__" : Str))) = false)
    (ev : EVs prog w k M C.env h rest args) (sp : pre ds args)
    (q : ∀ v h' tk' ds' d, spec ds args ds' d → FS C org σ M ((a, ds') :: μ) h' → Rd M h' v d → Q v ⟨h', g, dr, tk', os⟩) :
    wpAny (model prog w) A (eval (.Call (.Name name p) (.Name x np :: rest) [] pos) C.env) Q E ⟨h, g, dr, tk, os⟩ := by
  obtain ⟨o, pm, cd, doc, ho, hdat, _⟩ := f.ob
  obtain ⟨h1, h2⟩ := Bool.or_eq_false_iff.mp hdx
  refine Call_ (Name_function_global F.en.fn (F.en.glb name i) (loadGlobal_global (mg := C.mg) (by rw [F.en.gl]; exact F.en.g) f.glob ?_) hd) rfl
  refine callWith_def (o := o) hdat (wpAny_items_cons ((F.raw hx l).load (s := ⟨h, g, dr, tk, os⟩) F.en.fn h1 h2 (ev.run (s := ⟨h, g, dr, tk, os⟩) m (.refl _) fun vs h₁ t₁ s₁ r₁ => ⟨s₁ _ _ (F.tp _ _ ho), ?_⟩)) rfl) rfl
  have F₁ := F.stay s₁
  obtain ⟨am, ac, hv, ht⟩ := F₁.mu _ (.head _)
  exact P.run (m.mono hj) F₁.tp F₁.en.mok F₁.sm am ac ht r₁ sp fun v h' tk' ds' d sp' old ac' r => q v h' tk' ds' d sp' (F₁.upd old ac') r

/-- such a call as a statement -/
theorem s_mut {x name : Str} {np p pos spos : Pos} {rest : List Expr} {args : List PyData} {fa : Addr} {params : Arguments} {body : List Stmt} {scope : Scope} {pre : List PyData → List PyData → Prop} {spec : List PyData → List PyData → List PyData → PyData → Prop} {j : Nat} {a : Addr} {ds : List PyData} {Q : Flow → Shared → Prop}
    (F : FS C org σ M ((a, ds) :: μ) h) (m : Rm k A) (f : Fn C.top C.mg name params body scope fa) (P : PM prog w j C.top fa pre spec) (hj : j ≤ k) (i : C.nm.lookup name = some .globalImplicit) (hd : (name == ("__debug__" : Str)) = false)
    (hx : isLoc (C.nm.lookup x) = true) (l : σ.lookup x = some (.r (.ref a))) (hdx : ((x == ("__debug__" : Str)) || (x == ("__classdict__" : Str))) = false)
    (ev : EVs prog w k M C.env h rest args) (sp : pre ds args) (hi : interactive C.env = false) (hs : swapsWith (.Call (.Name name p) (.Name x np :: rest) [] pos) none spos.line C.env = pure false) (hn : ∀ ds' d, spec ds args ds' d → d = .none)
    (q : ∀ h' tk' ds', spec ds args ds' .none → FS C org σ M ((a, ds') :: μ) h' → Q .next ⟨h', g, dr, tk', os⟩) :
    wpAny (model prog w) A (exec (.Expr (.Call (.Name name p) (.Name x np :: rest) [] pos) spos) C.env) Q E ⟨h, g, dr, tk, os⟩ :=
  wpAny_Expr (call_mut F m f P hj i hd hx l hdx ev sp fun v h' tk' ds' d sp' F' r => by
    have := hn _ _ sp'; subst this
    cases r with | none => exact q h' tk' ds' sp' F') hi hs

/-- y = (a value whose making changes the list) -/
theorem s_assignX {y : Str} {p pos : Pos} {value : Expr} {Q : Flow → Shared → Prop} (F : FS C org σ M μ h) (R : List (Addr × List PyData) → PyData → Prop) (hy : (C.nm.lookup y == some .local || C.nm.lookup y == some .cell) = true)
    (hs : swapsWith value (some (.Name y p)) pos.line C.env = pure false)
    (ex : ∀ Q' : Value → Shared → Prop, (∀ v h' tk' μ' d, R μ' d → FS C org σ M μ' h' → Rd M h' v d → Q' v ⟨h', g, dr, tk', os⟩) → wpAny (model prog w) A (eval value C.env) Q' E ⟨h, g, dr, tk, os⟩)
    (q : ∀ h' tk' μ' d, R μ' d → FS C org ((y, .d d) :: σ) M μ' h' → Q .next ⟨h', g, dr, tk', os⟩) : wpAny (model prog w) A (exec (.Assign [.Name y p] value pos) C.env) Q E ⟨h, g, dr, tk, os⟩ := by
  refine wpAny_Assign_Name (ex _ fun v h₁ t₁ μ' d rr F₁ r₁ => ?_) hs
  exact F₁.en.store (s := ⟨h₁, g, dr, t₁, os⟩) (b := .d d) (by simpa using hy) r₁ fun h₂ t₂ H₂ e₂ m₂ => q h₂ t₂ μ' d rr (F₁.chg H₂ ⟨e₂, m₂⟩)

/-- x.pop() -/
theorem call_pop {x : Str} {np ap pos : Pos} {a : Addr} {ds : List PyData} {d : PyData} {Q : Value → Shared → Prop} (F : FS C org σ M ((a, ds ++ [d]) :: μ) h) (hx : isLoc (C.nm.lookup x) = true) (l : σ.lookup x = some (.r (.ref a)))
    (hdx : ((x == ("__debug__" : Str)) || (x == ("__classdict__" : Str))) = false) (hline : (ap.endLine == pos.line) = true) (hn : ds.length ≤ 100000)
    (q : ∀ v h' tk', FS C org σ M ((a, ds) :: μ) h' → Rd M h' v d → Q v ⟨h', g, dr, tk', os⟩) :
    wpAny (model prog w) A (eval (.Call (.Attribute (.Name x np) "pop" ap) [] [] pos) C.env) Q E ⟨h, g, dr, tk, os⟩ := by
  obtain ⟨h1, h2⟩ := Bool.or_eq_false_iff.mp hdx
  obtain ⟨vs, n, ge, ra⟩ := F.plain (.head _)
  have e1 := ra.length
  simp at e1
  refine Call_method0 rfl hline ((F.raw hx l).load (s := ⟨h, g, dr, tk, os⟩) F.en.fn h1 h2 ⟨"list", "list.pop", PySem.F.plainAttrs_list, PySem.F.slot_list_pop, PySem.F.type_list_pop, ⟨_, ge, rfl⟩, fun b hb => ?_, ?_⟩)
  · cases hb; exact ⟨_, ge, rfl⟩
  · obtain ⟨v, hv, rv⟩ := ra.at (i := ds.length) (d := d) (by simp)
    have e2 : vs.size - 1 = ds.length := by omega
    refine PySem.P.pop_list (items := vs) (y := v) ge (by rw [e2]; simpa using hv) ?_ (small_line (by omega))
    have F' := F.mutate (ds' := ds) (f := fun xs => xs.eraseIdxIfInBounds (vs.size - 1)) fun us j gu ru => by
      have : us = vs := by rw [ge] at gu; injection gu with gu; injection gu with _ _ gu _; injection gu with gu _; exact gu.symm
      subst this
      have h3 : (us.eraseIdxIfInBounds (us.size - 1)).toList = us.toList.take ds.length := by
        unfold Array.eraseIdxIfInBounds
        rw [dif_pos (by omega)]
        rw [Array.toList_eraseIdx, List.eraseIdx_eq_take_drop_succ, e2]
        have : us.toList.drop (ds.length + 1) = [] := List.drop_eq_nil_of_le (by simp; omega)
        rw [this, List.append_nil]
      rw [h3]
      have := ru.take ds.length
      simpa using this
    refine q _ _ _ F' ?_
    obtain ⟨am, _, _, _⟩ := F.mu _ (.head _)
    exact rv.move fun b o us n m e _ => ⟨by
      have hs : Heap.SameBut a h (h.update a (Obj.mapSeq fun xs => xs.eraseIdxIfInBounds (vs.size - 1))) := Heap.SameBut.update ..
      exact hs.extBut b o (fun z => m (z ▸ am)) e, m⟩
end

/-- reading a list that is changed -/
theorem ev_raw {x : Str} {np : Pos} {a : Addr} {ds : List PyData} (F : FS C org σ M μ h) (hx : isLoc (C.nm.lookup x) = true) (l : σ.lookup x = some (.r (.ref a))) (mm : (a, ds) ∈ μ)
    (hdx : ((x == ("__debug__" : Str)) || (x == ("__classdict__" : Str))) = false) : EV prog w k [] C.env h (.Name x np) (.list ds) :=
  ⟨fun {A s Q E} m t q => by
    obtain ⟨z1, z2⟩ := Bool.or_eq_false_iff.mp hdx
    exact ((F.raw hx l).stay t).load F.en.fn z1 z2 (q _ s.heap s.toks (.refl _) ((F.stay t).mu _ mm).2.1.rd)⟩
theorem EV.intM {env : Env} {e : Expr} {i : Int} {M' : List Addr} (x : EV prog w k M' env h e (.int i)) : EV prog w k M env h e (.int i) := ⟨fun m t q => x.run m t fun v h' tk s r => by
  obtain ⟨t', rfl⟩ := r.intVal; exact q _ h' tk s (.int ..)⟩
theorem ev_litem {x : Str} {np pos : Pos} {slice : Expr} {a : Addr} {ds : List PyData} {i : Int} {d : PyData} (F : FS C org σ M μ h) (hx : isLoc (C.nm.lookup x) = true) (l : σ.lookup x = some (.r (.ref a))) (mm : (a, ds) ∈ μ)
    (hdx : ((x == ("__debug__" : Str)) || (x == ("__classdict__" : Str))) = false) (b : EV prog w k M C.env h slice (.int i)) (h0 : 0 ≤ i) (h1 : i < 2 ^ 63) (hd : ds[i.toNat]? = some d)
    (hs : ∀ o j, subscripted slice false o j = operate [o, j] (getItem o j) := by intro _ _; rfl) : EV prog w k M C.env h (.Subscript (.Name x np) slice pos) d :=
  ⟨fun {A s Q E} m t q => by
    obtain ⟨z1, z2⟩ := Bool.or_eq_false_iff.mp hdx
    refine Subscript_ (((F.raw hx l).stay t).load F.en.fn z1 z2 (b.run m t fun v h₂ t₂ s₂ r₂ => ?_))
    obtain ⟨tk, rfl⟩ := r₂.intVal
    obtain ⟨vs, n, g, r⟩ := ((F.stay t).stay s₂).plain mm
    obtain ⟨v, hv, rv⟩ := r.at hd
    have hl : h₂.IsList a vs := ⟨_, g, rfl, _, rfl⟩
    exact tail_any (s := ⟨h₂, s.gens, s.drawn, t₂, s.os⟩) hl.typeIs slot_list_getitem.lookup (wpAny_getItem_list hl h0 h1 (by simpa using hv) (q v h₂ t₂ s₂ rv)) (hs _ _)⟩

section
variable {A : Around} {g : Array GenState} {dr : Drawn} {tk : Nat} {os : OsState} {E : Value → Shared → Prop} {Q : Flow → Shared → Prop}
/-- an if whose branches meet again -/
theorem x_if {pos : Pos} {test : Expr} {body orelse rest : List Stmt} {b : Bool} (R : List (Str × Bd) → List (Addr × List PyData) → Prop) (F : FS C org σ M μ h) (m : Rm k A) (t : TV prog w k C.env h test b)
    (q1 : b = true → ∀ h' tk', FS C org σ M μ h' → wpAny (model prog w) A (execs body C.env) (fun f s' => match f with | .next => ∃ σ' μ' h' tk', s' = ⟨h', g, dr, tk', os⟩ ∧ FS C org σ' M μ' h' ∧ R σ' μ' | f => Q f s') E ⟨h', g, dr, tk', os⟩)
    (q2 : b = false → ∀ h' tk', FS C org σ M μ h' → wpAny (model prog w) A (execs orelse C.env) (fun f s' => match f with | .next => ∃ σ' μ' h' tk', s' = ⟨h', g, dr, tk', os⟩ ∧ FS C org σ' M μ' h' ∧ R σ' μ' | f => Q f s') E ⟨h', g, dr, tk', os⟩)
    (kk : ∀ σ' μ' h' tk', R σ' μ' → FS C org σ' M μ' h' → wpAny (model prog w) A (execs rest C.env) Q E ⟨h', g, dr, tk', os⟩) :
    wpAny (model prog w) A (execs (.If test body orelse pos :: rest) C.env) Q E ⟨h, g, dr, tk, os⟩ := by
  have go : ∀ (f : Flow) (s' : Shared), (match f with | .next => ∃ σ' μ' h' tk', s' = ⟨h', g, dr, tk', os⟩ ∧ FS C org σ' M μ' h' ∧ R σ' μ' | f => Q f s') → (match f with | .next => wpAny (model prog w) A (execs rest C.env) Q E s' | f => Q f s') := by
    intro f s' hf
    cases f with
    | next => obtain ⟨σ', μ', h', tk', rfl, F', r⟩ := hf; exact kk σ' μ' h' tk' r F'
    | _ => exact hf
  exact x_seq (s_if F m t (fun e h' tk' _ F' => wpAny_mono (q1 e h' tk' F') go fun _ _ e => e) fun e h' tk' _ F' => wpAny_mono (q2 e h' tk' F') go fun _ _ e => e)
end
end Mine
namespace Mine
open PySem PySem.Calls PyProof.Rows
variable {prog : Program} {w : World} {k : Nat} {M : List Addr} {h : Heap} {C : Cx} {org : Heap} {σ : List (Str × Bd)} {μ : List (Addr × List PyData)}

theorem FS.perm {μ'} (F : FS C org σ M μ h) (p : μ'.Perm μ) : FS C org σ M μ' h := F.sub (fun x m => p.mem_iff.mp m) ((p.map _).nodup_iff.mpr F.nd)

theorem Bd.ok.shrink {D : Addr} {v : Value} : ∀ {b : Bd}, b.ok (D :: M) h v → b.ok M h v
  | .d _, x => Rd.move (M := D :: M) (M' := M) (fun b o vs n m e _ => ⟨e, fun z => m (.tail _ z)⟩) x
  | .r _, x => x
theorem EN.shrink {mg mb env nm W} {D : Addr} (H : EN mg mb env nm W σ (D :: M) h) : EN mg mb env nm W σ M h :=
  { H with
    loc := fun x b i l => let ⟨v, n, o⟩ := H.loc x b i l; ⟨v, n, o.shrink⟩
    mok := fun a m => H.mok a (.tail _ m) }

section
variable {A : Around} {g : Array GenState} {dr : Drawn} {tk : Nat} {os : OsState} {E : Value → Shared → Prop} {Q : Flow → Shared → Prop}

/-- y = [.. for ..], read as data -/
theorem s_comp {elt : Expr} {gens : List Comprehension} {scope : Scope} {pos py spos : Pos} {y : Str} {target iter : Expr} {ifs : List Expr} {ds : List PyData} (outs : PyData → List PyData) (F : FS C org σ M μ h) (m : Rm k A)
    (sr : SR prog w k M C.env h iter target ds)
    (ci : ∀ cenv W' D, (∀ a ∈ W', h.get? a = none) → h.get? D = none → ∀ d ∈ ds, CI prog w k M h C.mg C.mb cenv scope.names W' D elt gens scope pos 0 σ target ifs d (outs d))
    (hl : (ds.flatMap outs).length ≤ 1000000) (hy : C.nm.lookup y = some .local)
    (hsw : swapsWith (.ListComp elt gens scope pos) (some (.Name y py)) spos.line C.env = pure true)
    (hown : ∀ x ∈ scope.names, x.2 = .local ∨ x.2 = .cell → σ.lookup x.1 = none)
    (q : ∀ h' tk', FS C org ((y, .d (.list (ds.flatMap outs))) :: σ) M μ h' → Q .next ⟨h', g, dr, tk', os⟩)
    (hg : gens[0]? = some ⟨target, iter, ifs, 0⟩ := by rfl) (hkind : scope.kind = .function := by rfl)
    (hnd : (scope.names.map (·.1)).Nodup := by decide +kernel)
    (hfree : (scope.names.all fun x => x.2 != .free || C.nm.lookup x.1 == some .cell || C.nm.lookup x.1 == some .free) = true := by decide +kernel)
    (hs : ∀ x, foldedSetIterable iter C.env x = pure x := by intro _; rfl) : wpAny (model prog w) A (exec (.Assign [.Name y py] (.ListComp elt gens scope pos) spos) C.env) Q E ⟨h, g, dr, tk, os⟩ :=
  st_comp0 (s := ⟨h, g, dr, tk, os⟩) outs m F.en F.sm sr ci hl hy hsw hown (fun D h₂ st rd ac hD => ⟨M, .d (.list (ds.flatMap outs)), F.en.stay st, (F.stay st).sm, rd, fun h' tk' H c sq => q h' tk' (F.chg H c)⟩) hg hkind hnd hfree hs

/-- y = [.. for ..], a list that will be changed -/
theorem s_rawcomp {elt : Expr} {gens : List Comprehension} {scope : Scope} {pos py spos : Pos} {y : Str} {target iter : Expr} {ifs : List Expr} {ds : List PyData} (outs : PyData → List PyData) (F : FS C org σ M μ h) (m : Rm k A)
    (sr : SR prog w k M C.env h iter target ds)
    (ci : ∀ cenv W' D, (∀ a ∈ W', h.get? a = none) → h.get? D = none → ∀ d ∈ ds, CI prog w k M h C.mg C.mb cenv scope.names W' D elt gens scope pos 0 σ target ifs d (outs d))
    (hl : (ds.flatMap outs).length ≤ 1000000) (hy : C.nm.lookup y = some .local)
    (hsw : swapsWith (.ListComp elt gens scope pos) (some (.Name y py)) spos.line C.env = pure true)
    (hown : ∀ x ∈ scope.names, x.2 = .local ∨ x.2 = .cell → σ.lookup x.1 = none) (hV : C.V = [])
    (q : ∀ a h' tk', h.get? a = none → org.get? a = none → FS C org ((y, .r (.ref a)) :: σ) (a :: M) ((a, ds.flatMap outs) :: μ) h' → Q .next ⟨h', g, dr, tk', os⟩)
    (hg : gens[0]? = some ⟨target, iter, ifs, 0⟩ := by rfl) (hkind : scope.kind = .function := by rfl)
    (hnd : (scope.names.map (·.1)).Nodup := by decide +kernel)
    (hfree : (scope.names.all fun x => x.2 != .free || C.nm.lookup x.1 == some .cell || C.nm.lookup x.1 == some .free) = true := by decide +kernel)
    (hs : ∀ x, foldedSetIterable iter C.env x = pure x := by intro _; rfl) : wpAny (model prog w) A (exec (.Assign [.Name y py] (.ListComp elt gens scope pos) spos) C.env) Q E ⟨h, g, dr, tk, os⟩ :=
  st_comp0 (s := ⟨h, g, dr, tk, os⟩) outs m F.en F.sm sr ci hl hy hsw hown (fun D h₂ st rd ac hD => by
    have F₂ := F.addlist hV hD st ac
    refine ⟨D :: M, .r (.ref D), F₂.en, F₂.sm, rfl, fun h' tk' H c sq => ?_⟩
    obtain ⟨f1, f2, f3⟩ := F.fresh hV hD
    have F' := F.chg H.shrink c
    refine q D h' tk' hD f3 {
      en := H
      sm := F₂.sm.move sq
      tp := F'.tp
      ef := F'.ef
      vx := F'.vx
      wb := F'.wb
      og := fun a o e m n1 n2 => F'.og a o e (fun z => m (.tail _ z)) n1 n2
      ox := F'.ox
      mu := fun p m => let ⟨a, b, c, d⟩ := F₂.mu p m; ⟨a, b.move sq, c, d⟩
      nd := F₂.nd }) hg hkind hnd hfree hs
end
end Mine
namespace Mine

abbrev NN := List (List Nat)
def row (W : NN) (k : Nat) : List Nat := W.getD k []
structure Good (W L : NN) : Prop where
  wl : W.length = 3
  ll : L.length = 3
  wn : ∀ k, k < 3 → (row W k).Nodup
  wb : ∀ k, k < 3 → ∀ t ∈ row W k, t < 3
  wz : ∀ k, k < 3 → (row W k).length ≤ 3
  lm : ∀ t, t < 3 → ∀ a, a < 3 → a ∈ row L t
  lz : ∀ t, t < 3 → (row L t).length ≤ 3

structure Stable (W L : NN) (w : Nat → Nat) : Prop where
  s1 : ∀ a, a < 3 → w a < 3 → w a ∈ row W a
  s2 : ∀ a b, a < 3 → b < 3 → w a = w b → w a < 3 → a = b
  s3 : ∀ a, a < 3 → ∀ t ∈ row W a, (row W a).idxOf t < (row W a).idxOf (w a) → ∃ b, b < 3 ∧ w b = t ∧ (row L t).idxOf b < (row L t).idxOf a
  s4 : ∀ a, a < 3 → w a ≤ 3

structure Inv (W L : NN) (hp pos hold : List Nat) : Prop where
  pl : pos.length = 3
  hl : hold.length = 3
  hb : ∀ a ∈ hp, a < 3
  hn : hp.Nodup
  pb : ∀ a, a < 3 → pos.getD a 0 ≤ (row W a).length
  ob : ∀ t, t < 3 → hold.getD t 0 ≤ 3
  i1 : ∀ a, a < 3 → a ∉ hp → (∃ t, t < 3 ∧ hold.getD t 0 = a) ∨ pos.getD a 0 = (row W a).length
  i2 : ∀ t, t < 3 → hold.getD t 0 < 3 → hold.getD t 0 ∉ hp ∧ 0 < pos.getD (hold.getD t 0) 0 ∧ (row W (hold.getD t 0))[pos.getD (hold.getD t 0) 0 - 1]? = some t
  i3 : ∀ a, a < 3 → ∀ i t, i < pos.getD a 0 → (row W a)[i]? = some t → hold.getD t 0 < 3 ∧ (row L t).idxOf (hold.getD t 0) ≤ (row L t).idxOf a
  i4 : ∀ w, Stable W L w → ∀ a, a < 3 → ∀ i t, i < pos.getD a 0 → (row W a)[i]? = some t → hold.getD t 0 ≠ a → w a ≠ t

theorem getD_set {l : List Nat} {i j x : Nat} (h : i < l.length) : (l.set i x).getD j 0 = if i = j then x else l.getD j 0 := by
  simp only [List.getD_eq_getElem?_getD, List.getElem?_set]
  split
  · simp_all
  · rfl

theorem idx_at {l : List Nat} (hn : l.Nodup) {i t : Nat} (h : l[i]? = some t) : l.idxOf t = i := by
  obtain ⟨hi, e⟩ := List.getElem?_eq_some_iff.mp h
  subst e
  exact hn.idxOf_getElem _ _
theorem at_idx {l : List Nat} {t : Nat} (h : t ∈ l) : l[l.idxOf t]? = some t := by
  have hi := List.idxOf_lt_length_iff.mpr h
  rw [List.getElem?_eq_getElem hi, List.getElem_idxOf hi]

variable {W L : NN} {hp pos hold : List Nat}
theorem Inv.perm {hp'} (I : Inv W L hp pos hold) (p : hp'.Perm hp) : Inv W L hp' pos hold :=
  { I with
    hb := fun a m => I.hb a (p.mem_iff.mp m)
    hn := p.nodup_iff.mpr I.hn
    i1 := fun a ha m => I.i1 a ha fun z => m (p.mem_iff.mpr z)
    i2 := fun t ht h => let ⟨x, y⟩ := I.i2 t ht h; ⟨fun z => x (p.mem_iff.mp z), y⟩ }
theorem Inv.done {a : Nat} (I : Inv W L (a :: hp) pos hold) (h : (row W a).length ≤ pos.getD a 0) : Inv W L hp pos hold :=
  { I with
    hb := fun b m => I.hb b (.tail _ m)
    hn := (List.nodup_cons.mp I.hn).2
    i1 := fun b hb m => by
      by_cases z : b = a
      · subst z; exact .inr (Nat.le_antisymm (I.pb _ hb) h)
      · exact I.i1 b hb fun y => by
          rcases List.mem_cons.mp y with y | y
          · exact z y
          · exact m y
    i2 := fun t ht hh => let ⟨x, y⟩ := I.i2 t ht hh; ⟨fun z => x (.tail _ z), y⟩ }

/-- the winner at t turns away every other asker: no stable way gives it t -/
theorem turned {a b t i : Nat} (G : Good W L) {w} (S : Stable W L w) (ha : a < 3) (hb : b < 3) (hne : a ≠ b) (hi : (row W a)[i]? = some t)
    (early : ∀ j u, j < i → (row W a)[j]? = some u → w a ≠ u) (lk : (row L t).idxOf a ≤ (row L t).idxOf b) (hw : w b = t) (ht : t < 3) : False := by
  have hwa : w a ≠ t := fun z => hne (S.s2 a b ha hb (z.trans hw.symm) (by omega))
  have hmem : t ∈ row W a := List.mem_of_getElem? hi
  have it := idx_at (G.wn a ha) hi
  have lt : (row W a).idxOf t < (row W a).idxOf (w a) := by
    rw [it]
    by_cases hin : w a ∈ row W a
    · have ai := at_idx hin
      rcases Nat.lt_trichotomy ((row W a).idxOf (w a)) i with z | z | z
      · exact absurd rfl (early _ _ z ai)
      · rw [z, hi] at ai; cases ai; exact absurd rfl hwa
      · exact z
    · rw [List.idxOf_eq_length hin]
      exact (List.getElem?_eq_some_iff.mp hi).1
  obtain ⟨c, hc, ec, lc⟩ := S.s3 a ha t hmem lt
  have : c = b := S.s2 c b hc hb (ec.trans hw.symm) (by omega)
  subst this
  omega

theorem Inv.ask {a t : Nat} (G : Good W L) (I : Inv W L (a :: hp) pos hold) (ht : (row W a)[pos.getD a 0]? = some t) :
    t < 3 ∧ a < 3 ∧ ((hold.getD t 0 = 3 ∨ (row L t).idxOf a < (row L t).idxOf (hold.getD t 0)) → Inv W L (if hold.getD t 0 < 3 then hold.getD t 0 :: hp else hp) (pos.set a (pos.getD a 0 + 1)) (hold.set t a)) ∧
    (¬ (hold.getD t 0 = 3 ∨ (row L t).idxOf a < (row L t).idxOf (hold.getD t 0)) → Inv W L (a :: hp) (pos.set a (pos.getD a 0 + 1)) hold) := by
  have ha : a < 3 := I.hb a (.head _)
  obtain ⟨hlt, eat⟩ := List.getElem?_eq_some_iff.mp ht
  have ht3 : t < 3 := G.wb a ha t (List.mem_of_getElem? ht)
  have hpl : a < pos.length := by rw [I.pl]; exact ha
  have hhl : t < hold.length := by rw [I.hl]; exact ht3
  have gp : ∀ b, (pos.set a (pos.getD a 0 + 1)).getD b 0 = if a = b then pos.getD a 0 + 1 else pos.getD b 0 := fun b => getD_set hpl
  have gh : ∀ u, (hold.set t a).getD u 0 = if t = u then a else hold.getD u 0 := fun u => getD_set hhl
  have nota : ∀ u, u < 3 → hold.getD u 0 ≠ a := fun u hu z => by
    have := (I.i2 u hu (by omega)).1
    rw [z] at this
    exact this (.head _)
  have pb' : ∀ b, b < 3 → (pos.set a (pos.getD a 0 + 1)).getD b 0 ≤ (row W b).length := fun b hb => by
    rw [gp]; split
    · rename_i e; subst e; exact hlt
    · exact I.pb b hb
  -- a's earlier things: none gives it
  have earlyA : ∀ w, Stable W L w → ∀ j u, j < pos.getD a 0 → (row W a)[j]? = some u → w a ≠ u := fun w S j u hj hu =>
    I.i4 w S a ha j u hj hu (nota u (G.wb a ha u (List.mem_of_getElem? hu)))
  refine ⟨ht3, ha, fun win => ?_, fun lose => ?_⟩
  · have hnd := List.nodup_cons.mp I.hn
    have oldnot : hold.getD t 0 < 3 → hold.getD t 0 ∉ hp := fun z y => (I.i2 t ht3 z).1 (.tail _ y)
    refine { pl := by simpa using I.pl, hl := by simpa using I.hl, hb := ?_, hn := ?_, pb := pb', ob := ?_, i1 := ?_, i2 := ?_, i3 := ?_, i4 := ?_ }
    · intro b m
      split at m
      · rename_i z
        rcases List.mem_cons.mp m with rfl | m
        · exact z
        · exact I.hb b (.tail _ m)
      · exact I.hb b (.tail _ m)
    · split
      · rename_i z
        exact List.nodup_cons.mpr ⟨oldnot z, hnd.2⟩
      · exact hnd.2
    · intro u hu
      rw [gh]; split
      · omega
      · exact I.ob u hu
    · intro b hb m
      by_cases hba : b = a
      · subst hba
        exact .inl ⟨t, ht3, by rw [gh, if_pos rfl]⟩
      · have hbo : b ≠ hold.getD t 0 := fun z => by
          rw [if_pos (by omega)] at m
          exact m (z ▸ .head _)
        have hbp : b ∉ a :: hp := fun y => by
          rcases List.mem_cons.mp y with y | y
          · exact hba y
          · split at m
            · exact m (.tail _ y)
            · exact m y
        rcases I.i1 b hb hbp with ⟨u, hu, e⟩ | e
        · refine .inl ⟨u, hu, ?_⟩
          rw [gh, if_neg (fun z => hbo (by rw [z, e]))]
          exact e
        · exact .inr (by rw [gp, if_neg (fun z => hba z.symm)]; exact e)
    · intro u hu hh
      by_cases z : t = u
      · subst z
        rw [gh, if_pos rfl, gp, if_pos rfl]
        refine ⟨fun y => ?_, by omega, by simpa using ht⟩
        split at y
        · rcases List.mem_cons.mp y with y | y
          · exact nota t ht3 y.symm
          · exact hnd.1 y
        · exact hnd.1 y
      · rw [gh, if_neg z] at hh ⊢
        obtain ⟨x1, x2, x3⟩ := I.i2 u hu hh
        have hne : a ≠ hold.getD u 0 := fun y => nota u hu y.symm
        rw [gp, if_neg hne]
        refine ⟨fun y => ?_, x2, x3⟩
        split at y
        · rename_i q
          rcases List.mem_cons.mp y with y | y
          · obtain ⟨_, _, x3'⟩ := I.i2 t ht3 q
            rw [← y] at x3'
            rw [x3] at x3'
            cases x3'
            exact z rfl
          · exact x1 (.tail _ y)
        · exact x1 (.tail _ y)
    · intro b hb i u hi hu
      by_cases z : t = u
      · subst z
        rw [gh, if_pos rfl]
        refine ⟨ha, ?_⟩
        rw [gp] at hi
        split at hi
        · rename_i e; subst e; exact Nat.le_refl _
        · obtain ⟨y1, y2⟩ := I.i3 b hb i t hi hu
          rcases win with win | win
          · omega
          · omega
      · rw [gh, if_neg z]
        rw [gp] at hi
        split at hi
        · rename_i e
          subst e
          rcases Nat.lt_or_ge i (pos.getD a 0) with y | y
          · exact I.i3 a hb i u y hu
          · have : i = pos.getD a 0 := by omega
            subst this
            rw [ht] at hu; cases hu; exact absurd rfl z
        · exact I.i3 b hb i u hi hu
    · intro w S b hb i u hi hu hne
      by_cases z : t = u
      · subst z
        rw [gh, if_pos rfl] at hne
        rw [gp, if_neg hne] at hi
        obtain ⟨y1, y2⟩ := I.i3 b hb i t hi hu
        intro hw
        refine turned G S ha hb hne ht (earlyA w S) ?_ hw ht3
        rcases win with win | win <;> omega
      · rw [gh, if_neg z] at hne
        rw [gp] at hi
        split at hi
        · rename_i e
          subst e
          rcases Nat.lt_or_ge i (pos.getD a 0) with y | y
          · exact I.i4 w S a hb i u y hu hne
          · have : i = pos.getD a 0 := by omega
            subst this
            rw [ht] at hu; cases hu; exact absurd rfl z
        · exact I.i4 w S b hb i u hi hu hne
  · have hob := I.ob t ht3
    have hh3 : hold.getD t 0 < 3 := by
      rcases Nat.lt_or_ge (hold.getD t 0) 3 with z | z
      · exact z
      · exact absurd (.inl (by omega)) lose
    have hle : (row L t).idxOf (hold.getD t 0) ≤ (row L t).idxOf a := by
      rcases Nat.lt_or_ge ((row L t).idxOf a) ((row L t).idxOf (hold.getD t 0)) with z | z
      · exact absurd (.inr z) lose
      · exact z
    refine { I with pl := by simpa using I.pl, pb := pb', i1 := ?_, i2 := ?_, i3 := ?_, i4 := ?_ }
    · intro b hb m
      rcases I.i1 b hb m with y | y
      · exact .inl y
      · refine .inr ?_
        rw [gp, if_neg (fun z => m (by rw [← z]; exact .head _))]; exact y
    · intro u hu hh
      obtain ⟨x1, x2, x3⟩ := I.i2 u hu hh
      rw [gp, if_neg (fun y => nota u hu y.symm)]
      exact ⟨x1, x2, x3⟩
    · intro b hb i u hi hu
      rw [gp] at hi
      split at hi
      · rename_i e
        subst e
        rcases Nat.lt_or_ge i (pos.getD a 0) with y | y
        · exact I.i3 a hb i u y hu
        · have : i = pos.getD a 0 := by omega
          subst this
          rw [ht] at hu; cases hu
          exact ⟨hh3, hle⟩
      · exact I.i3 b hb i u hi hu
    · intro w S b hb i u hi hu hne
      rw [gp] at hi
      split at hi
      · rename_i e
        subst e
        rcases Nat.lt_or_ge i (pos.getD a 0) with y | y
        · exact I.i4 w S a hb i u y hu hne
        · have : i = pos.getD a 0 := by omega
          subst this
          rw [ht] at hu; cases hu
          obtain ⟨y1, y2, y3⟩ := I.i2 t ht3 hh3
          intro hw
          refine turned G S hh3 ha hne y3 (fun j v hj hv => ?_) hle hw ht3
          refine I.i4 w S _ hh3 j v (by omega) hv fun z => ?_
          have hv3 : v < 3 := G.wb _ hh3 v (List.mem_of_getElem? hv)
          obtain ⟨_, _, z3⟩ := I.i2 v hv3 (by rw [z]; exact hh3)
          rw [z, y3] at z3
          cases z3
          have e1 := idx_at (G.wn _ hh3) hv
          have e2 := idx_at (G.wn _ hh3) y3
          omega
      · exact I.i4 w S b hb i u hi hu hne
end Mine
namespace Mine
variable {W L : NN} {pos hold : List Nat}

theorem getD_at {l : List Nat} {i : Nat} (h : i < l.length) : l.getD i 0 = l[i] := by simp [List.getD_eq_getElem?_getD, h]

/-- the way that a run leaves -/
theorem Inv.wayD (I : Inv W L [] pos hold) {a : Nat} (h : hold.idxOf a < 3) : hold.getD (hold.idxOf a) 0 = a := by
  have : hold.idxOf a < hold.length := by rw [I.hl]; exact h
  rw [getD_at this, List.getElem_idxOf]
theorem Inv.wayU (I : Inv W L [] pos hold) {a t : Nat} (ht : t < 3) (ha : a < 3) (h : hold.getD t 0 = a) : hold.idxOf a = t := by
  have tl : t < hold.length := by rw [I.hl]; exact ht
  have hm : a ∈ hold := by rw [getD_at tl] at h; rw [← h]; exact List.getElem_mem _
  have h3 : hold.idxOf a < 3 := by have := List.idxOf_lt_length_iff.mpr hm; rw [I.hl] at this; exact this
  have e := I.wayD h3
  obtain ⟨_, _, x⟩ := I.i2 t ht (by omega)
  obtain ⟨_, _, y⟩ := I.i2 _ h3 (by omega)
  rw [h] at x
  rw [e] at y
  rw [x] at y
  cases y; rfl
theorem Inv.way3 (I : Inv W L [] pos hold) (a : Nat) : hold.idxOf a ≤ 3 := by have := List.idxOf_le_length (l := hold) (a := a); rw [I.hl] at this; exact this
theorem Inv.last (G : Good W L) (I : Inv W L [] pos hold) {a : Nat} (ha : a < 3) (h : hold.idxOf a < 3) : hold.idxOf a ∈ row W a ∧ (row W a).idxOf (hold.idxOf a) + 1 = pos.getD a 0 := by
  have e := I.wayD h
  obtain ⟨_, x2, x3⟩ := I.i2 _ h (by omega)
  rw [e] at x2 x3
  refine ⟨List.mem_of_getElem? x3, ?_⟩
  rw [idx_at (G.wn a ha) x3]; omega
theorem Inv.none (I : Inv W L [] pos hold) {a : Nat} (ha : a < 3) (h : hold.idxOf a = 3) : pos.getD a 0 = (row W a).length := by
  rcases I.i1 a ha List.not_mem_nil with ⟨t, ht, e⟩ | e
  · rw [I.wayU ht ha e] at h; omega
  · exact e
theorem Inv.asked (G : Good W L) (I : Inv W L [] pos hold) {a t : Nat} (ha : a < 3) (hm : t ∈ row W a) (h : (row W a).idxOf t < (row W a).idxOf (hold.idxOf a)) : (row W a).idxOf t < pos.getD a 0 := by
  rcases Nat.lt_or_ge (hold.idxOf a) 3 with z | z
  · have := (I.last G ha z).2; omega
  · rw [I.none ha (Nat.le_antisymm (I.way3 a) z)]
    exact List.idxOf_lt_length_iff.mpr hm
theorem idx_inj {l : List Nat} {a b : Nat} (ha : a ∈ l) (h : l.idxOf a = l.idxOf b) : a = b := by
  have h1 := List.idxOf_lt_length_iff.mpr ha
  have h2 : l.idxOf b < l.length := by omega
  have e1 := List.getElem_idxOf h1
  have e2 := List.getElem_idxOf h2
  rw [← e1, ← e2]
  simp only [h]
theorem Inv.stable (G : Good W L) (I : Inv W L [] pos hold) : Stable W L fun a => hold.idxOf a where
  s1 := fun a ha h => (I.last G ha h).1
  s2 := fun a b ha hb e h => by
    have e : hold.idxOf a = hold.idxOf b := e
    have h : hold.idxOf a < 3 := h
    have x := I.wayD h
    have y := I.wayD (a := b) (by omega)
    rw [← e, x] at y; exact y
  s3 := fun a ha t hm h => by
    have ask := I.asked G ha hm h
    have ht3 := G.wb a ha t hm
    obtain ⟨x, y⟩ := I.i3 a ha _ t ask (at_idx hm)
    have wt := I.wayU ht3 x rfl
    refine ⟨hold.getD t 0, x, wt, ?_⟩
    rcases Nat.lt_or_ge ((row L t).idxOf (hold.getD t 0)) ((row L t).idxOf a) with z | z
    · exact z
    · have : hold.getD t 0 = a := idx_inj (G.lm t ht3 _ x) (Nat.le_antisymm y z)
      rw [this] at wt
      rw [wt] at h
      omega
  s4 := fun a _ => I.way3 a
theorem Inv.best (G : Good W L) (I : Inv W L [] pos hold) {w} (S : Stable W L w) {a : Nat} (ha : a < 3) : (row W a).idxOf (hold.idxOf a) ≤ (row W a).idxOf (w a) := by
  rcases Nat.lt_or_ge ((row W a).idxOf (w a)) ((row W a).idxOf (hold.idxOf a)) with z | z
  · have hm : w a ∈ row W a := List.idxOf_lt_length_iff.mp (Nat.lt_of_lt_of_le z List.idxOf_le_length)
    have ask := I.asked G ha hm z
    have ht3 := G.wb a ha _ hm
    refine absurd rfl (I.i4 w S a ha _ _ ask (at_idx hm) fun e => ?_)
    have := I.wayU ht3 ha e
    rw [this] at z
    omega
  · exact z

/-- two ways that like each other's places alike -/
theorem way_eq (G : Good W L) {w v : Nat → Nat} (S : Stable W L w) (T : Stable W L v) {a : Nat} (ha : a < 3) (e : (row W a).idxOf (w a) = (row W a).idxOf (v a)) : w a = v a := by
  rcases Nat.lt_or_ge (w a) 3 with x | x
  · exact idx_inj (S.s1 a ha x) e
  · rcases Nat.lt_or_ge (v a) 3 with y | y
    · exact (idx_inj (T.s1 a ha y) e.symm).symm
    · have := S.s4 a ha; have := T.s4 a ha; omega
theorem list3 {l m : List Nat} (hl : l.length = 3) (hm : m.length = 3) (h : ∀ i, i < 3 → l.getD i 0 = m.getD i 0) : l = m := by
  match l, m, hl, hm with
  | [a, b, c], [x, y, z], _, _ =>
    have h0 := h 0 (by decide)
    have h1 := h 1 (by decide)
    have h2 := h 2 (by decide)
    simp at h0 h1 h2
    rw [h0, h1, h2]
theorem Inv.unique (G : Good W L) (I : Inv W L [] pos hold) {pos' hold'} (J : Inv W L [] pos' hold') : pos' = pos ∧ hold' = hold := by
  have ww : ∀ a, a < 3 → hold.idxOf a = hold'.idxOf a := fun a ha => way_eq G (I.stable G) (J.stable G) ha (Nat.le_antisymm (I.best G (J.stable G) ha) (J.best G (I.stable G) ha))
  have one : ∀ {p h p' h' : List Nat}, Inv W L [] p h → Inv W L [] p' h' → (∀ a, a < 3 → h.idxOf a = h'.idxOf a) → ∀ t, t < 3 → h.getD t 0 < 3 → h'.getD t 0 = h.getD t 0 := by
    intro p h p' h' I J e t ht hh
    have x := I.wayU ht hh rfl
    rw [e _ hh] at x
    have y := J.wayD (a := h.getD t 0) (by omega)
    rw [x] at y; exact y
  refine ⟨list3 J.pl I.pl fun a ha => ?_, list3 J.hl I.hl fun t ht => ?_⟩
  · rcases Nat.lt_or_ge (hold.idxOf a) 3 with z | z
    · have x := (I.last G ha z).2
      have y := (J.last G ha (by rw [← ww a ha]; exact z)).2
      rw [← ww a ha] at y
      omega
    · have z : hold.idxOf a = 3 := Nat.le_antisymm (I.way3 a) z
      rw [I.none ha z, J.none ha (by rw [← ww a ha]; exact z)]
  · rcases Nat.lt_or_ge (hold.getD t 0) 3 with z | z
    · exact one I J ww t ht z
    · rcases Nat.lt_or_ge (hold'.getD t 0) 3 with y | y
      · have := one J I (fun a ha => (ww a ha).symm) t ht y
        omega
      · have := I.ob t ht; have := J.ob t ht; omega

theorem inv0 : Inv W L [0, 1, 2] [0, 0, 0] [3, 3, 3] where
  pl := rfl
  hl := rfl
  hb := by simp
  hn := by decide
  pb := fun a ha => by
    have : a = 0 ∨ a = 1 ∨ a = 2 := by omega
    rcases this with rfl | rfl | rfl <;> simp
  ob := fun a ha => by
    have : a = 0 ∨ a = 1 ∨ a = 2 := by omega
    rcases this with rfl | rfl | rfl <;> simp
  i1 := fun a ha m => by
    have : a = 0 ∨ a = 1 ∨ a = 2 := by omega
    rcases this with rfl | rfl | rfl <;> simp at m
  i2 := fun a ha h => by
    have : a = 0 ∨ a = 1 ∨ a = 2 := by omega
    rcases this with rfl | rfl | rfl <;> simp at h
  i3 := fun a ha i t h => by
    have : a = 0 ∨ a = 1 ∨ a = 2 := by omega
    rcases this with rfl | rfl | rfl <;> simp at h
  i4 := fun w S a ha i t h => by
    have : a = 0 ∨ a = 1 ∨ a = 2 := by omega
    rcases this with rfl | rfl | rfl <;> simp at h

/-- how much is left to do -/
def left (W : NN) (hp pos : List Nat) : Nat := 2 * (((row W 0).length - pos.getD 0 0) + ((row W 1).length - pos.getD 1 0) + ((row W 2).length - pos.getD 2 0)) + hp.length
theorem left_ask {a : Nat} {hp hp' pos : List Nat} (ha : a < 3) (hl : pos.length = 3) (h : pos.getD a 0 < (row W a).length) (hz : hp'.length ≤ hp.length + 1) : left W hp' (pos.set a (pos.getD a 0 + 1)) < left W (a :: hp) pos := by
  have gp : ∀ b, (pos.set a (pos.getD a 0 + 1)).getD b 0 = if a = b then pos.getD a 0 + 1 else pos.getD b 0 := fun b => getD_set (by omega)
  unfold left
  rw [gp, gp, gp, List.length_cons]
  have : a = 0 ∨ a = 1 ∨ a = 2 := by omega
  rcases this with rfl | rfl | rfl <;> simp at h ⊢ <;> omega
theorem left_done {a : Nat} {hp pos : List Nat} : left W hp pos < left W (a :: hp) pos := by unfold left; rw [List.length_cons]; omega

theorem final (G : Good W L) : ∃ pos hold, Inv W L [] pos hold := by
  have go : ∀ n hp pos hold, left W hp pos ≤ n → Inv W L hp pos hold → ∃ pos hold, Inv W L [] pos hold := by
    intro n
    induction n with
    | zero =>
      intro hp pos hold h I
      cases hp with
      | nil => exact ⟨_, _, I⟩
      | cons a r => unfold left at h; simp at h
    | succ n ih =>
      intro hp pos hold h I
      cases hp with
      | nil => exact ⟨_, _, I⟩
      | cons a r =>
        rcases Nat.lt_or_ge (pos.getD a 0) (row W a).length with z | z
        · obtain ⟨_, ha, win, lose⟩ := I.ask G (List.getElem?_eq_getElem z)
          by_cases c : hold.getD ((row W a)[pos.getD a 0]) 0 = 3 ∨ (row L ((row W a)[pos.getD a 0])).idxOf a < (row L ((row W a)[pos.getD a 0])).idxOf (hold.getD ((row W a)[pos.getD a 0]) 0)
          · refine ih _ _ _ ?_ (win c)
            have := left_ask (W := W) (hp := r) (hp' := if hold.getD ((row W a)[pos.getD a 0]) 0 < 3 then hold.getD ((row W a)[pos.getD a 0]) 0 :: r else r) ha I.pl z (by split <;> simp)
            omega
          · refine ih _ _ _ ?_ (lose c)
            have := left_ask (W := W) (hp := r) (hp' := a :: r) ha I.pl z (by simp)
            omega
        · refine ih _ _ _ ?_ (I.done z)
          have := left_done (W := W) (a := a) (hp := r) (pos := pos)
          omega
  exact go _ _ _ _ (Nat.le_refl _) inv0
end Mine
namespace Mine
open PySem PySem.Calls PyProof.Rows
variable {prog : Program} {w : World} {k : Nat} {M : List Addr} {h : Heap} {C : Cx} {org : Heap} {σ : List (Str × Bd)} {μ : List (Addr × List PyData)}

theorem Rd.less {M₀ : List Addr} {v d} (x : Rd M h v d) (hM : ∀ a ∈ M₀, a ∈ M) : Rd M₀ h v d := x.move fun b o vs n m e _ => ⟨e, fun z => m (hM b z)⟩
theorem RdAll.less {M₀ : List Addr} {v d} (x : RdAll M h v d) (hM : ∀ a ∈ M₀, a ∈ M) : RdAll M₀ h v d := x.move fun b o vs n m e _ => ⟨e, fun z => m (hM b z)⟩
theorem Bd.ok.less {M₀ : List Addr} {v : Value} : ∀ {b : Bd}, b.ok M h v → (∀ a ∈ M₀, a ∈ M) → b.ok M₀ h v
  | .d _, x, hM => Rd.less x hM
  | .r _, x, _ => x
theorem EN.less {mg mb env nm W} {M₀ : List Addr} (H : EN mg mb env nm W σ M h) (hM : ∀ a ∈ M₀, a ∈ M) : EN mg mb env nm W σ M₀ h :=
  { H with
    loc := fun x b i l => let ⟨v, n, o⟩ := H.loc x b i l; ⟨v, n, o.less hM⟩
    mok := fun a m => H.mok a (hM a m) }
theorem EV.less {env e d} {M₀ : List Addr} (x : EV prog w k M env h e d) (hM : ∀ a ∈ M₀, a ∈ M) : EV prog w k M₀ env h e d := ⟨fun m t q => x.run m t fun v h' tk s r => q v h' tk s (r.less hM)⟩
/-- a list that is changed, read as it stands, by those who do not mind -/
theorem ev_rawM {x : Str} {np : Pos} {a : Addr} {ds : List PyData} {M₀ : List Addr} (F : FS C org σ M μ h) (hM : ∀ a ∈ M₀, a ∈ M) (ha : a ∉ M₀) (hx : isLoc (C.nm.lookup x) = true) (l : σ.lookup x = some (.r (.ref a))) (mm : (a, ds) ∈ μ)
    (hdx : ((x == ("__debug__" : Str)) || (x == ("__classdict__" : Str))) = false) : EV prog w k M₀ C.env h (.Name x np) (.list ds) :=
  ⟨fun {A s Q E} m t q => by
    obtain ⟨z1, z2⟩ := Bool.or_eq_false_iff.mp hdx
    obtain ⟨vs, n, g, r⟩ := (F.stay t).plain mm
    exact ((F.raw hx l).stay t).load F.en.fn z1 z2 (q _ s.heap s.toks (.refl _) (.list g ha (r.less hM)))⟩
theorem s_returnM {M₀ : List Addr} {A : Around} {g : Array GenState} {dr : Drawn} {tk : Nat} {os : OsState} {E : Value → Shared → Prop} {Q : Flow → Shared → Prop} {pos : Pos} {value : Expr} {d : PyData} (F : FS C org σ M μ h) (m : Rm k A) (e : EV prog w k M₀ C.env h value d)
    (q : ∀ v h' tk', FS C org σ M μ h' → Rd M₀ h' v d → Q (.ret v) ⟨h', g, dr, tk', os⟩) : wpAny (model prog w) A (exec (.Return (some value) pos) C.env) Q E ⟨h, g, dr, tk, os⟩ :=
  wpAny_Return_some (e.run (s := ⟨h, g, dr, tk, os⟩) m (.refl _) fun v h₁ t₁ s₁ r₁ => q v h₁ t₁ (F.stay s₁) r₁)

/-- numbers and lists of numbers as data -/
def cs (l : List Nat) : List Int := l.map fun (n : Nat) => (n : Int)
abbrev nl (l : List Nat) : List PyData := il (cs l)
def nn (W : NN) : List PyData := W.map fun l => .list (nl l)
theorem nl_len {l : List Nat} : (nl l).length = l.length := by simp [nl, il, cs]
theorem nl_at {l : List Nat} {i : Nat} {n : Nat} (h : l[i]? = some n) : (nl l)[i]? = some (.int (n : Int)) := by
  unfold nl il cs
  rw [List.getElem?_map, List.getElem?_map, h]; rfl
theorem nl_getD {l : List Nat} {i : Nat} (h : i < l.length) : (nl l)[i]? = some (.int ((l.getD i 0 : Nat) : Int)) := nl_at (by rw [getD_at h, List.getElem?_eq_getElem h])
theorem nl_set {l : List Nat} {i n : Nat} : (nl l).set i (.int (n : Int)) = nl (l.set i n) := by
  unfold nl il cs
  rw [List.map_set, List.map_set]
theorem nn_at {W : NN} {i : Nat} (h : i < W.length) : (nn W)[i]? = some (.list (nl (row W i))) := by
  unfold nn row
  rw [List.getElem?_map, List.getElem?_eq_getElem h]
  simp [List.getD_eq_getElem?_getD, h]
theorem cs_idx {l : List Nat} {n : Nat} : (cs l).idxOf (n : Int) = l.idxOf n := by
  induction l with
  | nil => rfl
  | cons x r ih =>
    show ((x : Int) :: cs r).idxOf (n : Int) = _
    rw [List.idxOf_cons, List.idxOf_cons, ih]
    have : ((x : Int) == (n : Int)) = (x == n) := by
      rw [Bool.eq_iff_iff, beq_iff_eq, beq_iff_eq]
      exact ⟨fun h => Int.ofNat.inj h, fun h => by rw [h]⟩
    rw [this]
theorem cs_mem {l : List Nat} {n : Nat} : (n : Int) ∈ cs l ↔ n ∈ l := by
  unfold cs
  rw [List.mem_map]
  constructor
  · rintro ⟨m, hm, e⟩
    have : m = n := by omega
    subst this; exact hm
  · exact fun h => ⟨n, h, rfl⟩
theorem cs_inj : ∀ {a b : List Nat}, cs a = cs b → a = b
  | [], [], _ => rfl
  | x :: a, y :: b, e => by
    injection e with e1 e2
    have : x = y := Int.ofNat.inj e1
    rw [this, cs_inj e2]
  | [], _ :: _, e => by cases e
  | _ :: _, [], e => by cases e
theorem p312 {α} {a b c : α} : [c, a, b].Perm [a, b, c] := (List.Perm.swap a c [b]).trans (.cons a (.swap b c []))
theorem p213 {α} {a b c : α} : [b, a, c].Perm [a, b, c] := .swap a b [c]
end Mine
namespace Mine
open PySem PySem.Calls PyProof.Rows
variable {prog : Program} {w : World} {k : Nat}

/-- data that no list's change can touch -/
def sc : PyData → Bool
  | .none | .bool _ | .int _ | .str _ => true
  | _ => false
theorem Rd.scalar {M M' : List Addr} {h : Heap} {v d} (x : Rd M h v d) (s : sc d = true) : Rd M' h v d := by
  cases x with
  | none => exact .none
  | bool b => exact .bool b
  | int i t => exact .int i t
  | str y t => exact .str y t
  | list _ _ _ => cases s
  | tuple _ _ _ => cases s

/-- a pure def whose answer is a number or a text: its body may be walked with no list of its callers in sight -/
theorem PF.intro0 {name : Str} {params : Arguments} {body : List Stmt} {scope : Scope} {fa : Addr} {top : Heap} {mg mb : Str → Option Value} {spec : List PyData → PyData → Prop} (ns : List Str)
    (f : Fn top mg name params body scope fa) (T : GT top mg mb) (hok : defOk scope ns = true)
    (hbind : ∀ vs : List Value, vs.length = ns.length → ∀ pm cd doc, PySem.bindArgs (docDef name params body scope pm cd doc) ⟨vs, []⟩ = pure (ns.zip vs)) (hsc : ∀ ds d, spec ds d → sc d = true)
    (q : ∀ ds d, spec ds d → ∃ σ, Pars ns ds σ ∧ ∀ {h₀ h₁ : Heap} {L : Addr} {cd : Value} {W : List Addr} {A : Around} {g : Array GenState} {dr : Drawn} {tk : Nat} {os : OsState} {Q : Value → Shared → Prop}, Rm k A → Stay top h₀ →
      FS ⟨top, h₀, [], mg, mb, envOfC name scope L fa cd, scope.names, W⟩ h₀ σ [] [] h₁ →
      (∀ v M' M'' σ' μ' h' tk', FS ⟨top, h₀, [], mg, mb, envOfC name scope L fa cd, scope.names, W⟩ h₀ σ' M' μ' h' → Rd M'' h' v d → Q v ⟨h', g, dr, tk', os⟩) →
      wpAny (model prog w) A (execs body (envOfC name scope L fa cd)) (fun f s' => Q (match f with | .ret v => v | _ => .none) s') (fun _ _ => False) ⟨h₁, g, dr, tk, os⟩) : PF prog w (k + 1) top fa spec := ⟨by
  intro A h g dr tk os Q E M vs ds d m tp mok sm rd sp q'
  obtain ⟨σ, ps, body'⟩ := q ds d sp
  obtain ⟨par, hn⟩ := pars_par ps rd.off
  have hl : vs.length = ns.length := by
    rw [rd.length]; exact pars_len ps
  refine def_call (M := []) (μ := []) (V := []) f T tp m (fun _ m => nomatch m) (fun _ m => nomatch m) par (fun _ m => nomatch m) List.nodup_nil (fun _ m => nomatch m) (hbind vs hl) hn hok fun L cd W h₁ tk₁ A' m' F => ?_
  exact body' m' tp F fun v M' M'' σ' μ' h' tk' F' r => q' v h' tk' (Eff.stay F'.ef) (r.scalar (hsc _ _ sp))⟩

/-- a table's entry, or another text -/
theorem ev_dget {M M₁ M₂ : List Addr} {env : Env} {h : Heap} {mg mb : Str → Option Value} {nm : List (Str × NameKind)} {W : List Addr} {σ : List (Str × Bd)} {x : Str} {np ap pos : Pos} {e1 e2 : Expr} {i : Int} {dd y : Str} {D : List (PyData × PyData)} {d : Addr} (H : EN mg mb env nm W σ M h)
    (gi : nm.lookup x = some .globalImplicit) (l : mg x = some (.ref d)) (hd : (x == ("__debug__" : Str)) = false) (T : IntTab prog w h d D) (a : EV prog w k M₁ env h e1 (.int i)) (b : EV prog w k M₂ env h e2 (.str dd)) (r : (PySem.Spec.lookup (.int i) D).getD (.str dd) = .str y)
    (hs : starEach [e1, e2] env = [(false, eval e1 env), (false, eval e2 env)] := by rfl) (hline : (ap.endLine == pos.line) = true := by rfl) : EV prog w k M env h (.Call (.Attribute (.Name x np) "get" ap) [e1, e2] [] pos) (.str y) := ⟨fun {A s Q E} m t q => by
  refine wpAny_Call_method_lateS rfl (by rw [hs]; rfl) hline (Name_function_global H.fn (H.glb x gi) (loadGlobal_global (mg := mg) (by rw [H.gl]; exact H.g.keeps t) l ?_) hd)
  have T' := T.keep t
  refine ⟨"dict", "dict.get", PySem.F.plainAttrs_dict, PySem.F.slot_dict_get, PySem.F.type_dict_get, let ⟨_, _, hd, _⟩ := T'; hd.typeIs, fun c hc => ?_, ?_⟩
  · cases hc
    obtain ⟨_, _, hd, _⟩ := T'
    exact hd.mapOf.noDict _ rfl
  · rw [hs]
    refine PySem.Calls.callWith_builtin rfl (PySem.Calls.evalArgs_plain (PySem.Calls.spliced_cons (a.run m t fun v h₂ t₂ s₂ r₂ => PySem.Calls.spliced_cons (b.run (s := ⟨h₂, s.gens, s.drawn, t₂, s.os⟩) m (t.trans s₂) fun u h₃ t₃ s₃ r₃ => PySem.Calls.spliced_nil ?_))))
    obtain ⟨tk, rfl⟩ := r₂.intVal
    obtain ⟨tk', rfl⟩ := r₃.strVal
    refine call_get2_intTab (s := ⟨h₃, s.gens, s.drawn, t₃, s.os⟩) (dd := .str dd) ((T'.keep s₂).keep s₃) (fun _ => .str ..) fun v fv => ?_
    rw [r] at fv
    have fv := fv h₃
    cases fv with
    | str x t => exact q _ h₃ _ (s₂.trans s₃) (.str ..)⟩
end Mine
namespace Mine
open PySem PySem.Calls PyProof.Rows
theorem entry_next : entryFor table "next" = some Builtin.«next» := entryFor_of_tree (by kernel_rfl)
theorem entry_iter : entryFor table "iter" = some Builtin.«iter» := entryFor_of_tree (by kernel_rfl)
theorem args_next (a : Value) : argsOk "next" ⟨[a], []⟩ := by unfold argsOk; kernel_rfl
theorem args_iter (a : Value) : argsOk "iter" ⟨[a], []⟩ := by unfold argsOk; kernel_rfl
section
variable {prog : Program} {w : World} {A : Around} {E : Value → Shared → Prop} {s : Shared}

/-- next of a list's iterator -/
theorem call_next_item {it l : Addr} {i : Nat} {items : Array Value} {x : Value} {Q : Value → Shared → Prop} (hit : s.heap.IsListIter it l i) (hl : s.heap.IsList l items) (hx : items[i]? = some x)
    (hQ : ∀ h', h'.IsListIter it l (i + 1) → Heap.SameBut it s.heap h' → Q x { s with heap := h' }) : wpAny (model prog w) A (call (.builtin "next") [.ref it]) Q E s := by
  obtain ⟨o, ho, hc, hd⟩ := id hit
  obtain ⟨ol, hol, _, nl, hdl⟩ := hl
  refine call_function_entry (by decide +kernel) (by decide +kernel) entry_next (args_next _) ?_
  unfold Builtin.«next»
  refine wpAny_bind (m := PySem.someArgs "next" 1 2 _) (wpAny_of_eq (a := [Value.ref it]) (by first | rfl | kernel_rfl) ?_)
  dsimp only
  refine wpAny_bind (wpAny_specialOf (name := Str.ofString "__next__") hit.typeIs slot_listiter_next.lookup ?_)
  refine wpAny_ite_split (fun hab => absurd hab (by decide)) (fun _ => ?_)
  refine wpAny_bind (wpAny_callSpecial?_slot (name := Str.ofString "__next__") hit.typeIs slot_listiter_next
    (wpAny_call_entry slot_listiter_next hit.typeIs entry_listiter_next ?_ (args_listiter_next _)))
  show wpAny _ _ (field (.ref it) 0 >>= _) _ _ s
  refine wpAny_bind (wpAny_field ho hd (x := .ref l) rfl ?_)
  show wpAny _ _ (if (Value.ref l == Value.none) = true then _ else _) _ _ s
  rw [if_neg (show ¬ ((Value.ref l == Value.none) = true) from Bool.false_ne_true)]
  show wpAny _ _ (field (.ref it) 1 >>= _) _ _ s
  refine wpAny_bind (wpAny_field ho hd (x := .int i 0) rfl ?_)
  show wpAny _ _ (seqItems? (.ref l) >>= _) _ _ s
  refine wpAny_bind (wpAny_seqItems hol hdl ?_)
  simp only [Int.toNat_natCast, hx]
  refine wpAny_bind (wpAny_setField ho hd (by simp) (wpAny_pure ⟨x, rfl, wpAny_pure ⟨x, rfl, hQ _ ?_ (Heap.SameBut.update ..)⟩⟩))
  exact ⟨_, Heap.get?_update_self _ ho (Obj.isFreed_of_fields (Obj.data_mapFields hd _)), (Obj.cls_mapFields ..).trans hc, by
    rw [Obj.data_mapFields hd]; simp [rawInt]⟩

/-- and its end: StopIteration, new -/
theorem call_next_end {it l : Addr} {i : Nat} {items : Array Value} {Q : Value → Shared → Prop} (hh : A.handled = none) (hit : s.heap.IsListIter it l i) (hl : s.heap.IsList l items) (hx : items[i]? = none)
    (hE : ∀ h' e vs oe, Heap.ExtBut it s.heap h' → s.heap.get? e = none → h'.get? e = some oe → oe.cls = .type "StopIteration" → oe.data = .fields vs → vs[1]? = some .none → E (.ref e) { s with heap := h' }) : wpAny (model prog w) A (call (.builtin "next") [.ref it]) Q E s := by
  obtain ⟨o, ho, hc, hd⟩ := id hit
  obtain ⟨ol, hol, _, nl, hdl⟩ := hl
  refine call_function_entry (by decide +kernel) (by decide +kernel) entry_next (args_next _) ?_
  unfold Builtin.«next»
  refine wpAny_bind (m := PySem.someArgs "next" 1 2 _) (wpAny_of_eq (a := [Value.ref it]) (by first | rfl | kernel_rfl) ?_)
  dsimp only
  refine wpAny_bind (wpAny_specialOf (name := Str.ofString "__next__") hit.typeIs slot_listiter_next.lookup ?_)
  refine wpAny_ite_split (fun hab => absurd hab (by decide)) (fun _ => ?_)
  refine wpAny_bind (wpAny_callSpecial?_slot (name := Str.ofString "__next__") hit.typeIs slot_listiter_next
    (wpAny_call_entry slot_listiter_next hit.typeIs entry_listiter_next ?_ (args_listiter_next _)))
  show wpAny _ _ (field (.ref it) 0 >>= _) _ _ s
  refine wpAny_bind (wpAny_field ho hd (x := .ref l) rfl ?_)
  show wpAny _ _ (if (Value.ref l == Value.none) = true then _ else _) _ _ s
  rw [if_neg (show ¬ ((Value.ref l == Value.none) = true) from Bool.false_ne_true)]
  show wpAny _ _ (field (.ref it) 1 >>= _) _ _ s
  refine wpAny_bind (wpAny_field ho hd (x := .int i 0) rfl ?_)
  show wpAny _ _ (seqItems? (.ref l) >>= _) _ _ s
  refine wpAny_bind (wpAny_seqItems hol hdl ?_)
  simp only [Int.toNat_natCast, hx]
  refine wpAny_bind (wpAny_rule (wpAny_bind (wpAny_setField ho hd (by simp) ?_)))
  show wpAny _ _ (newExc (.type "StopIteration") [] >>= _) _ _ _
  refine wpAny_bind ?_
  simp only [newExc, newTuple]
  refine wpAny_bind (wpAny_newObj_type ?_ (by size_fits))
  refine wpAny_bind (m := firstArgMember _ _) (wpAny_of_eq (a := Value.none) (by first | rfl | (simp only [firstArgMember]; rfl)) ?_)
  refine wpAny_newObj_type ?_ (by size_fits)
  simp only [raiseNew]
  refine wpAny_bind (wpAny_handled ?_)
  first | rw [show A.in1.in1.handled = none from hh] | rw [show A.in1.handled = none from hh] | rw [hh]
  refine wpAny_bind (wpAny_pure (wpAny_throw ?_))
  refine hE _ _ _ _ (((Heap.SameBut.update ..).extBut.push _).push _) ?_ (Heap.get?_push_size _ rfl) rfl rfl ?_
  · exact fresh_none (by simp)
  · rfl
end
end Mine
namespace Mine
open PySem PySem.Calls PyProof.Rows

/-- the heap without what lies at an address -/
def offH (h : Heap) (a : Addr) : Heap := h.update a fun o => { o with data := .freed }
theorem offH_other {h : Heap} {a b : Addr} (hb : b ≠ a) : (offH h a).get? b = h.get? b := Heap.get?_update_other h _ (fun e => hb e.symm)
theorem offH_self {h : Heap} {a : Addr} : (offH h a).get? a = none := by
  unfold offH Heap.update Heap.get?
  obtain ⟨objs, l⟩ := h
  simp only
  by_cases hl : a < objs.size
  · rw [Array.getElem?_modify]
    simp [hl]
  · rw [Array.getElem?_modify]
    simp [hl]
end Mine
namespace Mine
open PySem PySem.Calls PyProof.Rows
variable {k : Nat} {M : List Addr} {h : Heap} {org : Heap} {σ : List (Str × Bd)} {μ : List (Addr × List PyData)} {top base : Heap} {V : List Addr} {mg mb : Str → Option Value} {env : Env} {nm : List (Str × NameKind)} {W : List Addr}

theorem off_some {h : Heap} {a b : Addr} {o : Obj} (e : (offH h a).get? b = some o) : b ≠ a ∧ h.get? b = some o := by
  by_cases z : b = a
  · subst z; rw [offH_self] at e; cases e
  · exact ⟨z, by rw [offH_other z] at e; exact e⟩
theorem none_of {h h' : Heap} (kb : ∀ a o, h'.get? a = some o → h.get? a = some o) {a : Addr} (e : h.get? a = none) : h'.get? a = none := by
  cases q : h'.get? a with
  | none => rfl
  | some o => have := kb a o q; rw [e] at this; cases this
/-- less is asked to stay -/
theorem FS.fewer {base' org' : Heap} (F : FS ⟨top, base, V, mg, mb, env, nm, W⟩ org σ M μ h) (kb : ∀ a o, base'.get? a = some o → base.get? a = some o) (ko : ∀ a o, org'.get? a = some o → org.get? a = some o) :
    FS ⟨top, base', V, mg, mb, env, nm, W⟩ org' σ M μ h where
  en := F.en
  sm := F.sm
  tp := F.tp
  ef := fun a o m e => F.ef a o m (kb a o e)
  vx := F.vx
  wb := fun a m => ⟨none_of kb (F.wb a m).1, (F.wb a m).2⟩
  og := fun a o e m n1 n2 => F.og a o (ko a o e) m n1 n2
  ox := fun a o e => F.ox a o (ko a o e)
  mu := fun p m => let ⟨a, b, c, d⟩ := F.mu p m; ⟨a, b, c.imp id (none_of kb), d⟩
  nd := F.nd

/-- one object of fields changes, of which nothing is asked -/
theorem FS.fld {I : Addr} {h' : Heap} (F : FS ⟨top, base, V, mg, mb, env, nm, W⟩ org σ M μ h) (fd : FD h I) (old : ∀ b o, b ≠ I → h.get? b = some o → h'.get? b = some o) (iI : ∃ o, h'.get? I = some o)
    (hb : base.get? I = none) (ho : org.get? I = none) (ht : top.get? I = none) : FS ⟨top, base, V, mg, mb, env, nm, W⟩ org σ M μ h' := by
  have ef : Eff [I] h h' := fun b o m e => old b o (by simpa using m) e
  have fds : ∀ a ∈ [I], FD h a := fun a m => by rw [List.mem_singleton.mp m]; exact fd
  obtain ⟨H, sq⟩ := F.en.eff F.sm fds ef
  have seq := eff_seqs fds ef
  exact {
    en := H
    sm := sq
    tp := fun a o e => old a o (fun z => by rw [z, ht] at e; cases e) (F.tp a o e)
    ef := fun a o m e => old a o (fun z => by rw [z, hb] at e; cases e) (F.ef a o m e)
    vx := fun a m => let ⟨o, vs, n, e, d⟩ := F.vx a m; ⟨o, vs, n, seq a o vs n e d, d⟩
    wb := F.wb
    og := fun a o e m n1 n2 => old a o (fun z => by rw [z, ho] at e; cases e) (F.og a o e m n1 n2)
    ox := fun a o e => by
      obtain ⟨o', e'⟩ := F.ox a o e
      by_cases z : a = I
      · subst z; exact iI
      · exact ⟨o', old a o' z e'⟩
    mu := fun p m => let ⟨a, b, c, d⟩ := F.mu p m; ⟨a, b.move seq, c, d⟩
    nd := F.nd }
end Mine
namespace Mine
open PySem PySem.Calls PyProof.Rows
variable {prog : Program} {w : World} {k : Nat} {M : List Addr} {σ : List (Str × Bd)} {μ : List (Addr × List PyData)}

/-- a def is called, and may be left by an exception -/
theorem def_callE {name : Str} {params : Arguments} {body : List Stmt} {scope : Scope} {fa : Addr} {top : Heap} {mg mb : Str → Option Value} {A : Around} {h₀ : Heap} {g : Array GenState} {dr : Drawn} {tk : Nat} {os : OsState} {E : Value → Shared → Prop} {Q : Value → Shared → Prop} {vs : List Value} {binds : List (Str × Value)} {V : List Addr} {ns : List Str}
    (f : Fn top mg name params body scope fa) (T : GT top mg mb) (tp : Stay top h₀) (m : Rm (k + 1) A) (mok : MOk M h₀) (sm : Seqs M h₀) (par : Par M h₀ binds σ)
    (hmu : ∀ p ∈ μ, p.1 ∈ M ∧ Acc M p.1 p.2 h₀ ∧ p.1 ∈ V ∧ top.get? p.1 = none) (hnd : (μ.map (·.1)).Nodup) (hV : ∀ a ∈ V, a ∈ M)
    (hbind : ∀ pm cd doc, PySem.bindArgs (docDef name params body scope pm cd doc) ⟨vs, []⟩ = pure binds) (hns : binds.map (·.1) = ns) (hok : defOk scope ns = true)
    (q : ∀ L cd W h₁ tk₁ A', Rm k A' → h₀.get? L = none → A'.frames = A.frames.map (envOfC name scope L fa cd :: ·) → FS ⟨top, h₀, V, mg, mb, envOfC name scope L fa cd, scope.names, W⟩ h₀ σ M μ h₁ →
      wpAny (model prog w) A' (execs body (envOfC name scope L fa cd)) (fun f s' => Q (match f with | .ret v => v | _ => .none) s') (fun e s' => wpAny (model prog w) A' (leaving (envOfC name scope L fa cd) e) (fun _ s'' => E e s'') (fun e' s'' => E e' s'') s') ⟨h₁, g, dr, tk₁, os⟩) :
    wpAny (model prog w) A (call (.ref fa) vs) Q E ⟨h₀, g, dr, tk, os⟩ := by
  simp only [defOk, Bool.and_eq_true, decide_eq_true_eq, Bool.not_eq_true', beq_iff_eq] at hok
  obtain ⟨⟨⟨⟨⟨⟨hnb, hkind⟩, hnf⟩, hks⟩, hcn⟩, hco⟩, hgen⟩ := hok
  rw [← hns] at hnb hks
  obtain ⟨o, pm, cd, doc, ho, hd, hcd⟩ := f.ob
  have hnf' : ∀ x : Str, scope.names.lookup x ≠ some .free := fun x e => by
    have := List.all_eq_true.mp hnf _ (mem_of_lookup e)
    simp at this
  refine wpAny_call (call_cellsN (s := ⟨h₀, g, dr, tk, os⟩) m.lim (tp _ _ ho) hd (T.lim.keeps tp) (hcd.keeps tp) (hbind pm cd doc) (fun x mx => ?_) hcn (fun h₁ tk₁ cells F N X => ?_) hco hgen hkind)
  · have := List.all_eq_true.mp hks x.1 (List.mem_map.mpr ⟨x, mx, rfl⟩)
    simp only [Bool.or_eq_true, beq_iff_eq] at this
    rcases this with e | e
    · exact .inl e
    · refine .inr ⟨e, ?_⟩
      have key : ∀ (names : List (Str × NameKind)) (n : Nat) (acc : List (Str × Addr)), ((x.1, NameKind.cell) ∈ names ∨ (acc.lookup x.1).isSome = true) → ((cellsFrom n names acc).lookup x.1).isSome = true := by
        intro names
        induction names with
        | nil => intro n acc z; rcases z with z | z; cases z; exact z
        | cons p r ih =>
          intro n acc z
          obtain ⟨y, kd⟩ := p
          unfold cellsFrom
          split
          · refine ih _ _ ?_
            by_cases hy : x.1 = y
            · right; rw [hy, List.lookup_cons]; simp
            · rcases z with z | z
              · rcases List.mem_cons.mp z with z | z
                · cases z; exact absurd rfl hy
                · exact .inl z
              · right
                rw [List.lookup_cons]
                have : (x.1 == y) = false := by simpa using hy
                rw [this]; exact z
          · rename_i ek
            refine ih _ _ ?_
            rcases z with z | z
            · rcases List.mem_cons.mp z with z | z
              · cases z; exact absurd rfl ek
              · exact .inl z
            · exact .inr z
      exact key _ _ _ (.inl (mem_of_lookup e))
  · have FF := def_FS (V := V) (s := ⟨h₀, g, dr, tk, os⟩) (name := name) (fa := fa) (cd := cd) T tp mok sm par hnb hkind hnf' hmu hnd hV F N X
    exact q _ _ _ h₁ tk₁ _ (m.deeper _) (fresh_none (Nat.le_refl _)) rfl FF

end Mine
namespace Mine

/-- the two sides of one market: askers W with likings L' of the things, things W' with likings L of the askers -/
structure Two (W L W' L' : NN) : Prop where
  g : Good W L
  g' : Good W' L'
  mem : ∀ a t, a < 3 → t < 3 → (t ∈ row W a ↔ a ∈ row W' t)
  ord : ∀ a, a < 3 → ∀ t ∈ row W a, ∀ u ∈ row W a, (row W a).idxOf t < (row W a).idxOf u → (row L' a).idxOf t < (row L' a).idxOf u
  ord' : ∀ t, t < 3 → ∀ a ∈ row W' t, ∀ b ∈ row W' t, (row W' t).idxOf a < (row W' t).idxOf b → (row L t).idxOf a < (row L t).idxOf b
variable {W L W' L' : NN}
theorem Two.swap (T : Two W L W' L') : Two W' L' W L := ⟨T.g', T.g, fun a t ha ht => (T.mem t a ht ha).symm, T.ord', T.ord⟩

/-- v gives each thing the asker that has it in w -/
structure Inverse (w v : Nat → Nat) : Prop where
  b : ∀ t, t < 3 → v t ≤ 3
  l : ∀ a t, a < 3 → t < 3 → (w a = t ↔ v t = a)
theorem Inverse.symm {w v : Nat → Nat} (I : Inverse w v) (hb : ∀ a, a < 3 → w a ≤ 3) : Inverse v w := ⟨hb, fun a t ha ht => (I.l t a ht ha).symm⟩

theorem Two.transfer (T : Two W L W' L') {w v : Nat → Nat} (I : Inverse w v) (S : Stable W L w) : Stable W' L' v where
  s1 := fun t ht h => (T.mem _ t h ht).mp (by
    have e := (I.l _ t h ht).mpr rfl
    have := S.s1 _ h (by rw [e]; exact ht)
    rw [e] at this; exact this)
  s2 := fun t u ht hu e h => by
    have x := (I.l _ t h ht).mpr rfl
    have y := (I.l _ u h hu).mpr e.symm
    rw [x] at y; exact y
  s3 := fun t ht a hm h => by
    have ha := T.g'.wb t ht a hm
    have tm : t ∈ row W a := (T.mem a t ha ht).mpr hm
    rcases Nat.lt_or_ge ((row W a).idxOf t) ((row W a).idxOf (w a)) with z | z
    · obtain ⟨b, hb, e, hl⟩ := S.s3 a ha t tm z
      have vb := (I.l b t hb ht).mp e
      rw [vb] at h
      have bm : b ∈ row W' t := (T.mem b t hb ht).mp (by have := S.s1 b hb (by rw [e]; exact ht); rw [e] at this; exact this)
      have := T.ord' t ht a hm b bm h
      omega
    · have ti := List.idxOf_lt_length_iff.mpr tm
      have um : w a ∈ row W a := List.idxOf_lt_length_iff.mp (by omega)
      have hu := T.g.wb a ha _ um
      have vu := (I.l a _ ha hu).mp rfl
      refine ⟨w a, hu, vu, T.ord a ha _ um _ tm ?_⟩
      rcases Nat.lt_or_ge ((row W a).idxOf (w a)) ((row W a).idxOf t) with y | y
      · exact y
      · have : t = w a := idx_inj tm (by omega)
        rw [← this] at vu
        rw [vu] at h
        omega
  s4 := I.b

variable {pos hold : List Nat}
theorem Inv.inverse (I : Inv W L [] pos hold) : Inverse (fun a => hold.idxOf a) (fun t => hold.getD t 0) :=
  ⟨I.ob, fun a t ha ht => ⟨fun e => by
    have e : hold.idxOf a = t := e
    have := I.wayD (a := a) (by omega)
    rw [e] at this; exact this, fun e => I.wayU ht ha e⟩⟩

/-- if the things ask, what they hold in the end is the askers' worst -/
theorem Two.worst (T : Two W L W' L') (I : Inv W' L' [] pos hold) : Stable W L (fun a => hold.getD a 0) ∧ ∀ w, Stable W L w → (∃ v, Inverse w v) → ∀ a, a < 3 → (row W a).idxOf (w a) ≤ (row W a).idxOf (hold.getD a 0) := by
  have S' := I.stable T.g'
  have inv := I.inverse
  refine ⟨T.swap.transfer inv S', fun w S ⟨v, iv⟩ a ha => ?_⟩
  rcases Nat.lt_or_ge ((row W a).idxOf (hold.getD a 0)) ((row W a).idxOf (w a)) with z | z
  · have rm : hold.getD a 0 ∈ row W a := List.idxOf_lt_length_iff.mp (Nat.lt_of_lt_of_le z List.idxOf_le_length)
    have hr := T.g.wb a ha _ rm
    obtain ⟨b, hb, e, hl⟩ := S.s3 a ha _ rm z
    have V := T.transfer iv S
    have best := I.best T.g' V hr
    have e1 : hold.idxOf (hold.getD a 0) = a := I.wayU ha hr rfl
    have e2 : v (hold.getD a 0) = b := (iv.l b _ hb hr).mp e
    rw [e1, e2] at best
    have am := (T.mem a _ ha hr).mp rm
    have bm : b ∈ row W' (hold.getD a 0) := (T.mem b _ hb hr).mp (by have := S.s1 b hb (by rw [e]; exact hr); rw [e] at this; exact this)
    have ba : (row W' (hold.getD a 0)).idxOf a ≠ (row W' (hold.getD a 0)).idxOf b := fun q => by
      have := idx_inj am q
      rw [← this] at hl
      omega
    have := T.ord' _ hr a am b bm (by omega)
    omega
  · exact z
end Mine
namespace Mine

def goodAt (L : NN) (way : List Nat) (a r : Nat) : Prop := r ∈ way ∧ ¬ (row L r).idxOf a < (row L r).idxOf (way.idxOf r)
def early (W : NN) (way : List Nat) (a : Nat) : List Nat := (row W a).take ((row W a ++ [3]).idxOf (way.getD a 0))
def Kept (W L : NN) (way : List Nat) : Prop := ∀ a, a < 3 → ∀ r ∈ early W way a, goodAt L way a r
/-- the same, as a Bool -/
noncomputable def keptB (W L : NN) (way : List Nat) : Bool := @decide (Kept W L way) (Classical.propDecidable _)
theorem keptB_iff {W L : NN} {way : List Nat} : keptB W L way = true ↔ Kept W L way := by
  unfold keptB
  exact @decide_eq_true_iff _ (Classical.propDecidable _)

def waysL (W : NN) : List (List Nat) := (row W 0 ++ [3]).flatMap fun a => ((row W 1 ++ [3]).filter fun b => b == 3 || b != a).flatMap fun b => ((row W 2 ++ [3]).filter fun c => c == 3 || !([a, b].contains c)).map fun c => [a, b, c]
/-- a way that may be -/
structure Way (W : NN) (way : List Nat) : Prop where
  len : way.length = 3
  mem : ∀ a, a < 3 → way.getD a 0 ∈ row W a ++ [3]
  inj : ∀ a b, a < 3 → b < 3 → way.getD a 0 = way.getD b 0 → way.getD a 0 < 3 → a = b

theorem three {P : Nat → Prop} (h0 : P 0) (h1 : P 1) (h2 : P 2) : ∀ a, a < 3 → P a
  | 0, _ => h0
  | 1, _ => h1
  | 2, _ => h2
  | n + 3, h => by omega

variable {W L W' L' : NN}
theorem mem_ways (G : Good W L) {way : List Nat} : way ∈ waysL W ↔ Way W way := by
  have le3 : ∀ k, k < 3 → ∀ x ∈ row W k ++ [3], x ≤ 3 := fun k hk x hx => by
    rcases List.mem_append.mp hx with z | z
    · have := G.wb k hk x z; omega
    · rw [List.mem_singleton.mp z]; omega
  unfold waysL
  simp only [List.mem_flatMap, List.mem_map, List.mem_filter, Bool.or_eq_true, beq_iff_eq, bne_iff_ne, ne_eq, Bool.not_eq_true', List.contains_eq_mem, decide_eq_false_iff_not, List.mem_cons, List.not_mem_nil, or_false, not_or]
  constructor
  · rintro ⟨a, ha, b, ⟨hb, hb'⟩, c, ⟨hc, hc'⟩, rfl⟩
    have a3 := le3 0 (by decide) a ha
    have b3 := le3 1 (by decide) b hb
    have c3 := le3 2 (by decide) c hc
    refine ⟨rfl, three ha hb hc, fun x y hx hy e h => ?_⟩
    have hx' : x = 0 ∨ x = 1 ∨ x = 2 := by omega
    have hy' : y = 0 ∨ y = 1 ∨ y = 2 := by omega
    rcases hx' with rfl | rfl | rfl <;> rcases hy' with rfl | rfl | rfl <;> simp at e h ⊢ <;> omega
  · intro w
    obtain ⟨a, b, c, rfl⟩ : ∃ a b c, way = [a, b, c] := by
      match way, w.len with
      | [a, b, c], _ => exact ⟨a, b, c, rfl⟩
    have ma := w.mem 0 (by decide)
    have mb := w.mem 1 (by decide)
    have mc := w.mem 2 (by decide)
    have a3 := le3 0 (by decide) _ ma
    have b3 := le3 1 (by decide) _ mb
    have c3 := le3 2 (by decide) _ mc
    have i1 := w.inj 1 0 (by decide) (by decide)
    have i2 := w.inj 2 0 (by decide) (by decide)
    have i3 := w.inj 2 1 (by decide) (by decide)
    simp at ma mb mc a3 b3 c3 i1 i2 i3
    refine ⟨a, by simpa using ma, b, ⟨by simpa using mb, ?_⟩, c, ⟨by simpa using mc, ?_⟩, rfl⟩
    · by_cases z : b = 3
      · exact .inl z
      · exact .inr fun e => by have := i1 e; omega
    · by_cases z : c = 3
      · exact .inl z
      · exact .inr ⟨fun e => by have := i2 e; omega, fun e => by have := i3 e; omega⟩

def wf (way : List Nat) (a : Nat) : Nat := way.getD a 0
theorem wf_mem {way : List Nat} (hl : way.length = 3) {r : Nat} : r ∈ way ↔ ∃ b, b < 3 ∧ way.getD b 0 = r := by
  match way, hl with
  | [a, b, c], _ =>
    constructor
    · intro h
      simp at h
      rcases h with rfl | rfl | rfl
      · exact ⟨0, by decide, rfl⟩
      · exact ⟨1, by decide, rfl⟩
      · exact ⟨2, by decide, rfl⟩
    · rintro ⟨x, hx, e⟩
      have hx' : x = 0 ∨ x = 1 ∨ x = 2 := by omega
      rcases hx' with rfl | rfl | rfl <;> simp at e <;> simp [e]
theorem Way.idx {way : List Nat} (w : Way W way) {b r : Nat} (hb : b < 3) (e : way.getD b 0 = r) (hr : r < 3) : way.idxOf r = b := by
  have hm : r ∈ way := (wf_mem w.len).mpr ⟨b, hb, e⟩
  have hi := List.idxOf_lt_length_iff.mpr hm
  have h3 : way.idxOf r < 3 := by rw [w.len] at hi; exact hi
  have e2 : way.getD (way.idxOf r) 0 = r := by rw [getD_at hi, List.getElem_idxOf]
  exact w.inj _ _ h3 hb (e2.trans e.symm) (by omega)
theorem place_eq (G : Good W L) {a x : Nat} (ha : a < 3) (hx : x ∈ row W a ++ [3]) : (row W a ++ [3]).idxOf x = (row W a).idxOf x := by
  by_cases z : x ∈ row W a
  · rw [List.idxOf_append, if_pos z]
  · rw [List.idxOf_append, if_neg z]
    have : x = 3 := by
      rcases List.mem_append.mp hx with y | y
      · exact absurd y z
      · exact List.mem_singleton.mp y
    rw [List.idxOf_eq_length z, this]; simp
theorem mem_take_idx {l : List Nat} (hn : l.Nodup) {n x : Nat} : x ∈ l.take n ↔ x ∈ l ∧ l.idxOf x < n := by
  constructor
  · intro h
    obtain ⟨i, hi, e⟩ := List.getElem_of_mem h
    rw [List.getElem_take] at e
    simp at hi
    refine ⟨List.mem_of_mem_take h, ?_⟩
    rw [← e, hn.idxOf_getElem]
    omega
  · rintro ⟨h1, h2⟩
    have hi := List.idxOf_lt_length_iff.mpr h1
    have : l[l.idxOf x] = x := List.getElem_idxOf hi
    rw [← this]
    rw [List.mem_take_iff_getElem]
    exact ⟨l.idxOf x, by omega, rfl⟩

theorem kept_stable (G : Good W L) {way : List Nat} (w : Way W way) : Kept W L way ↔ Stable W L (fun a => way.getD a 0) := by
  have w3 : ∀ a, a < 3 → way.getD a 0 ≤ 3 := fun a ha => by
    rcases List.mem_append.mp (w.mem a ha) with z | z
    · have := G.wb a ha _ z; omega
    · rw [List.mem_singleton.mp z]; omega
  constructor
  · intro k
    refine ⟨fun a ha h => ?_, fun a b ha hb e h => w.inj a b ha hb e h, fun a ha t tm h => ?_, w3⟩
    · rcases List.mem_append.mp (w.mem a ha) with z | z
      · exact z
      · have h : way.getD a 0 < 3 := h
        rw [List.mem_singleton.mp z] at h; omega
    · have ht := G.wb a ha t tm
      have te : t ∈ early W way a := (mem_take_idx (G.wn a ha)).mpr ⟨tm, by rw [place_eq G ha (w.mem a ha)]; exact h⟩
      obtain ⟨k1, k2⟩ := k a ha t te
      obtain ⟨b, hb, e⟩ := (wf_mem w.len).mp k1
      rw [w.idx hb e ht] at k2
      refine ⟨b, hb, e, ?_⟩
      rcases Nat.lt_or_ge ((row L t).idxOf b) ((row L t).idxOf a) with z | z
      · exact z
      · have : b = a := idx_inj (G.lm t ht b hb) (by omega)
        subst this
        have h : (row W b).idxOf t < (row W b).idxOf (way.getD b 0) := h
        rw [e] at h; omega
  · intro S a ha t te
    obtain ⟨tm, ti⟩ := (mem_take_idx (G.wn a ha)).mp te
    rw [place_eq G ha (w.mem a ha)] at ti
    have ht := G.wb a ha t tm
    obtain ⟨b, hb, e, hl⟩ := S.s3 a ha t tm ti
    refine ⟨(wf_mem w.len).mpr ⟨b, hb, e⟩, ?_⟩
    rw [w.idx hb e ht]
    omega
end Mine
namespace Mine
variable {W L W' L' : NN} {pos hold : List Nat}

def place (W : NN) (way : List Nat) (a : Nat) : Nat := (row W a ++ [3]).idxOf (way.getD a 0)
/-- the way that the askers' run leaves -/
def optW (hold : List Nat) : List Nat := [hold.idxOf 0, hold.idxOf 1, hold.idxOf 2]
theorem optW_at {a : Nat} (ha : a < 3) : (optW hold).getD a 0 = hold.idxOf a := by
  have : a = 0 ∨ a = 1 ∨ a = 2 := by omega
  rcases this with rfl | rfl | rfl <;> rfl
theorem Stable.congr {w v : Nat → Nat} (S : Stable W L w) (h : ∀ a, a < 3 → v a = w a) : Stable W L v where
  s1 := fun a ha x => by rw [h a ha] at x ⊢; exact S.s1 a ha x
  s2 := fun a b ha hb e x => by rw [h a ha, h b hb] at e; rw [h a ha] at x; exact S.s2 a b ha hb e x
  s3 := fun a ha t tm x => by
    rw [h a ha] at x
    obtain ⟨b, hb, e, l⟩ := S.s3 a ha t tm x
    exact ⟨b, hb, by rw [h b hb]; exact e, l⟩
  s4 := fun a ha => by rw [h a ha]; exact S.s4 a ha
theorem Stable.way (G : Good W L) {way : List Nat} (hl : way.length = 3) (S : Stable W L (fun a => way.getD a 0)) : Way W way where
  len := hl
  mem := fun a ha => by
    rcases Nat.lt_or_ge (way.getD a 0) 3 with z | z
    · exact List.mem_append.mpr (.inl (S.s1 a ha z))
    · have z3 : way.getD a 0 ≤ 3 := S.s4 a ha
      have : way.getD a 0 = 3 := by omega
      rw [this]; simp
  inj := fun a b ha hb e h => S.s2 a b ha hb e h
theorem Way.inverse {way : List Nat} (w : Way W way) (G : Good W L) : Inverse (fun a => way.getD a 0) (fun t => way.idxOf t) where
  b := fun t _ => by
    have h := List.idxOf_le_length (l := way) (a := t)
    rw [w.len] at h; exact h
  l := fun a t ha ht => ⟨fun e => w.idx ha e ht, fun e => by
    have e : way.idxOf t = a := e
    have h : way.idxOf t < way.length := by rw [w.len, e]; exact ha
    show way.getD a 0 = t
    rw [← e, getD_at h, List.getElem_idxOf]⟩

theorem optimal (G : Good W L) (I : Inv W L [] pos hold) : Way W (optW hold) ∧ Kept W L (optW hold) ∧ ∀ way, Way W way → Kept W L way → ∀ a, a < 3 → place W (optW hold) a ≤ place W way a := by
  have S := (I.stable G).congr (v := fun a => (optW hold).getD a 0) fun a ha => optW_at ha
  have w := S.way G rfl
  refine ⟨w, (kept_stable G w).mpr S, fun way wy k a ha => ?_⟩
  unfold place
  rw [place_eq G ha (w.mem a ha), place_eq G ha (wy.mem a ha), optW_at ha]
  exact I.best G ((kept_stable G wy).mp k) ha
theorem pessimal (T : Two W L W' L') (I : Inv W' L' [] pos hold) : Way W hold ∧ Kept W L hold ∧ ∀ way, Way W way → Kept W L way → ∀ a, a < 3 → place W way a ≤ place W hold a := by
  obtain ⟨S, best⟩ := T.worst I
  have w := S.way T.g I.hl
  refine ⟨w, (kept_stable T.g w).mpr S, fun way wy k a ha => ?_⟩
  unfold place
  rw [place_eq T.g ha (w.mem a ha), place_eq T.g ha (wy.mem a ha)]
  exact best _ ((kept_stable T.g wy).mp k) ⟨_, wy.inverse T.g⟩ a ha

theorem place_at {W : NN} {way : List Nat} (w : Way W way) {a : Nat} (ha : a < 3) : (row W a ++ [3])[place W way a]? = some (way.getD a 0) := at_idx (w.mem a ha)
/-- how often each asked -/
theorem asked_opt (G : Good W L) (I : Inv W L [] pos hold) {a : Nat} (ha : a < 3) : (if hold.idxOf a < 3 then (row W a).idxOf (hold.idxOf a) + 1 else (row W a).length) = pos.getD a 0 := by
  split
  · rename_i z; exact (I.last G ha z).2
  · rename_i z
    have := I.way3 a
    exact (I.none ha (by omega)).symm
/-- the three of them, as lists -/
theorem pos3 {l : List Nat} (h : l.length = 3) : l = [l.getD 0 0, l.getD 1 0, l.getD 2 0] := by
  match l, h with
  | [a, b, c], _ => rfl
theorem mem_hold (I : Inv W L [] pos hold) {a : Nat} : a ∈ hold ↔ hold.idxOf a < 3 := by
  rw [← List.idxOf_lt_length_iff, I.hl]
end Mine
namespace Mine
open PySem PySem.Calls PyProof.Rows
abbrev pw : Program := PySem.Challenge.pw_un0015_01
def dN (i : Nat) : Str := match pw.main.body[i]? with
  | some (.FunctionDef n _ _ _ _ _ _ _ _ _) => n
  | _ => ""
def dP (i : Nat) : Arguments := match pw.main.body[i]? with
  | some (.FunctionDef _ a _ _ _ _ _ _ _ _) => a
  | _ => { posonlyargs := [], args := [], vararg := none, kwonlyargs := [], kw_defaults := [], kwarg := none, defaults := [] }
def dB (i : Nat) : List Stmt := match pw.main.body[i]? with
  | some (.FunctionDef _ _ b _ _ _ _ _ _ _) => b
  | _ => []
def dS (i : Nat) : Scope := match pw.main.body[i]? with
  | some (.FunctionDef _ _ _ _ _ _ s _ _ _) => s
  | _ => { kind := .function, names := [], isGenerator := false, isCoroutine := false }
variable {w : World} {top : Heap} {mg mb : Str → Option Value}

theorem PF_ifmt {fa : Addr} (T : GT top mg mb) (f : Fn top mg (dN 1) (dP 1) (dB 1) (dS 1) fa) : PF pw w 1 top fa fun ds d => ∃ i, ds = [.int i] ∧ d = .int (Builtin.bitAnd i 61440) := by
  refine PF.intro ["mode"] f T (by decide +kernel) ?_ ?_
  · exact vals1 fun a pm cd doc => rfl
  rintro _ _ ⟨i, rfl, rfl⟩
  refine ⟨_, .cons .nil, ?_⟩
  intro M h₀ h₁ L cd W A g dr tk os Q m tp F mk q
  refine x_seq ?_
  have H := F.en
  refine s_return F m (ev_bin H (ev_name H rfl rfl (by decide +kernel)) ev_int bo_and) ?_
  intro v h' tk' F' r
  exact q v _ _ _ h' tk' F' r
end Mine
namespace Mine
open PySem PySem.Calls PyProof.Rows
variable {w : World} {top : Heap} {mg mb : Str → Option Value}

/-- a smaller picture of the names -/
inductive Sub (big : List (Str × Bd)) : List (Str × Bd) → Prop
  | nil : Sub big []
  | cons {x b c} : big.lookup x = some b → Sub big c → Sub big ((x, b) :: c)
theorem Sub.look {big c : List (Str × Bd)} (s : Sub big c) : ∀ x b, c.lookup x = some b → big.lookup x = some b := by
  induction s with
  | nil => intro x b e; cases e
  | @cons y d c l _ ih =>
    intro x b e
    rw [List.lookup_cons] at e
    by_cases z : x == y
    · rw [z] at e
      rw [eq_of_beq z]
      cases e; exact l
    · rw [Bool.eq_false_iff.mpr z] at e
      exact ih x b e
theorem FS.norm {C : Cx} {org h : Heap} {σ c : List (Str × Bd)} {M : List Addr} {μ} (F : FS C org σ M μ h) (s : Sub σ c) : FS C org c M μ h := F.look s.look

def pr (p : Int × Int) : PyData := .tuple [.int p.1, .int p.2]
def prs (ps : List (Int × Int)) : List PyData := ps.map pr
theorem prs_at {ps : List (Int × Int)} {i : Nat} (hi : i < ps.length) : (prs ps)[i]? = some (pr ps[i]) := by
  unfold prs; rw [List.getElem?_map, List.getElem?_eq_getElem hi]; rfl
theorem prs_set {ps : List (Int × Int)} {i : Nat} {p : Int × Int} : (prs ps).set i (pr p) = prs (ps.set i p) := by
  unfold prs; rw [List.map_set]
theorem prs_len {ps : List (Int × Int)} : (prs ps).length = ps.length := by unfold prs; simp
theorem pr_inj : ∀ {a b : Int × Int}, pr a = pr b → a = b
  | (a, b), (c, d), e => by
    unfold pr at e
    injection e with e
    injection e with e1 e
    injection e with e2 _
    injection e1 with e1
    injection e2 with e2
    simp only at e1 e2
    rw [e1, e2]
theorem prs_inj : ∀ {a b : List (Int × Int)}, prs a = prs b → a = b
  | [], [], _ => rfl
  | x :: a, y :: b, e => by
    unfold prs at e
    injection e with e1 e2
    rw [pr_inj e1, prs_inj e2]
  | [], _ :: _, e => by cases e
  | _ :: _, [], e => by cases e

theorem erase_perm {α} : ∀ {l : List α} {p : Nat} (hp : p < l.length), (l[p] :: l.eraseIdx p).Perm l
  | x :: r, 0, _ => .refl _
  | x :: r, p + 1, hp => by
    have ih := erase_perm (l := r) (p := p) (by simpa using hp)
    rw [List.getElem_cons_succ, List.eraseIdx_cons_succ]
    exact (List.Perm.swap _ _ _).trans (.cons _ ih)
theorem set_perm {α} {l : List α} {p : Nat} {x : α} (hp : p < l.length) : (l.set p x).Perm (x :: l.eraseIdx p) := by
  have h := erase_perm (l := l.set p x) (p := p) (by simpa using hp)
  rw [List.getElem_set_self, List.eraseIdx_set_eq] at h
  exact h.symm
theorem move_perm {α} {l : List α} {p q : Nat} {x : α} (hp : p < l.length) (hq : q < l.length) : ((l.set p l[q]).set q x).Perm (l.set p x) := by
  have hq' : q < (l.set p l[q]).length := by simpa using hq
  have h1 := set_perm (l := l.set p l[q]) (x := x) hq'
  have h2 := erase_perm (l := l.set p l[q]) (p := q) hq'
  have h3 : (l.set p l[q])[q] = l[q] := by
    rw [List.getElem_set]; split <;> rfl
  rw [h3] at h2
  have h4 := (h2.trans (set_perm (x := l[q]) hp)).cons_inv
  exact h1.trans ((List.Perm.cons x h4).trans (set_perm (x := x) hp).symm)

/-- a def that puts the list's items into another order -/
def permSpec (ds : List PyData) (args : List PyData) (ds' : List PyData) (d : PyData) : Prop := d = .none ∧ ∀ ps, ds = prs ps → ∃ ps', ds' = prs ps' ∧ ps'.Perm ps
theorem permSpec.mk {ps ps' : List (Int × Int)} {args} (h : ps'.Perm ps) : permSpec (prs ps) args (prs ps') .none := ⟨rfl, fun qs e => ⟨ps', rfl, by rw [← prs_inj e]; exact h⟩⟩

theorem PM_down {fa : Addr} (T : GT top mg mb) (f : Fn top mg (dN 31) (dP 31) (dB 31) (dS 31) fa) : PM pw w 1 top fa (fun ds args => ∃ ps i j, ds = prs ps ∧ args = [.int (i : Nat), .int (j : Nat)] ∧ j < ps.length ∧ ps.length ≤ 100) permSpec := by
  refine PM.intro "heap" ["startpos", "pos"] f T (by decide +kernel) ?_ ?_
  · exact vals3 fun a b c pm cd doc => rfl
  rintro _ _ ⟨ps, i, j, rfl, rfl, hj, hn⟩
  refine ⟨_, .cons (.cons .nil), ?_⟩
  intro M a h₀ h₁ L cd W A g dr tk os Q m tp F mk q
  refine x_seq (s_assign F m (d := pr ps[j]) (ev_litem F rfl rfl (.head _) (by decide +kernel) (ev_name F.en rfl rfl (by decide +kernel)) (by omega) (by omega) (by rw [Int.toNat_natCast]; exact prs_at hj)) rfl rfl fun h₂ t₂ F₂ => ?_)
  refine x_seq (s_while F₂ m (fun n σ μ => ∃ qs, n < ps.length ∧ qs.length = ps.length ∧ (qs.set n ps[j]).Perm ps ∧ μ = [(a, prs qs)] ∧
    Sub σ [("pos", .d (.int (n : Nat))), ("newitem", .d (pr ps[j])), ("startpos", .d (.int (i : Nat))), ("heap", .r (.ref a))]) j ?_ ?_)
  · exact ⟨ps, hj, rfl, by rw [List.set_getElem_self], rfl, .cons rfl (.cons rfl (.cons rfl (.cons rfl .nil)))⟩
  rintro n σ μ h₃ ⟨qs, hn1, hl, hp, rfl, sb⟩ F₃
  have F₃ := F₃.norm sb
  refine ⟨_, tv_cmp (M₁ := M) (M₂ := M) (ev_name F₃.en rfl rfl (by decide +kernel)) (ev_name F₃.en rfl rfl (by decide +kernel)) cm_gt rfl, fun hgt h₄ t₄ E' F₄ => ?_, fun hle h₄ t₄ E' F₄ => ?_⟩
  · have hgt := of_decide_eq_true hgt
    have F₄ := F₄.norm sb
    have hpp : (n - 1) / 2 < qs.length := by omega
    refine x_seq (s_assign F₄ m (d := .int (((n - 1) / 2 : Nat) : Int)) ((ev_bin F₄.en (ev_bin F₄.en (ev_name F₄.en rfl rfl (by decide +kernel)) ev_int bo_sub) ev_int (bo_shr (by decide))).cast ?_) rfl rfl fun h₅ t₅ F₅ => ?_)
    · congr 1
      show ((n : Int) - 1).fdiv 2 = _
      rw [Int.fdiv_eq_ediv_of_nonneg _ (by decide)]
      omega
    refine x_seq (s_assign F₅ m (d := pr qs[(n - 1) / 2]) (ev_litem F₅ rfl rfl (.head _) (by decide +kernel) (ev_name F₅.en rfl rfl (by decide +kernel)) (by omega) (by omega) (by rw [Int.toNat_natCast]; exact prs_at hpp)) rfl rfl fun h₆ t₆ F₆ => ?_)
    refine x_seq (s_if F₆ m (tv_cmp (M₁ := M) (M₂ := M) (ev_name F₆.en rfl rfl (by decide +kernel)) (ev_name F₆.en rfl rfl (by decide +kernel)) cm_tlt rfl) (fun _ h₇ t₇ _ F₇ => ?_) fun _ h₇ t₇ _ F₇ => ?_)
    · refine x_seq (s_setitem F₇ m (ev_name F₇.en rfl rfl (by decide +kernel)) (ev_name F₇.en rfl rfl (by decide +kernel)) rfl rfl (by decide +kernel) rfl (by rw [prs_len]; omega) (by rw [prs_len]; omega) fun h₈ t₈ F₈ => ?_)
      rw [prs_set] at F₈
      refine x_seq (s_assign F₈ m (ev_name F₈.en rfl rfl (by decide +kernel)) rfl rfl fun h₉ t₉ F₉ => ?_)
      refine x_seq (wpAny_Continue ?_)
      refine ⟨(n - 1) / 2, _, _, h₉, t₉, by omega, rfl, F₉, qs.set n qs[(n - 1) / 2], by omega, by simpa using hl, ?_, rfl, .cons rfl (.cons rfl (.cons rfl (.cons rfl .nil)))⟩
      exact (move_perm (by omega) hpp).trans hp
    · refine wpAny_execs_nil ?_
      refine x_seq (wpAny_Break ?_)
      refine x_seq (s_setitem F₇ m (ev_name F₇.en rfl rfl (by decide +kernel)) (ev_name F₇.en rfl rfl (by decide +kernel)) rfl rfl (by decide +kernel) rfl (by rw [prs_len]; omega) (by rw [prs_len]; omega) fun h₈ t₈ F₈ => ?_)
      rw [prs_set] at F₈
      exact wpAny_execs_nil (q .none _ _ _ _ _ F₈ (permSpec.mk hp) .none)
  · have F₄ := F₄.norm sb
    refine wpAny_execs_nil ?_
    refine x_seq (s_setitem F₄ m (ev_name F₄.en rfl rfl (by decide +kernel)) (ev_name F₄.en rfl rfl (by decide +kernel)) rfl rfl (by decide +kernel) rfl (by rw [prs_len]; omega) (by rw [prs_len]; omega) fun h₈ t₈ F₈ => ?_)
    rw [prs_set] at F₈
    exact wpAny_execs_nil (q .none _ _ _ _ _ F₈ (permSpec.mk hp) .none)
end Mine
namespace Mine
open PySem PySem.Calls PyProof.Rows
variable {w : World} {top : Heap} {mg mb : Str → Option Value}

/-- what the program's defs find at the top -/
structure PG (top : Heap) (mg mb : Str → Option Value) : Prop where
  T : GT top mg mb
  len : mg "len" = none ∧ mb "len" = some (.builtin "len")
  sum : mg "sum" = none ∧ mb "sum" = some (.builtin "sum")
  min : mg "min" = none ∧ mb "min" = some (.builtin "min")
  max : mg "max" = none ∧ mb "max" = some (.builtin "max")
  hex : mg "hex" = none ∧ mb "hex" = some (.builtin "hex")
  iter : mg "iter" = none ∧ mb "iter" = some (.builtin "iter")
  next : mg "next" = none ∧ mb "next" = some (.builtin "next")
  range : mg "range" = none ∧ mb "range" = some (.type "range")
  enumerate : mg "enumerate" = none ∧ mb "enumerate" = some (.type "enumerate")
  reversed : mg "reversed" = none ∧ mb "reversed" = some (.type "reversed")
  stop : mg "StopIteration" = none ∧ mb "StopIteration" = some (.type "StopIteration")

abbrev FnI (top : Heap) (mg : Str → Option Value) (i : Nat) (fa : Addr) : Prop := Fn top mg (dN i) (dP i) (dB i) (dS i) fa
def downPre (ds args : List PyData) : Prop := ∃ ps i j, ds = prs ps ∧ args = [.int (i : Nat), .int (j : Nat)] ∧ j < ps.length ∧ ps.length ≤ 100

theorem PM_up {fa fd : Addr} (G : PG top mg mb) (f : FnI top mg 32 fa) (fdn : FnI top mg 31 fd) : PM pw w 2 top fa (fun ds args => ∃ ps i, ds = prs ps ∧ args = [.int (i : Nat)] ∧ i < ps.length ∧ ps.length ≤ 100) permSpec := by
  have PD := PM_down (w := w) G.T fdn
  refine PM.intro "heap" ["pos"] f G.T (by decide +kernel) ?_ ?_
  · exact vals2 fun a b pm cd doc => rfl
  rintro _ _ ⟨ps, i, rfl, rfl, hi, hn⟩
  refine ⟨_, .cons .nil, ?_⟩
  intro M a h₀ h₁ L cd W A g dr tk os Q m tp F mk q
  refine x_seq (s_assign F m (d := .int (ps.length : Nat)) ((ev_len F.en rfl G.len.1 G.len.2 (ev_raw F rfl rfl (.head _) (by decide +kernel)) (fun _ => rfl) (by rw [prs_len]; omega)).cast (by rw [prs_len])) rfl rfl fun h₂ t₂ F₂ => ?_)
  refine x_seq (s_assign F₂ m (ev_name F₂.en rfl rfl (by decide +kernel)) rfl rfl fun h₃ t₃ F₃ => ?_)
  refine x_seq (s_assign F₃ m (d := pr ps[i]) (ev_litem F₃ rfl rfl (.head _) (by decide +kernel) (ev_name F₃.en rfl rfl (by decide +kernel)) (by omega) (by omega) (by rw [Int.toNat_natCast]; exact prs_at hi)) rfl rfl fun h₄ t₄ F₄ => ?_)
  refine x_seq (s_assign F₄ m (d := .int ((2 * i + 1 : Nat) : Int)) ((ev_bin F₄.en (ev_bin F₄.en ev_int (ev_name F₄.en rfl rfl (by decide +kernel)) (bo_mulL (by decide))) ev_int bo_add).cast (by congr 1)) rfl rfl fun h₅ t₅ F₅ => ?_)
  refine x_seq (s_while F₅ m (fun n σ μ => ∃ qs p, n = ps.length - p ∧ p < ps.length ∧ qs.length = ps.length ∧ (qs.set p ps[i]).Perm ps ∧ μ = [(a, prs qs)] ∧
    Sub σ [("childpos", .d (.int ((2 * p + 1 : Nat) : Int))), ("pos", .d (.int (p : Nat))), ("newitem", .d (pr ps[i])), ("startpos", .d (.int (i : Nat))), ("endpos", .d (.int (ps.length : Nat))), ("heap", .r (.ref a))]) (ps.length - i) ?_ ?_)
  · exact ⟨ps, i, rfl, hi, rfl, by rw [List.set_getElem_self], rfl, .cons rfl (.cons rfl (.cons rfl (.cons rfl (.cons rfl (.cons rfl .nil)))))⟩
  rintro n σ μ h₃ ⟨qs, p, rfl, hp1, hl, hp, rfl, sb⟩ F₃
  have F₃ := F₃.norm sb
  refine ⟨_, tv_cmp (M₁ := M) (M₂ := M) (ev_name F₃.en rfl rfl (by decide +kernel)) (ev_name F₃.en rfl rfl (by decide +kernel)) cm_lt rfl, fun hlt h₄ t₄ E' F₄ => ?_, fun hle h₄ t₄ E' F₄ => ?_⟩
  · have hlt := of_decide_eq_true hlt
    have F₄ := F₄.norm sb
    have hc : 2 * p + 1 < qs.length := by omega
    refine x_seq (s_assign F₄ m (d := .int ((2 * p + 2 : Nat) : Int)) ((ev_bin F₄.en (ev_name F₄.en rfl rfl (by decide +kernel)) ev_int bo_add).cast (by congr 1)) rfl rfl fun h₅ t₅ F₅ => ?_)
    refine x_if (fun σ' μ' => ∃ c, c < qs.length ∧ p < c ∧ μ' = [(a, prs qs)] ∧ Sub σ' [("childpos", .d (.int (c : Nat))), ("pos", .d (.int (p : Nat))), ("newitem", .d (pr ps[i])), ("startpos", .d (.int (i : Nat))), ("endpos", .d (.int (ps.length : Nat))), ("heap", .r (.ref a))]) F₅ m
      (tv_and2 (tv_cmp (M₁ := M) (M₂ := M) (ev_name F₅.en rfl rfl (by decide +kernel)) (ev_name F₅.en rfl rfl (by decide +kernel)) cm_lt rfl) fun z => tv_not (tv_cmp (M₁ := M) (M₂ := M)
          (ev_litem F₅ rfl rfl (.head _) (by decide +kernel) (ev_name F₅.en rfl rfl (by decide +kernel)) (by omega) (by omega) (by rw [Int.toNat_natCast]; exact prs_at hc))
          (ev_litem (d := pr ((qs[2 * p + 2]?).getD (0, 0))) F₅ rfl rfl (.head _) (by decide +kernel) (ev_name F₅.en rfl rfl (by decide +kernel)) (by omega) (by omega) (by
            have hr := of_decide_eq_true z
            rw [Int.toNat_natCast, prs_at (ps := qs) (by omega), List.getElem?_eq_getElem (by omega)]; rfl)) cm_tlt rfl)) (fun e h' tk' F' => ?_) (fun e h' tk' F' => ?_) ?_
    · refine x_seq (s_assign F' m (ev_name F'.en rfl rfl (by decide +kernel)) rfl rfl fun h₆ t₆ F₆ => ?_)
      exact wpAny_execs_nil ⟨_, _, h₆, t₆, rfl, F₆, 2 * p + 2, (by have := of_decide_eq_true (Bool.and_eq_true_iff.mp e).1; omega), by omega, rfl, .cons rfl (.cons rfl (.cons rfl (.cons rfl (.cons rfl (.cons rfl .nil)))))⟩
    · exact wpAny_execs_nil ⟨_, _, h', tk', rfl, F', 2 * p + 1, hc, by omega, rfl, .cons rfl (.cons rfl (.cons rfl (.cons rfl (.cons rfl (.cons rfl .nil)))))⟩
    rintro σ' μ' h' tk' ⟨c, hcl, hpc, rfl, sb'⟩ F'
    have F' := F'.norm sb'
    refine x_seq (s_setitem F' m (d := pr qs[c]) (ev_litem F' rfl rfl (.head _) (by decide +kernel) (ev_name F'.en rfl rfl (by decide +kernel)) (by omega) (by omega) (by rw [Int.toNat_natCast]; exact prs_at hcl)) (ev_name F'.en rfl rfl (by decide +kernel)) rfl rfl (by decide +kernel) rfl (by rw [prs_len]; omega) (by rw [prs_len]; omega) fun h₈ t₈ F₈ => ?_)
    rw [prs_set] at F₈
    refine x_seq (s_assign F₈ m (ev_name F₈.en rfl rfl (by decide +kernel)) rfl rfl fun h₉ t₉ F₉ => ?_)
    refine x_seq (s_assign F₉ m (d := .int ((2 * c + 1 : Nat) : Int)) ((ev_bin F₉.en (ev_bin F₉.en ev_int (ev_name F₉.en rfl rfl (by decide +kernel)) (bo_mulL (by decide))) ev_int bo_add).cast (by congr 1)) rfl rfl fun h₅ t₅ F₅ => ?_)
    refine wpAny_execs_nil ⟨ps.length - c, _, _, h₅, t₅, by omega, rfl, F₅, qs.set p qs[c], c, rfl, by omega, by simpa using hl, ?_, rfl, .cons rfl (.cons rfl (.cons rfl (.cons rfl (.cons rfl (.cons rfl .nil)))))⟩
    exact (move_perm (by omega) hcl).trans hp
  · have F₄ := F₄.norm sb
    refine wpAny_execs_nil ?_
    refine x_seq (s_setitem F₄ m (ev_name F₄.en rfl rfl (by decide +kernel)) (ev_name F₄.en rfl rfl (by decide +kernel)) rfl rfl (by decide +kernel) rfl (by rw [prs_len]; omega) (by rw [prs_len]; omega) fun h₈ t₈ F₈ => ?_)
    rw [prs_set] at F₈
    refine x_seq (s_mut F₈ m fdn PD (by omega) rfl (by decide +kernel) rfl rfl (by decide +kernel) (.cons (ev_name F₈.en rfl rfl (by decide +kernel)) (.cons (ev_name F₈.en rfl rfl (by decide +kernel)) .nil (fun _ => rfl)) (fun _ => rfl))
      ⟨_, i, p, rfl, rfl, by simpa using by omega, by simpa using by omega⟩ rfl rfl (fun _ _ z => z.1) fun h₉ t₉ ds' sp F₉ => ?_)
    obtain ⟨qs', e, hp'⟩ := sp.2 _ rfl
    subst e
    exact wpAny_execs_nil (q .none _ _ _ _ _ F₉ (permSpec.mk (hp'.trans hp)) .none)
end Mine
namespace Mine
open PySem PySem.Calls PyProof.Rows
variable {w : World} {top : Heap} {mg mb : Str → Option Value}

def pushPre (ds args : List PyData) : Prop := ∃ ps x, ds = prs ps ∧ args = [pr x] ∧ ps.length ≤ 90
def pushSpec (ds args : List PyData) (ds' : List PyData) (d : PyData) : Prop := d = .none ∧ ∀ ps x, ds = prs ps → args = [pr x] → ∃ ps', ds' = prs ps' ∧ ps'.Perm (x :: ps)
theorem PM_push {fa fd : Addr} (G : PG top mg mb) (f : FnI top mg 28 fa) (fdn : FnI top mg 31 fd) : PM pw w 2 top fa pushPre pushSpec := by
  have PD := PM_down (w := w) G.T fdn
  refine PM.intro "heap" ["item"] f G.T (by decide +kernel) ?_ ?_
  · exact vals2 fun a b pm cd doc => rfl
  rintro _ _ ⟨ps, x, rfl, rfl, hn⟩
  refine ⟨_, .cons .nil, ?_⟩
  intro M a h₀ h₁ L cd W A g dr tk os Q m tp F mk q
  refine x_seq (s_append F m (ev_name F.en rfl rfl (by decide +kernel)) rfl rfl (by decide +kernel) (fun _ => rfl) rfl rfl rfl (by rw [prs_len]; omega) fun h₂ t₂ F₂ => ?_)
  have e1 : prs ps ++ [pr x] = prs (ps ++ [x]) := by unfold prs; rw [List.map_append]; rfl
  rw [e1] at F₂
  refine x_seq (s_mut F₂ m fdn PD (by omega) rfl (by decide +kernel) rfl rfl (by decide +kernel)
    (.cons ev_int (.cons ((ev_bin F₂.en (ev_len F₂.en rfl G.len.1 G.len.2 (ev_raw F₂ rfl rfl (.head _) (by decide +kernel)) (fun _ => rfl) (by rw [prs_len]; simp; omega)) ev_int bo_sub).cast (d' := .int (ps.length : Nat)) (by
      rw [prs_len]; simp)) .nil (fun _ => rfl)) (fun _ => rfl))
    ⟨_, 0, ps.length, rfl, rfl, by simp, by simp; omega⟩ rfl rfl (fun _ _ z => z.1) fun h₃ t₃ ds' sp F₃ => ?_)
  obtain ⟨qs', e, hp'⟩ := sp.2 _ rfl
  subst e
  refine wpAny_execs_nil (q .none _ _ _ _ _ F₃ ⟨rfl, fun ps₁ x₁ z1 z2 => ⟨qs', rfl, ?_⟩⟩ .none)
  rw [← prs_inj z1]
  injection z2 with z2 _
  rw [← pr_inj z2]
  exact hp'.trans (List.perm_append_singleton _ _)

def popPre (ds args : List PyData) : Prop := ∃ ps, ds = prs ps ∧ args = [] ∧ ps ≠ [] ∧ ps.length ≤ 90
def popSpec (ds args : List PyData) (ds' : List PyData) (d : PyData) : Prop := ∃ x, d = pr x ∧ ∀ ps, ds = prs ps → ∃ ps', ds' = prs ps' ∧ (x :: ps').Perm ps
theorem PM_pop {fa fu fd : Addr} (G : PG top mg mb) (f : FnI top mg 29 fa) (fup : FnI top mg 32 fu) (fdn : FnI top mg 31 fd) : PM pw w 3 top fa popPre popSpec := by
  have PU := PM_up (w := w) G fup fdn
  refine PM.intro "heap" [] f G.T (by decide +kernel) ?_ ?_
  · exact vals1 fun a pm cd doc => rfl
  rintro _ _ ⟨ps, rfl, rfl, hne, hn⟩
  obtain ⟨qs, z, rfl⟩ : ∃ qs z, ps = qs ++ [z] := ⟨ps.dropLast, ps.getLast hne, (List.dropLast_concat_getLast hne).symm⟩
  have e1 : prs (qs ++ [z]) = prs qs ++ [pr z] := by unfold prs; rw [List.map_append]; rfl
  have hq : qs.length ≤ 89 := by simp at hn; omega
  refine ⟨_, .nil, ?_⟩
  intro M a h₀ h₁ L cd W A g dr tk os Q m tp F mk q
  rw [e1] at F
  refine x_seq (s_assignX F (fun μ' d => μ' = [(a, prs qs)] ∧ d = pr z) rfl rfl (fun Q' z' => call_pop F rfl rfl (by decide +kernel) rfl (by rw [prs_len]; omega) fun v h' tk' F' r => z' v h' tk' _ _ ⟨rfl, rfl⟩ F' r) fun h₂ t₂ μ' d hr F₂ => ?_)
  obtain ⟨rfl, rfl⟩ := hr
  refine x_seq (s_if F₂ m (tv_list (ev_raw F₂ rfl rfl (.head _) (by decide +kernel)) (by rw [prs_len]; omega)) (fun hb h₃ t₃ _ F₃ => ?_) fun hb h₃ t₃ _ F₃ => ?_)
  · obtain ⟨y, r, rfl⟩ : ∃ y r, qs = y :: r := by
      cases qs with
      | nil => cases hb
      | cons y r => exact ⟨y, r, rfl⟩
    refine x_seq (s_assign F₃ m (d := pr y) (ev_litem F₃ rfl rfl (.head _) (by decide +kernel) ev_int (by decide) (by decide) rfl) rfl rfl fun h₄ t₄ F₄ => ?_)
    refine x_seq (s_setitem (j := 0) F₄ m (ev_name F₄.en rfl rfl (by decide +kernel)) ev_int rfl rfl (by decide +kernel) rfl (by simp [prs]) (by rw [prs_len]; omega) fun h₅ t₅ F₅ => ?_)
    rw [prs_set] at F₅
    refine x_seq (s_mut F₅ m fup PU (by omega) rfl (by decide +kernel) rfl rfl (by decide +kernel) (.cons ev_int .nil (fun _ => rfl)) ⟨_, 0, rfl, rfl, by simp, by simp at hq ⊢; omega⟩ rfl rfl (fun _ _ z => z.1) fun h₆ t₆ ds' sp F₆ => ?_)
    obtain ⟨qs', e, hp'⟩ := sp.2 _ rfl
    subst e
    refine x_seq (s_return F₆ m (ev_name F₆.en rfl rfl (by decide +kernel)) fun v h' tk' F' r' => ?_)
    refine q v _ _ _ _ _ F' ⟨y, rfl, fun ps₁ z1 => ⟨qs', rfl, ?_⟩⟩ r'
    rw [← prs_inj z1]
    show (y :: qs').Perm (y :: (r ++ [z]))
    refine .cons _ (hp'.trans ?_)
    show (z :: r).Perm (r ++ [z])
    exact (List.perm_append_singleton _ _).symm
  · obtain rfl : qs = [] := by
      cases qs with
      | nil => rfl
      | cons y r => cases hb
    refine wpAny_execs_nil ?_
    refine x_seq (s_return F₃ m (ev_name F₃.en rfl rfl (by decide +kernel)) fun v h' tk' F' r' => ?_)
    refine q v _ _ _ _ _ F' ⟨z, rfl, fun ps₁ z1 => ⟨[], rfl, ?_⟩⟩ r'
    rw [← prs_inj z1]
    exact .refl _

def fyPre (ds args : List PyData) : Prop := ∃ ps, ds = prs ps ∧ args = [] ∧ ps.length = 3
theorem PM_fy {fa fu fd : Addr} (G : PG top mg mb) (f : FnI top mg 30 fa) (fup : FnI top mg 32 fu) (fdn : FnI top mg 31 fd) : PM pw w 3 top fa fyPre permSpec := by
  have PU := PM_up (w := w) G fup fdn
  refine PM.intro "x" [] f G.T (by decide +kernel) ?_ ?_
  · exact vals1 fun a pm cd doc => rfl
  rintro _ _ ⟨ps, rfl, rfl, hn⟩
  refine ⟨_, .nil, ?_⟩
  intro M a h₀ h₁ L cd W A g dr tk os Q m tp F mk q
  refine x_seq (s_assign F m (d := .int 3) ((ev_len F.en rfl G.len.1 G.len.2 (ev_raw F rfl rfl (.head _) (by decide +kernel)) (fun _ => rfl) (by rw [prs_len]; omega)).cast (by rw [prs_len, hn]; rfl)) rfl rfl fun h₂ t₂ F₂ => ?_)
  refine x_seq (s_for F₂ m (sr_rrange (n := 1) F₂.en rfl G.range.1 G.range.2 (by decide +kernel) rfl G.reversed.1 G.reversed.2 (by decide +kernel)
    (ev_bin F₂.en (ev_name F₂.en rfl rfl (by decide +kernel)) ev_int (bo_div (by decide) (by decide))) (by decide) rfl (fun _ => rfl)) (fun i σ μ => ∃ qs, qs.Perm ps ∧ μ = [(a, prs qs)] ∧ Sub σ [("x", .r (.ref a))]) ⟨ps, .refl _, rfl, .cons rfl .nil⟩ ?_ ?_ (fun _ => rfl))
  · rintro i d σ₁ μ₁ hd ⟨qs, hp, rfl, sb⟩
    obtain ⟨hi, rfl⟩ := rrng_at hd
    obtain rfl : i = 0 := by omega
    refine ⟨_, .name (.inl rfl), fun h₃ h₄ t₄ E' up F₄ => ?_⟩
    have F₄ := F₄.norm (c := [("i", .d (.int ((0 : Nat) : Int))), ("x", .r (.ref a))]) (.cons rfl (.cons (sb.look _ _ rfl) .nil))
    refine x_seq (s_mut F₄ m fup PU (by omega) rfl (by decide +kernel) rfl rfl (by decide +kernel) (.cons (ev_name F₄.en rfl rfl (by decide +kernel)) .nil (fun _ => rfl)) ⟨_, 0, rfl, rfl, by rw [hp.length_eq]; omega, by rw [hp.length_eq]; omega⟩ rfl rfl (fun _ _ z => z.1) fun h₆ t₆ ds' sp F₆ => ?_)
    obtain ⟨qs', e, hp'⟩ := sp.2 _ rfl
    subst e
    exact wpAny_execs_nil ⟨_, _, h₆, t₆, rfl, F₆, qs', hp'.trans hp, rfl, .cons rfl .nil⟩
  · rintro σ' μ' h' tk' E' ⟨qs, hp, rfl, sb⟩ F'
    exact wpAny_execs_nil (wpAny_execs_nil (q .none _ _ _ _ _ F' (permSpec.mk hp) .none))
end Mine
namespace Mine
open PySem PySem.Calls PyProof.Rows
variable {w : World} {top : Heap} {mg mb : Str → Option Value}

def pairT (T : List Nat) (a : Nat) : Int × Int := (((T.getD a 0 : Nat) : Int), (a : Int))
def pairedSpec (ds : List PyData) (d : PyData) : Prop := ∃ W L T pos hold, Good W L ∧ T.length = 3 ∧ Inv W L [] pos hold ∧ ds = [.list (nn W), .list (nn L), .list (nl T)] ∧ d = .tuple [.list (nl hold), .list (nl pos)]

def turnOut (T : List Nat) : PyData → List PyData
  | .int i => [.tuple [.int ((T.getD i.toNat 0 : Nat) : Int), .int i]]
  | _ => []
theorem turn_outs (T : List Nat) : (rng 3).flatMap (turnOut T) = prs ([0, 1, 2].map (pairT T)) := rfl

theorem pop_hp {T : List Nat} {ps ps' : List (Int × Int)} {hp : List Nat} {x : Int × Int} (h : ps.Perm (hp.map (pairT T))) (h2 : (x :: ps').Perm ps) : ∃ a hp', x = pairT T a ∧ hp.Perm (a :: hp') ∧ ps'.Perm (hp'.map (pairT T)) := by
  have h3 := h2.trans h
  have hm : x ∈ hp.map (pairT T) := h3.mem_iff.mp (.head _)
  obtain ⟨a, ha, rfl⟩ := List.mem_map.mp hm
  have h4 := List.perm_cons_erase ha
  refine ⟨a, hp.erase a, rfl, h4, ?_⟩
  have h5 := h3.trans (h4.map (pairT T))
  exact h5.cons_inv

set_option maxHeartbeats 1000000 in
theorem PF_paired {fa fpush fpop ffy fup fdn : Addr} (G : PG top mg mb) (f : FnI top mg 35 fa) (f28 : FnI top mg 28 fpush) (f29 : FnI top mg 29 fpop) (f30 : FnI top mg 30 ffy) (f32 : FnI top mg 32 fup) (f31 : FnI top mg 31 fdn) :
    PF pw w 4 top fa pairedSpec := by
  have Ppush := PM_push (w := w) G f28 f31
  have Ppop := PM_pop (w := w) G f29 f32 f31
  have Pfy := PM_fy (w := w) G f30 f32 f31
  refine PF.intro ["wishes", "likings", "turns"] f G.T (by decide +kernel) ?_ ?_
  · exact vals3 fun a b c pm cd doc => rfl
  rintro _ _ ⟨Wl, L, T, posF, holdF, GD, hT, IF, rfl, rfl⟩
  refine ⟨_, .cons (.cons (.cons .nil)), ?_⟩
  intro M h₀ h₁ Lc cd W A g dr tk os Q m tp F mk q
  refine x_seq (s_rawcomp (ds := rng 3) (turnOut T) F m (sr_range (n := 3) F.en rfl G.range.1 G.range.2 (by decide +kernel) ev_int (by decide) rfl (fun _ => rfl)) ?_ (by rw [turn_outs]; simp [prs]) rfl rfl ?_ rfl (fun aP h₂ t₂ hP oP F₂ => ?_) rfl rfl (by decide +kernel) rfl)
  · intro cenv W' D hW hD d hd
    obtain ⟨i, hi, rfl⟩ := List.mem_map.mp hd
    have hi := List.mem_range.mp hi
    refine .intro ⟨[("asker", .d (.int (i : Nat)))], true, .name (.inl rfl), ?_, fun h' st H sq => .nil, fun _ => cb_emit rfl hW hD fun h' st H sq => ?_, fun z => nomatch z⟩
    · intro x c e
      rw [List.lookup_cons] at e
      by_cases z : x == "asker"
      · rw [eq_of_beq z]; rfl
      · rw [Bool.eq_false_iff.mpr z] at e; cases e
    · exact ev_tuple H (.cons (ev_item (ev_name H rfl rfl (by decide +kernel)) (ev_name H rfl rfl (by decide +kernel)) (by omega) (by omega) (by rw [Int.toNat_natCast]; exact nl_getD (by omega)) (fun _ _ => rfl)) (.cons (ev_name H rfl rfl (by decide +kernel)) .nil (fun _ => rfl)) (fun _ => rfl))
  · intro x mx
    simp [dS] at mx
    rcases mx with rfl | rfl | rfl
    · intro _; rfl
    · intro _; rfl
    · rintro (z | z) <;> cases z
  rw [turn_outs] at F₂
  refine x_seq (s_mut F₂ m f30 Pfy (by omega) rfl (by decide +kernel) rfl rfl (by decide +kernel) .nil ⟨_, rfl, rfl, rfl⟩ rfl rfl (fun _ _ z => z.1) fun h₃ t₃ ds' sp F₃ => ?_)
  obtain ⟨ps, e, hps⟩ := sp.2 _ rfl
  subst e
  refine x_seq (s_newlist F₃ m (ds := nl [0, 0, 0]) (.cons ev_int (.cons ev_int (.cons ev_int .nil (fun _ => rfl)) (fun _ => rfl)) (fun _ => rfl)) rfl rfl (by decide) rfl fun aK h₄ t₄ hK oK F₄ => ?_)
  refine x_seq (s_newlist F₄ m (ds := nl [3, 3, 3]) (.cons ev_int (.cons ev_int (.cons ev_int .nil (fun _ => rfl)) (fun _ => rfl)) (fun _ => rfl)) rfl rfl (by decide) rfl fun aH h₅ t₅ hH oH F₅ => ?_)
  refine x_seq (s_while F₅ m (fun n σ μ => ∃ hp pos hold ps, Inv Wl L hp pos hold ∧ hp.length ≤ 3 ∧ n = left Wl hp pos ∧ ps.Perm (hp.map (pairT T)) ∧ μ = [(aH, nl hold), (aK, nl pos), (aP, prs ps)] ∧
    Sub σ [("having", .r (.ref aH)), ("asked", .r (.ref aK)), ("heap", .r (.ref aP)), ("wishes", .d (.list (nn Wl))), ("likings", .d (.list (nn L))), ("turns", .d (.list (nl T)))]) (left Wl [0, 1, 2] [0, 0, 0]) ?_ ?_)
  · exact ⟨_, _, _, _, inv0, by decide, rfl, hps, rfl, .cons rfl (.cons rfl (.cons rfl (.cons rfl (.cons rfl (.cons rfl .nil)))))⟩
  rintro n σ μ h₆ ⟨hp, pos, hold, ps, I, hz, rfl, hpp, rfl, sb⟩ F₆
  have F₆ := F₆.norm sb
  have hpl : ps.length = hp.length := by rw [hpp.length_eq, List.length_map]
  refine ⟨_, tv_cmp (M₁ := []) (c := !hp.isEmpty) (ev_raw F₆ rfl rfl (.tail _ (.tail _ (.head _))) (by decide +kernel)) (ev_list F₆.en .nil) ?_ rfl, fun hne h₇ t₇ E' F₇ => ?_, fun hem h₇ t₇ E' F₇ => ?_⟩
  · cases hp with
    | nil =>
      have : ps = [] := List.length_eq_zero_iff.mp hpl
      subst this
      exact cm_lneq (by decide)
    | cons a r => exact cm_len_ne (by rw [prs_len, hpl]; simp)
  · have F₇ := F₇.norm sb
    have hps0 : ps ≠ [] := fun z => by
      subst z
      cases hp with
      | nil => cases hne
      | cons a r => simp at hpl
    have F₈ := F₇.perm p312
    refine x_seq (s_assignX F₈ (fun μ' d => ∃ a hp' ps', d = .int (a : Nat) ∧ hp.Perm (a :: hp') ∧ ps'.Perm (hp'.map (pairT T)) ∧ μ' = [(aP, prs ps'), (aH, nl hold), (aK, nl pos)]) rfl rfl (fun Q' z' => ?_) fun h₉ t₉ μ' d hr F₉ => ?_)
    · refine Subscript_ (call_mut F₈ m f29 Ppop (by omega) rfl (by decide +kernel) rfl rfl (by decide +kernel) .nil ⟨_, rfl, rfl, hps0, by omega⟩ fun v h' tk' ds' d sp F' r => wpAny_Constant_int ?_)
      obtain ⟨x, rfl, sp⟩ := sp
      obtain ⟨ps', rfl, hq⟩ := sp _ rfl
      obtain ⟨a, hp', rfl, h1, h2⟩ := pop_hp hpp hq
      obtain ⟨l, vs, nn', rfl, g', _, r'⟩ := r.tupRef
      obtain ⟨v, hv, rv⟩ := r'.at (i := 1) (d := .int (a : Nat)) rfl
      have e1 := r'.length
      simp at e1
      have hl : IsTup h' l vs := ⟨_, g', rfl, _, rfl⟩
      exact tail_any (s := ⟨h', _, _, tk' + 1, _⟩) hl.typeIs slot_tuple_getitem.lookup (PyProof.Rows.getItem_tuple hl (by omega) (by decide) (seqIndex_of (by decide) (by omega)) (by simpa using hv) (z' v h' _ _ _ ⟨a, hp', ps', rfl, h1, h2, rfl⟩ F' rv)) rfl
    obtain ⟨a, hp', ps', rfl, h1, h2, rfl⟩ := hr
    have J := I.perm h1.symm
    have ha := J.hb a (.head _)
    have hz' : hp'.length ≤ 2 := by have := h1.length_eq; simp at this; omega
    have hps' : ps'.length = hp'.length := by rw [h2.length_eq, List.length_map]
    have hpos3 := J.pl
    have hhold3 := J.hl
    have lft : left Wl hp pos = left Wl (a :: hp') pos := by unfold left; rw [h1.length_eq]
    have F₉ := (F₉.perm (μ' := [(aH, nl hold), (aK, nl pos), (aP, prs ps')]) p312.symm).norm (c := [("asker", .d (.int (a : Nat))), ("having", .r (.ref aH)), ("asked", .r (.ref aK)), ("heap", .r (.ref aP)), ("wishes", .d (.list (nn Wl))), ("likings", .d (.list (nn L))), ("turns", .d (.list (nl T)))]) (.cons rfl (.cons rfl (.cons rfl (.cons rfl (.cons rfl (.cons rfl (.cons rfl .nil)))))))
    refine x_seq (s_if F₉ m (tv_cmp (M₁ := aH :: aK :: aP :: M) (M₂ := aH :: aK :: aP :: M) (ev_litem F₉ rfl rfl (.tail _ (.head _)) (by decide +kernel) (ev_name F₉.en rfl rfl (by decide +kernel)) (by omega) (by omega) (by rw [Int.toNat_natCast]; exact nl_getD (by omega)))
      (ev_len F₉.en rfl G.len.1 G.len.2 (ev_item (ev_name F₉.en rfl rfl (by decide +kernel)) (ev_name F₉.en rfl rfl (by decide +kernel)) (by omega) (by omega) (by rw [Int.toNat_natCast]; exact nn_at (by rw [GD.wl]; exact ha)) (fun _ _ => rfl)) (fun _ => rfl) (by have := GD.wz a ha; rw [nl_len]; omega)) cm_lt rfl) (fun hlt h₁₀ t₁₀ _ F₁₀ => ?_) fun hge h₁₀ t₁₀ _ F₁₀ => ?_)
    · have hlt := of_decide_eq_true hlt
      rw [nl_len] at hlt
      have hlt : pos.getD a 0 < (row Wl a).length := by omega
      have et := List.getElem?_eq_getElem hlt
      generalize (row Wl a)[pos.getD a 0] = t at et
      obtain ⟨ht3, _, win, lose⟩ := J.ask GD et
      have hpl' := J.pb a ha
      have hwz := GD.wz a ha
      refine x_seq (s_assign F₁₀ m (d := .int (t : Nat)) (ev_item (ev_item (ev_name F₁₀.en rfl rfl (by decide +kernel)) (ev_name F₁₀.en rfl rfl (by decide +kernel)) (by omega) (by omega) (by rw [Int.toNat_natCast]; exact nn_at (by rw [GD.wl]; exact ha)) (fun _ _ => rfl))
        (ev_litem F₁₀ rfl rfl (.tail _ (.head _)) (by decide +kernel) (ev_name F₁₀.en rfl rfl (by decide +kernel)) (by omega) (by omega) (by rw [Int.toNat_natCast]; exact nl_getD (by omega))) (by omega) (by omega) (by rw [Int.toNat_natCast]; exact nl_at et) (fun _ _ => rfl)) rfl rfl fun h₁₁ t₁₁ F₁₁ => ?_)
      have F₁₂ := F₁₁.perm p213
      refine x_seq (s_augadd (j := a) F₁₂ m ev_int (ev_name F₁₂.en rfl rfl (by decide +kernel)) rfl rfl (by decide +kernel) (fun _ _ _ => rfl) (nl_getD (by omega)) (by rw [nl_len]; omega) fun h₁₃ t₁₃ F₁₃ => ?_)
      rw [show ((pos.getD a 0 : Nat) : Int) + 1 = ((pos.getD a 0 + 1 : Nat) : Int) from by omega, nl_set] at F₁₃
      have F₁₄ := F₁₃.perm (μ' := [(aH, nl hold), (aK, nl (pos.set a (pos.getD a 0 + 1))), (aP, prs ps')]) p213
      refine x_seq (s_assign F₁₄ m (d := .int ((hold.getD t 0 : Nat) : Int)) (ev_litem F₁₄ rfl rfl (.head _) (by decide +kernel) (ev_name F₁₄.en rfl rfl (by decide +kernel)) (by omega) (by omega) (by rw [Int.toNat_natCast]; exact nl_getD (by omega))) rfl rfl fun h₁₅ t₁₅ F₁₅ => ?_)
      have hob := J.ob t ht3
      have hlz := GD.lz t ht3
      refine x_if (fun σ' μ' => ∃ lo hold', lo ≤ 3 ∧ μ' = [(aH, nl hold'), (aK, nl (pos.set a (pos.getD a 0 + 1))), (aP, prs ps')] ∧ Inv Wl L (if lo < 3 then lo :: hp' else hp') (pos.set a (pos.getD a 0 + 1)) hold' ∧
        Sub σ' [("loser", .d (.int (lo : Nat))), ("asker", .d (.int (a : Nat))), ("having", .r (.ref aH)), ("asked", .r (.ref aK)), ("heap", .r (.ref aP)), ("wishes", .d (.list (nn Wl))), ("likings", .d (.list (nn L))), ("turns", .d (.list (nl T)))]) F₁₅ m
        (b := (((hold.getD t 0 : Nat) : Int) == 3) || decide (((row L t).idxOf a : Int) < ((row L t).idxOf (hold.getD t 0) : Int)))
        (tv_or2 (tv_cmp (M₁ := aH :: aK :: aP :: M) (M₂ := aH :: aK :: aP :: M) (ev_name F₁₅.en rfl rfl (by decide +kernel)) ev_int cm_eq rfl) fun hn3 => ?_) (fun hb h₁₆ t₁₆ F₁₆ => ?_) (fun hb h₁₆ t₁₆ F₁₆ => ?_) ?_
      · have hn3 : hold.getD t 0 < 3 := by
          have : ¬ ((hold.getD t 0 : Nat) : Int) = 3 := by simpa using hn3
          omega
        refine (tv_cmp (M₁ := aH :: aK :: aP :: M) (M₂ := aH :: aK :: aP :: M) (ev_index (M₁ := aH :: aK :: aP :: M) (M₂ := aH :: aK :: aP :: M) (l := cs (row L t)) (i := (a : Int)) (ev_item (ev_name F₁₅.en rfl rfl (by decide +kernel)) (ev_name F₁₅.en rfl rfl (by decide +kernel)) (by omega) (by omega) (by rw [Int.toNat_natCast]; exact nn_at (by rw [GD.ll]; exact ht3)) (fun _ _ => rfl)) (ev_name F₁₅.en rfl rfl (by decide +kernel)) (cs_mem.mpr (GD.lm t ht3 a ha)) (by simp [cs]; omega))
          (ev_index (M₁ := aH :: aK :: aP :: M) (M₂ := aH :: aK :: aP :: M) (l := cs (row L t)) (i := ((hold.getD t 0 : Nat) : Int)) (ev_item (ev_name F₁₅.en rfl rfl (by decide +kernel)) (ev_name F₁₅.en rfl rfl (by decide +kernel)) (by omega) (by omega) (by rw [Int.toNat_natCast]; exact nn_at (by rw [GD.ll]; exact ht3)) (fun _ _ => rfl)) (ev_name F₁₅.en rfl rfl (by decide +kernel)) (cs_mem.mpr (GD.lm t ht3 _ hn3)) (by simp [cs]; omega)) cm_lt rfl).cast ?_
        rw [cs_idx, cs_idx]
      · refine x_seq (s_setitem (j := t) F₁₆ m (ev_name F₁₆.en rfl rfl (by decide +kernel)) (ev_name F₁₆.en rfl rfl (by decide +kernel)) rfl rfl (by decide +kernel) rfl (by rw [nl_len]; omega) (by rw [nl_len]; omega) fun h₁₇ t₁₇ F₁₇ => ?_)
        rw [nl_set] at F₁₇
        refine wpAny_execs_nil ⟨_, _, h₁₇, t₁₇, rfl, F₁₇, hold.getD t 0, hold.set t a, hob, rfl, win ?_, .cons rfl (.cons rfl (.cons rfl (.cons rfl (.cons rfl (.cons rfl (.cons rfl (.cons rfl .nil)))))))⟩
        simp only [Bool.or_eq_true, beq_iff_eq, decide_eq_true_eq] at hb
        omega
      · refine x_seq (s_assign F₁₆ m (ev_name F₁₆.en rfl rfl (by decide +kernel)) rfl rfl fun h₁₇ t₁₇ F₁₇ => ?_)
        refine wpAny_execs_nil ⟨_, _, h₁₇, t₁₇, rfl, F₁₇, a, hold, by omega, rfl, ?_, .cons rfl (.cons rfl (.cons rfl (.cons rfl (.cons rfl (.cons rfl (.cons rfl (.cons rfl .nil)))))))⟩
        rw [if_pos ha]
        refine lose fun z => ?_
        simp only [Bool.or_eq_false_iff, beq_eq_false_iff_ne, decide_eq_false_iff_not] at hb
        omega
      rintro σ' μ' h₁₈ t₁₈ ⟨lo, hold', hlo, rfl, K, sb'⟩ F₁₈
      have F₁₈ := F₁₈.norm sb'
      refine x_seq (s_if F₁₈ m (tv_cmp (M₁ := aH :: aK :: aP :: M) (M₂ := aH :: aK :: aP :: M) (ev_name F₁₈.en rfl rfl (by decide +kernel)) ev_int cm_lt rfl) (fun hl h₁₉ t₁₉ _ F₁₉ => ?_) fun hl h₁₉ t₁₉ _ F₁₉ => ?_)
      · have hl : lo < 3 := by have := of_decide_eq_true hl; omega
        rw [if_pos hl] at K
        have F₂₀ := F₁₉.perm p312
        refine x_seq (s_mut F₂₀ m f28 Ppush (by omega) rfl (by decide +kernel) rfl rfl (by decide +kernel) (.cons (d := pr (pairT T lo)) (ev_tuple F₂₀.en (.cons (ev_item (ev_name F₂₀.en rfl rfl (by decide +kernel)) (ev_name F₂₀.en rfl rfl (by decide +kernel)) (by omega) (by omega) (by rw [Int.toNat_natCast]; exact nl_getD (by omega)) (fun _ _ => rfl)) (.cons (ev_name F₂₀.en rfl rfl (by decide +kernel)) .nil (fun _ => rfl)) (fun _ => rfl))) .nil (fun _ => rfl))
          ⟨_, _, rfl, rfl, by omega⟩ rfl rfl (fun _ _ z => z.1) fun h₂₁ t₂₁ ds' sp F₂₁ => ?_)
        obtain ⟨ps2, rfl, hp2⟩ := sp.2 _ _ rfl rfl
        have F₂₂ := F₂₁.perm (μ' := [(aH, nl hold'), (aK, nl (pos.set a (pos.getD a 0 + 1))), (aP, prs ps2)]) p312.symm
        refine wpAny_execs_nil (wpAny_execs_nil (wpAny_execs_nil ⟨_, _, _, h₂₁, t₂₁, ?_, rfl, F₂₂, lo :: hp', _, _, ps2, K, by simp; omega, rfl, hp2.trans (.cons _ h2), rfl, .cons rfl (.cons rfl (.cons rfl (.cons rfl (.cons rfl (.cons rfl .nil)))))⟩))
        rw [lft]
        exact left_ask ha hpos3 hlt (by simp)
      · have hl : ¬ lo < 3 := by have := of_decide_eq_false hl; omega
        rw [if_neg hl] at K
        refine wpAny_execs_nil (wpAny_execs_nil (wpAny_execs_nil ⟨_, _, _, h₁₉, t₁₉, ?_, rfl, F₁₉, hp', _, _, ps', K, by omega, rfl, h2, rfl, .cons rfl (.cons rfl (.cons rfl (.cons rfl (.cons rfl (.cons rfl .nil)))))⟩))
        rw [lft]
        exact left_ask ha hpos3 hlt (by omega)
    · have hge := of_decide_eq_false hge
      rw [nl_len] at hge
      refine wpAny_execs_nil (wpAny_execs_nil ⟨_, _, _, h₁₀, t₁₀, ?_, rfl, F₁₀, hp', pos, hold, ps', J.done (by omega), by omega, rfl, h2, rfl, .cons rfl (.cons rfl (.cons rfl (.cons rfl (.cons rfl (.cons rfl .nil)))))⟩)
      rw [lft]
      exact left_done
  · have F₇ := F₇.norm sb
    have : hp = [] := by
      cases hp with
      | nil => rfl
      | cons a r => cases hem
    subst this
    obtain ⟨rfl, rfl⟩ := IF.unique GD I
    have nM : ∀ {a : Addr}, h₀.get? a = none → a ∉ M := fun {a} e z => by obtain ⟨o, e'⟩ := mk a z; rw [e] at e'; cases e'
    have sub : ∀ b ∈ M, b ∈ aH :: aK :: aP :: M := fun b z => .tail _ (.tail _ (.tail _ z))
    refine wpAny_execs_nil ?_
    refine x_seq (s_returnM (M₀ := M) F₇ m (ev_tuple (F₇.en.less sub) (.cons (ev_rawM F₇ sub (nM oH) rfl rfl (.head _) (by decide +kernel)) (.cons (ev_rawM F₇ sub (nM oK) rfl rfl (.tail _ (.head _)) (by decide +kernel)) .nil (fun _ => rfl)) (fun _ => rfl))) fun v h' tk' F' r => ?_)
    exact q v _ _ _ h' tk' F' r
end Mine
namespace Mine
open PySem PySem.Calls PyProof.Rows
variable {w : World} {top : Heap} {mg mb : Str → Option Value}

def FTD : List (List (Int × Str)) := [[(40960, "l"), (49152, "s"), (32768, "-"), (24576, "b"), (16384, "d"), (8192, "c"), (4096, "p")], [(256, "r")], [(128, "w")], [(2112, "s"), (2048, "S"), (64, "x")],
  [(32, "r")], [(16, "w")], [(1032, "s"), (1024, "S"), (8, "x")], [(4, "r")], [(2, "w")], [(513, "t"), (512, "T"), (1, "x")]]
def pairD (p : Int × Str) : PyData := .tuple [.int p.1, .str p.2]
def rowD (r : List (Int × Str)) : PyData := .tuple (r.map pairD)
def tabD : PyData := .tuple (FTD.map rowD)
def hit (m : Int) (i : Nat) (b : Int) : Bool := if i = 0 then Builtin.bitAnd m 61440 == b else Builtin.bitAnd m b == b
def pick (m : Int) (i : Nat) : List (Int × Str) → Str
  | [] => if i = 0 then "?" else "-"
  | (b, c) :: r => if hit m i b then c else pick m i r
def picks (m : Int) (i : Nat) : List Str := (List.range i).map fun j => pick m j (FTD.getD j [])
theorem picks_succ {m i} : picks m (i + 1) = picks m i ++ [pick m i (FTD.getD i [])] := by unfold picks; rw [List.range_succ, List.map_append]; rfl
theorem sl_app {a : List Str} {c : Str} : sl a ++ [.str c] = sl (a ++ [c]) := by unfold sl; rw [List.map_append]; rfl
theorem sl_len {a : List Str} : (sl a).length = a.length := by unfold sl; simp
theorem picks_len {m i} : (picks m i).length = i := by unfold picks; simp
theorem pick_one {m : Int} {i : Nat} : ∀ {r : List (Int × Str)}, (∀ p ∈ r, p.2.length = 1) → (pick m i r).length = 1
  | [], _ => by unfold pick; split <;> rfl
  | (b, c) :: r, h => by
    unfold pick
    split
    · exact h _ (.head _)
    · exact pick_one fun p hp => h p (.tail _ hp)
theorem FTD_one : ∀ i, ∀ p ∈ FTD.getD i [], p.2.length = 1 := by
  intro i
  match i with
  | 0 | 1 | 2 | 3 | 4 | 5 | 6 | 7 | 8 | 9 => decide +kernel
  | n + 10 => intro p hp; cases hp
theorem picks_sum {m} : ∀ i, ((picks m i).map (·.length)).sum = i
  | 0 => rfl
  | i + 1 => by
    rw [picks_succ, List.map_append, List.sum_append, picks_sum i]
    show i + ((pick m i (FTD.getD i [])).length + 0) = i + 1
    rw [pick_one (FTD_one i)]

def modeSpec (ds : List PyData) (d : PyData) : Prop := ∃ m, ds = [.int m] ∧ d = .str (Str.join "" (picks m 10))
/-- the table at the top -/
def FT (top : Heap) (mg : Str → Option Value) : Prop := ∃ v, mg "_filemode_table" = some v ∧ Rd [] top v tabD

set_option maxHeartbeats 1000000 in
theorem PF_filemode {fa fi : Addr} (G : PG top mg mb) (ft : FT top mg) (f : FnI top mg 22 fa) (f1 : FnI top mg 1 fi) : PF pw w 2 top fa modeSpec := by
  have P1 := PF_ifmt (w := w) G.T f1
  obtain ⟨tv, htv, rtv⟩ := ft
  refine PF.intro0 ["mode"] f G.T (by decide +kernel) ?_ ?_ ?_
  · exact vals1 fun a pm cd doc => rfl
  · rintro _ _ ⟨m, rfl, rfl⟩; rfl
  rintro _ _ ⟨md, rfl, rfl⟩
  refine ⟨_, .cons .nil, ?_⟩
  intro h₀ h₁ Lc cd W A g dr tk os Q m tp F q
  refine x_seq (s_newlist F m (ds := sl []) .nil rfl rfl (by decide) rfl fun aP h₂ t₂ hP oP F₂ => ?_)
  have tP : top.get? aP = none := (F₂.mu _ (.head _)).2.2.2
  have rt : ∀ {h' : Heap}, Stay top h' → Rd [aP] h' tv tabD := fun {h'} st => rtv.move fun b o vs n _ e _ => ⟨st b o e, fun z => by
    rw [List.mem_singleton.mp z, tP] at e; cases e⟩
  refine x_seq (s_for F₂ m (sr_enum_tuple F₂.en rfl G.enumerate.1 G.enumerate.2 (by decide +kernel) (fun _ => rfl) (ev_glob F₂.en rfl htv (rt F₂.tp) (by decide +kernel)))
    (fun i σ μ => μ = [(aP, sl (picks md i))] ∧ Sub σ [("perm", .r (.ref aP)), ("mode", .d (.int md))]) ⟨rfl, .cons rfl (.cons rfl .nil)⟩ ?_ ?_ (fun _ => rfl))
  · rintro i d σ₁ μ₁ hd ⟨rfl, sb⟩
    obtain ⟨hi, rfl⟩ : i < 10 ∧ d = .tuple [.int (i : Nat), rowD (FTD.getD i [])] := by
      obtain ⟨x, ex, rfl⟩ := enum_at hd
      rw [List.getElem?_map, Option.map_eq_some_iff] at ex
      obtain ⟨r, er, rfl⟩ := ex
      obtain ⟨hi, e⟩ := List.getElem?_eq_some_iff.mp er
      exact ⟨hi, by rw [List.getD_eq_getElem?_getD, er]; rfl⟩
    refine ⟨_, .pair (.inl rfl) (.inl rfl), fun h₃ h₄ t₄ E' up F₄ => ?_⟩
    have F₄ := F₄.norm (c := [("index", .d (.int (i : Nat))), ("table", .d (rowD (FTD.getD i []))), ("perm", .r (.ref aP)), ("mode", .d (.int md))]) (.cons rfl (.cons rfl (.cons (sb.look _ _ rfl) (.cons (sb.look _ _ rfl) .nil))))
    have hone := FTD_one i
    have next := @picks_succ md i
    generalize FTD.getD i [] = rowL at F₄ hone next
    have fin : ∀ {c : Str} {h' : Heap} {tk' : Nat} {σ' : List (Str × Bd)}, c = pick md i rowL → FS ⟨top, h₀, [], mg, mb, envOfC (dN 22) (dS 22) Lc fa cd, (dS 22).names, W⟩ h₃ σ' [aP] [(aP, sl (picks md i) ++ [.str c])] h' → Sub σ' [("perm", .r (.ref aP)), ("mode", .d (.int md))] →
        ∃ σ'' μ'' h'' tk'', (⟨h', g, dr, tk', os⟩ : Shared) = ⟨h'', g, dr, tk'', os⟩ ∧ FS ⟨top, h₀, [], mg, mb, envOfC (dN 22) (dS 22) Lc fa cd, (dS 22).names, W⟩ h₃ σ'' [aP] μ'' h'' ∧ μ'' = [(aP, sl (picks md (i + 1)))] ∧ Sub σ'' [("perm", .r (.ref aP)), ("mode", .d (.int md))] := by
      intro c h' tk' σ' e F' sb'
      refine ⟨σ', _, h', tk', rfl, F', ?_, sb'⟩
      rw [next, e, sl_app]
    have hpl := @picks_len md i
    refine x_seq (s_for F₄ m (sr_tuple F₄.en (ev_name F₄.en rfl rfl (by decide +kernel)) (fun _ d hd => by obtain ⟨p, _, rfl⟩ := List.mem_map.mp hd; exact ⟨_, rfl⟩))
      (fun j σ μ => pick md i rowL = pick md i (rowL.drop j) ∧ μ = [(aP, sl (picks md i))] ∧ Sub σ [("index", .d (.int (i : Nat))), ("perm", .r (.ref aP)), ("mode", .d (.int md))]) ⟨rfl, rfl, .cons rfl (.cons rfl (.cons rfl .nil))⟩ ?_ ?_ (fun _ => rfl))
    · rintro j d σ₂ μ₂ hd ⟨hpk, rfl, sb2⟩
      rw [List.getElem?_map, Option.map_eq_some_iff] at hd
      obtain ⟨⟨b, c⟩, hj, rfl⟩ := hd
      obtain ⟨hjl, ej⟩ := List.getElem?_eq_some_iff.mp hj
      have hdrop : rowL.drop j = (b, c) :: rowL.drop (j + 1) := by rw [List.drop_eq_getElem_cons hjl, ej]
      rw [hdrop, pick] at hpk
      refine ⟨_, .pair (.inl rfl) (.inl rfl), fun h₅ h₆ t₆ E'' up2 F₆ => ?_⟩
      have F₆ := F₆.norm (c := [("bit", .d (.int b)), ("char", .d (.str c)), ("index", .d (.int (i : Nat))), ("perm", .r (.ref aP)), ("mode", .d (.int md))]) (.cons rfl (.cons rfl (.cons (sb2.look _ _ rfl) (.cons (sb2.look _ _ rfl) (.cons (sb2.look _ _ rfl) .nil)))))
      refine x_seq (s_if F₆ m (tv_cmp (M₁ := [aP]) (M₂ := [aP]) (ev_name F₆.en rfl rfl (by decide +kernel)) ev_int cm_eq rfl) (fun e0 h₇ t₇ _ F₇ => ?_) fun e0 h₇ t₇ _ F₇ => ?_)
      · have e0 : i = 0 := by have := eq_of_beq e0; omega
        refine x_seq (s_if F₇ m (tv_cmp (M₁ := [aP]) (M₂ := [aP]) (ev_call F₇.en F₇.sm F₇.tp f1 P1 (by omega) rfl (by decide +kernel) (.cons (ev_name F₇.en rfl rfl (by decide +kernel)) .nil (fun _ => rfl)) ⟨md, rfl, rfl⟩) (ev_name F₇.en rfl rfl (by decide +kernel)) cm_eq rfl) (fun hh h₈ t₈ _ F₈ => ?_) fun hh h₈ t₈ _ F₈ => ?_)
        · have ht : hit md i b = true := by unfold hit; rw [if_pos e0]; exact hh
          rw [if_pos ht] at hpk
          refine x_seq (s_append F₈ m (ev_name F₈.en rfl rfl (by decide +kernel)) rfl rfl (by decide +kernel) (fun _ => rfl) rfl rfl rfl (by rw [sl_len]; omega) fun h₉ t₉ F₉ => ?_)
          exact x_seq (wpAny_Break (wpAny_execs_nil (fin hpk.symm (up2 _ _ _ F₉) (.cons rfl (.cons rfl .nil)))))
        · have ht : ¬ hit md i b = true := by unfold hit; rw [if_pos e0]; simpa using hh
          rw [if_neg ht] at hpk
          exact wpAny_execs_nil (wpAny_execs_nil (wpAny_execs_nil ⟨_, _, h₈, t₈, rfl, F₈, hpk, rfl, .cons rfl (.cons rfl (.cons rfl .nil))⟩))
      · have e0 : ¬ i = 0 := by
          intro z; subst z; cases e0
        refine x_seq (s_if F₇ m (tv_cmp (M₁ := [aP]) (M₂ := [aP]) (ev_bin F₇.en (ev_name F₇.en rfl rfl (by decide +kernel)) (ev_name F₇.en rfl rfl (by decide +kernel)) bo_and) (ev_name F₇.en rfl rfl (by decide +kernel)) cm_eq rfl) (fun hh h₈ t₈ _ F₈ => ?_) fun hh h₈ t₈ _ F₈ => ?_)
        · have ht : hit md i b = true := by unfold hit; rw [if_neg e0]; exact hh
          rw [if_pos ht] at hpk
          refine x_seq (s_append F₈ m (ev_name F₈.en rfl rfl (by decide +kernel)) rfl rfl (by decide +kernel) (fun _ => rfl) rfl rfl rfl (by rw [sl_len]; omega) fun h₉ t₉ F₉ => ?_)
          exact x_seq (wpAny_Break (wpAny_execs_nil (fin hpk.symm (up2 _ _ _ F₉) (.cons rfl (.cons rfl .nil)))))
        · have ht : ¬ hit md i b = true := by unfold hit; rw [if_neg e0]; simpa using hh
          rw [if_neg ht] at hpk
          exact wpAny_execs_nil (wpAny_execs_nil (wpAny_execs_nil ⟨_, _, h₈, t₈, rfl, F₈, hpk, rfl, .cons rfl (.cons rfl (.cons rfl .nil))⟩))
    · rintro σ' μ' h' tk' E'' ⟨hpk, rfl, sb2⟩ F'
      have F' := F'.norm sb2
      rw [List.length_map, List.drop_length, pick] at hpk
      refine x_seq (s_if F' m (tv_cmp (M₁ := [aP]) (M₂ := [aP]) (ev_name F'.en rfl rfl (by decide +kernel)) ev_int cm_eq rfl) (fun e0 h₇ t₇ _ F₇ => ?_) fun e0 h₇ t₇ _ F₇ => ?_)
      · have e0 : i = 0 := by have := eq_of_beq e0; omega
        rw [if_pos e0] at hpk
        refine x_seq (s_append F₇ m ev_str rfl rfl (by decide +kernel) (fun _ => rfl) rfl rfl rfl (by rw [sl_len]; omega) fun h₉ t₉ F₉ => ?_)
        exact wpAny_execs_nil (wpAny_execs_nil (wpAny_execs_nil (fin hpk.symm F₉ (.cons rfl (.cons rfl .nil)))))
      · have e0 : ¬ i = 0 := by intro z; subst z; cases e0
        rw [if_neg e0] at hpk
        refine x_seq (s_append F₇ m ev_str rfl rfl (by decide +kernel) (fun _ => rfl) rfl rfl rfl (by rw [sl_len]; omega) fun h₉ t₉ F₉ => ?_)
        exact wpAny_execs_nil (wpAny_execs_nil (wpAny_execs_nil (fin hpk.symm F₉ (.cons rfl (.cons rfl .nil)))))
  · rintro σ' μ' h' tk' E' ⟨rfl, sb⟩ F'
    have F' := F'.norm sb
    refine wpAny_execs_nil ?_
    refine x_seq (s_return F' m (d := .str (Str.join "" (picks md 10))) (ev_join (M₁ := []) (M₂ := []) ev_str (ev_raw F' rfl rfl (.head _) (by decide +kernel)) ?_) fun v h' tk' F'' r => ?_)
    · rw [picks_sum, picks_len, show ("" : Str).length = 0 from rfl]; decide
    · exact q v _ _ _ _ h' tk' F'' r
end Mine
namespace Mine
open PySem PySem.Calls PyProof.Rows
variable {w : World} {top : Heap} {mg mb : Str → Option Value}

def CFN : List (PyData × PyData) := [(.int 1, .str "OPTIMIZED"), (.int 2, .str "NEWLOCALS"), (.int 4, .str "VARARGS"), (.int 8, .str "VARKEYWORDS"), (.int 16, .str "NESTED"), (.int 32, .str "GENERATOR"), (.int 64, .str "NOFREE"), (.int 128, .str "COROUTINE"), (.int 256, .str "ITERABLE_COROUTINE"), (.int 512, .str "ASYNC_GENERATOR")]
def nmF (i : Nat) : Str := (["OPTIMIZED", "NEWLOCALS", "VARARGS", "VARKEYWORDS", "NESTED", "GENERATOR", "NOFREE", "COROUTINE", "ITERABLE_COROUTINE"] : List Str).getD i ""
theorem nmF_at : ∀ i, i < 9 → ∀ x, (PySem.Spec.lookup (.int ((2 ^ i : Nat) : Int)) CFN).getD (.str x) = .str (nmF i)
  | 0, _, _ | 1, _, _ | 2, _, _ | 3, _, _ | 4, _, _ | 5, _, _ | 6, _, _ | 7, _, _ | 8, _, _ => rfl
  | n + 9, h, _ => by omega
theorem nmF_len : ∀ i, i < 9 → (nmF i).length ≤ 20 := by decide +kernel
def goN : List Nat → Nat → List Str → List Str
  | [], fl, ns => ns ++ [baseText "0x" 16 (fl : Int)]
  | i :: r, fl, ns => if Builtin.bitAnd (fl : Int) ((2 ^ i : Nat) : Int) != 0 then (if fl - 2 ^ i = 0 then ns ++ [nmF i] else goN r (fl - 2 ^ i) (ns ++ [nmF i])) else goN r fl ns
def PN (f : Nat) : List Str := goN (List.range' 0 32) f []
theorem bitAnd_nat (a b : Nat) : Builtin.bitAnd (a : Int) (b : Int) = ((a &&& b : Nat) : Int) := by
  unfold Builtin.bitAnd
  rw [decide_eq_true (show (0 : Int) ≤ (a : Int) by omega), decide_eq_true (show (0 : Int) ≤ (b : Int) by omega)]
  rfl
theorem and_hi (i : Nat) (_ : i < 32) (fl : Nat) (hfl : fl < 512) (h9 : 9 ≤ i) : Builtin.bitAnd (fl : Int) ((2 ^ i : Nat) : Int) = 0 := by
  have h1 : fl < 2 ^ i := Nat.lt_of_lt_of_le hfl (Nat.pow_le_pow_right (n := 2) (by decide) h9)
  have h2 : fl &&& 2 ^ i = 0 := Nat.eq_of_testBit_eq fun j => by
    rw [Nat.testBit_and, Nat.testBit_two_pow, Nat.zero_testBit]
    by_cases z : i = j
    · subst z; rw [Nat.testBit_lt_two_pow h1]; rfl
    · simp [z]
  rw [bitAnd_nat, h2]; rfl
theorem xor_lo (i : Nat) (_ : i < 9) (fl : Nat) (_ : fl < 512) (h : Builtin.bitAnd (fl : Int) ((2 ^ i : Nat) : Int) ≠ 0) : Builtin.bitXor (fl : Int) ((2 ^ i : Nat) : Int) = ((fl - 2 ^ i : Nat) : Int) := by
  rw [bitXor_and]
  rw [bitAnd_nat] at h ⊢
  have e : fl &&& 2 ^ i = if fl.testBit i then 2 ^ i else 0 := Nat.eq_of_testBit_eq fun j => by
    rw [Nat.testBit_and, Nat.testBit_two_pow]
    by_cases z : i = j
    · subst z
      cases fl.testBit i <;> simp
    · cases fl.testBit i <;> simp [z, Nat.testBit_two_pow]
  have le : fl &&& 2 ^ i ≤ fl := Nat.and_le_left
  cases b : fl.testBit i with
  | true =>
    rw [b, if_pos rfl] at e
    rw [e] at le ⊢
    omega
  | false =>
    rw [b, if_neg (by intro z; cases z)] at e
    rw [e] at h
    exact absurd rfl h
theorem hex_pow : ∀ i, i < 9 → (baseText "0x" 16 ((2 ^ i : Nat) : Int)).length ≤ 20 := by decide +kernel
theorem hex_fl : ∀ fl : Nat, fl < 512 → (baseText "0x" 16 (fl : Int)).length ≤ 20 := by decide +kernel
def prettySpec (ds : List PyData) (d : PyData) : Prop := ∃ f, f < 512 ∧ ds = [.int (f : Nat)] ∧ d = .str (Str.join ", " (PN f))
/-- the names at the top -/
def CT (w : World) (top : Heap) (mg : Str → Option Value) : Prop := ∃ d, mg "COMPILER_FLAG_NAMES" = some (.ref d) ∧ IntTab pw w top d CFN

theorem sum20 : ∀ {l : List Str}, (∀ x ∈ l, x.length ≤ 20) → (l.map (·.length)).sum ≤ 20 * l.length
  | [], _ => by simp
  | x :: r, h => by
    have h1 := h x (.head _)
    have h2 := sum20 (l := r) fun y hy => h y (.tail _ hy)
    rw [List.map_cons, List.sum_cons, List.length_cons]
    omega

set_option maxHeartbeats 1000000 in
theorem PF_pretty {fa : Addr} (G : PG top mg mb) (ct : CT w top mg) (f : FnI top mg 25 fa) : PF pw w 1 top fa prettySpec := by
  obtain ⟨da, hda, tab⟩ := ct
  refine PF.intro0 ["flags"] f G.T (by decide +kernel) ?_ ?_ ?_
  · exact vals1 fun a pm cd doc => rfl
  · rintro _ _ ⟨m, _, rfl, rfl⟩; rfl
  rintro _ _ ⟨fl0, h512, rfl, rfl⟩
  refine ⟨_, .cons .nil, ?_⟩
  intro h₀ h₁ Lc cd W A g dr tk os Q m tp F q
  have done : ∀ {ns : List Str} {a : Addr} {σ' : List (Str × Bd)} {M' : List Addr} {h' : Heap} {tk' : Nat} {E' : Value → Shared → Prop}, ns = PN fl0 → ns.length ≤ 40 → (∀ x ∈ ns, x.length ≤ 20) → FS ⟨top, h₀, [], mg, mb, envOfC (dN 25) (dS 25) Lc fa cd, (dS 25).names, W⟩ h₀ σ' M' [(a, sl ns)] h' → Sub σ' [("names", .r (.ref a))] →
      wpAny (model pw w) A (execs ((dB 25).drop 2) (envOfC (dN 25) (dS 25) Lc fa cd)) (fun f s' => Q (match f with | .ret v => v | _ => .none) s') E' ⟨h', g, dr, tk', os⟩ := by
    intro ns a σ' M' h' tk' E' e hl h20 F' sb
    have F' := F'.norm sb
    refine x_seq (s_return F' m (d := .str (Str.join ", " (PN fl0))) ((ev_join (l := ns) (M₁ := []) (M₂ := []) ev_str (ev_raw F' rfl rfl (.head _) (by decide +kernel)) ?_).cast (by rw [e])) fun v h' tk' F'' r => q v _ _ _ _ h' tk' F'' r)
    have := sum20 h20
    rw [show (", " : Str).length = 2 from rfl]
    omega
  refine x_seq (s_newlist F m (ds := sl []) .nil rfl rfl (by decide) rfl fun aP h₂ t₂ hP oP F₂ => ?_)
  refine x_seq (s_for F₂ m (sr_range (n := 32) F₂.en rfl G.range.1 G.range.2 (by decide +kernel) ev_int (by decide) rfl (fun _ => rfl))
    (fun i σ μ => ∃ fl ns, fl < 512 ∧ goN (List.range' i (32 - i)) fl ns = PN fl0 ∧ ns.length ≤ i ∧ (∀ x ∈ ns, x.length ≤ 20) ∧ μ = [(aP, sl ns)] ∧ Sub σ [("names", .r (.ref aP)), ("flags", .d (.int (fl : Nat)))])
    ⟨fl0, [], h512, rfl, by decide, by simp, rfl, .cons rfl (.cons rfl .nil)⟩ ?_ ?_ (fun _ => rfl))
  · rintro i d σ₁ μ₁ hd ⟨fl, ns, hfl, hgo, hnl, h20, rfl, sb⟩
    obtain ⟨hi, rfl⟩ := rng_at hd
    refine ⟨_, .name (.inl rfl), fun h₃ h₄ t₄ E' up F₄ => ?_⟩
    have F₄ := F₄.norm (c := [("i", .d (.int (i : Nat))), ("names", .r (.ref aP)), ("flags", .d (.int (fl : Nat)))]) (.cons rfl (.cons (sb.look _ _ rfl) (.cons (sb.look _ _ rfl) .nil)))
    have hr : List.range' i (32 - i) = i :: List.range' (i + 1) (32 - (i + 1)) := by
      rw [show 32 - i = (32 - (i + 1)) + 1 by omega, List.range'_succ]
    rw [hr, goN] at hgo
    refine x_seq (s_assign F₄ m (d := .int ((2 ^ i : Nat) : Int)) ((ev_bin F₄.en ev_int (ev_name F₄.en rfl rfl (by decide +kernel)) (bo_shl (by omega) (by omega) (by decide))).cast (by rw [Int.toNat_natCast, Int.one_mul]; simp)) rfl rfl fun h₅ t₅ F₅ => ?_)
    refine x_seq (s_if F₅ m (tv_int (M₁ := [aP]) (ev_bin F₅.en (ev_name F₅.en rfl rfl (by decide +kernel)) (ev_name F₅.en rfl rfl (by decide +kernel)) bo_and)) (fun hb h₆ t₆ _ F₆ => ?_) fun hb h₆ t₆ _ F₆ => ?_)
    · rw [if_pos hb] at hgo
      have hne : Builtin.bitAnd (fl : Int) ((2 ^ i : Nat) : Int) ≠ 0 := by simpa using hb
      have hi9 : i < 9 := by
        rcases Nat.lt_or_ge i 9 with z | z
        · exact z
        · exact absurd (and_hi i hi fl hfl z) hne
      have hx := xor_lo i hi9 fl hfl hne
      have hap : sl ns ++ [.str (nmF i)] = sl (ns ++ [nmF i]) := sl_app
      have h20' : ∀ x ∈ ns ++ [nmF i], x.length ≤ 20 := by
        intro x hx
        rcases List.mem_append.mp hx with z | z
        · exact h20 x z
        · rw [List.mem_singleton.mp z]; exact nmF_len i hi9
      refine x_seq (s_append (d := .str (nmF i)) F₆ m (ev_dget (M₁ := [aP]) (M₂ := [aP]) F₆.en rfl hda (by decide +kernel) (tab.keep F₆.tp) (ev_name F₆.en rfl rfl (by decide +kernel)) (ev_hex F₆.en rfl G.hex.1 G.hex.2 (ev_name F₆.en rfl rfl (by decide +kernel)) (by have := hex_pow i hi9; exact small_line (by omega)) (fun _ => rfl)) (nmF_at i hi9 _)) rfl rfl (by decide +kernel) (fun _ => rfl) rfl rfl rfl (by rw [sl_len]; omega) fun h₇ t₇ F₇ => ?_)
      rw [hap] at F₇
      refine x_seq (s_aug (op := .BitXor) (c := ((fl - 2 ^ i : Nat) : Int)) F₇ m (ev_name F₇.en rfl rfl (by decide +kernel)) rfl rfl (fun {A s Q E t u} q' => by rw [← hx] at q'; exact ixor_int q') fun h₈ t₈ F₈ => ?_)
      refine x_seq (s_if F₈ m (tv_not (tv_int (M₁ := [aP]) (ev_name F₈.en rfl rfl (by decide +kernel)))) (fun hz h₉ t₉ _ F₉ => ?_) fun hz h₉ t₉ _ F₉ => ?_)
      · have hz : fl - 2 ^ i = 0 := by
          have : ((fl - 2 ^ i : Nat) : Int) = 0 := by simpa using hz
          omega
        rw [if_pos hz] at hgo
        exact x_seq (wpAny_Break (done hgo (by simp; omega) h20' (up _ _ _ F₉) (.cons rfl .nil)))
      · have hz : ¬ fl - 2 ^ i = 0 := by
          intro z; rw [z] at hz; cases hz
        rw [if_neg hz] at hgo
        exact wpAny_execs_nil (wpAny_execs_nil (wpAny_execs_nil ⟨_, _, h₉, t₉, rfl, F₉, fl - 2 ^ i, ns ++ [nmF i], Nat.lt_of_le_of_lt (Nat.sub_le _ _) hfl, hgo, by simp; omega, h20', rfl, .cons rfl (.cons rfl .nil)⟩))
    · rw [if_neg (by rw [hb]; decide)] at hgo
      exact wpAny_execs_nil (wpAny_execs_nil ⟨_, _, h₆, t₆, rfl, F₆, fl, ns, hfl, hgo, by omega, h20, rfl, .cons rfl (.cons rfl .nil)⟩)
  · rintro σ' μ' h' tk' E' ⟨fl, ns, hfl, hgo, hnl, h20, rfl, sb⟩ F'
    have F' := F'.norm sb
    have hap : sl ns ++ [.str (baseText "0x" 16 (fl : Int))] = sl (ns ++ [baseText "0x" 16 (fl : Int)]) := sl_app
    have hn32 : ns.length ≤ 32 := hnl
    have hgo : ns ++ [baseText "0x" 16 (fl : Int)] = PN fl0 := hgo
    refine x_seq (s_append F' m (ev_hex F'.en rfl G.hex.1 G.hex.2 (ev_name F'.en rfl rfl (by decide +kernel)) (by have := hex_fl fl hfl; exact small_line (by omega)) (fun _ => rfl)) rfl rfl (by decide +kernel) (fun _ => rfl) rfl rfl rfl (by rw [sl_len]; omega) fun h₇ t₇ F₇ => ?_)
    rw [hap] at F₇
    refine wpAny_execs_nil (done hgo (by simp; omega) ?_ F₇ (.cons rfl .nil))
    intro x hx
    rcases List.mem_append.mp hx with z | z
    · exact h20 x z
    · rw [List.mem_singleton.mp z]; exact hex_fl fl hfl
end Mine
namespace Mine
open PySem PySem.Calls PyProof.Rows
variable {w : World} {top : Heap} {mg mb : Str → Option Value}

theorem fresh1 {x y : Str} {b c : Bd} {σ : List (Str × Bd)} (e : [(y, b)].lookup x = some c) (h : σ.lookup y = none) : σ.lookup x = none := by
  rw [List.lookup_cons] at e
  by_cases z : x == y
  · rw [eq_of_beq z]; exact h
  · rw [Bool.eq_false_iff.mpr z] at e; cases e
theorem fresh2 {x y z : Str} {b d c : Bd} {σ : List (Str × Bd)} (e : [(y, b), (z, d)].lookup x = some c) (h : σ.lookup y = none) (h' : σ.lookup z = none) : σ.lookup x = none := by
  rw [List.lookup_cons] at e
  by_cases q : x == y
  · rw [eq_of_beq q]; exact h
  · rw [Bool.eq_false_iff.mpr q] at e; exact fresh1 e h'
/-- the names of a comprehension's own are not the block's -/
inductive Own (σ : List (Str × Bd)) : List (Str × NameKind) → Prop
  | nil : Own σ []
  | free {x r} : Own σ r → Own σ ((x, .free) :: r)
  | glob {x r} : Own σ r → Own σ ((x, .globalImplicit) :: r)
  | loc {x kd r} : σ.lookup x = none → Own σ r → Own σ ((x, kd) :: r)
theorem Own.own {σ : List (Str × Bd)} {names : List (Str × NameKind)} (o : Own σ names) : ∀ x ∈ names, x.2 = .local ∨ x.2 = .cell → σ.lookup x.1 = none := by
  induction o with
  | nil => intro x mx; cases mx
  | free _ ih =>
    intro x mx hx
    rcases List.mem_cons.mp mx with rfl | mx
    · rcases hx with e | e <;> cases e
    · exact ih x mx hx
  | glob _ ih =>
    intro x mx hx
    rcases List.mem_cons.mp mx with rfl | mx
    · rcases hx with e | e <;> cases e
    · exact ih x mx hx
  | loc h _ ih =>
    intro x mx hx
    rcases List.mem_cons.mp mx with rfl | mx
    · exact h
    · exact ih x mx hx

theorem nl_app {a b : List Nat} : nl a ++ nl b = nl (a ++ b) := by unfold nl il cs; rw [List.map_append, List.map_append]
def modeL (way : List Nat) : List Nat := (List.range 3).flatMap fun k => if way.getD k 0 < 3 then [2 ^ (8 - 3 * k - way.getD k 0)] else []
def modeOut (way : List Nat) : PyData → List PyData
  | .int i => if way.getD i.toNat 0 < 3 then [.int ((2 ^ (8 - 3 * i.toNat - way.getD i.toNat 0) : Nat) : Int)] else []
  | _ => []
theorem mode_outs (way : List Nat) : (rng 3).flatMap (modeOut way) = nl (modeL way) := by
  have e : ∀ l : List Nat, (l.map fun (i : Nat) => PyData.int (i : Int)).flatMap (modeOut way) = nl (l.flatMap fun k => if way.getD k 0 < 3 then [2 ^ (8 - 3 * k - way.getD k 0)] else []) := by
    intro l
    induction l with
    | nil => rfl
    | cons k r ih =>
      rw [List.map_cons, List.flatMap_cons, List.flatMap_cons, ih, ← nl_app]
      congr 1
      show (if way.getD (k : Int).toNat 0 < 3 then _ else _) = _
      rw [Int.toNat_natCast]
      split <;> rfl
  exact e _
def shownSpec (ds : List PyData) (d : PyData) : Prop := ∃ way ak, way.length = 3 ∧ (modeL way).sum < 512 ∧ (modeL way).length ≤ 3 ∧ ds = [.list (nl way), .list (nl ak)] ∧
  d = .list [.str (Str.join "" (picks (32768 + ((modeL way).sum : Nat)) 10)), .str (Str.join ", " (PN (modeL way).sum)), .list (nl ak)]
/-- the plain file's mark at the top -/
def RG (mg : Str → Option Value) : Prop := ∃ t, mg "S_IFREG" = some (.int 32768 t)
theorem cs_sum : ∀ {l : List Nat}, (cs l).sum = ((l.sum : Nat) : Int)
  | [] => rfl
  | x :: r => by show (x : Int) + (cs r).sum = _; rw [cs_sum]; simp
theorem cs_nonneg {l : List Nat} : ∀ x ∈ cs l, 0 ≤ x := fun x hx => by obtain ⟨n, _, rfl⟩ := List.mem_map.mp hx; omega

set_option maxHeartbeats 1000000 in
theorem PF_shown {fa ff fp fi : Addr} (G : PG top mg mb) (ft : FT top mg) (ct : CT w top mg) (rg : RG mg) (f : FnI top mg 36 fa) (f22 : FnI top mg 22 ff) (f25 : FnI top mg 25 fp) (f1 : FnI top mg 1 fi) : PF pw w 3 top fa shownSpec := by
  have P22 := PF_filemode (w := w) G ft f22 f1
  have P25 := PF_pretty G ct f25
  obtain ⟨tr, hr⟩ := rg
  refine PF.intro ["way", "asked"] f G.T (by decide +kernel) ?_ ?_
  · exact vals2 fun a b pm cd doc => rfl
  rintro _ _ ⟨way, ak, hw, h512, hml, rfl, rfl⟩
  refine ⟨_, .cons (.cons .nil), ?_⟩
  intro M h₀ h₁ Lc cd W A g dr tk os Q m tp F mk q
  refine x_seq (s_assign F m (d := .int (((modeL way).sum : Nat) : Int)) ((ev_sum (l := cs (modeL way)) F.en rfl G.sum.1 G.sum.2 ((ev_comp (ds := rng 3) (modeOut way) F.en F.sm (sr_range (n := 3) F.en rfl G.range.1 G.range.2 (by decide +kernel) ev_int (by decide) rfl (fun _ => rfl)) ?_ (by rw [mode_outs, nl_len]; omega) rfl rfl (by decide +kernel) rfl ?_).cast (by rw [mode_outs])) (fun _ => rfl) cs_nonneg (by rw [cs_sum]; omega)).cast (by rw [cs_sum])) rfl rfl fun h₂ t₂ F₂ => ?_)
  · intro cenv W' D hW hD d hd
    obtain ⟨i, hi, rfl⟩ := List.mem_map.mp hd
    have hi := List.mem_range.mp hi
    refine .intro ⟨[("k", .d (.int (i : Nat)))], _, .name (.inl rfl), fun x c e => fresh1 e rfl, fun h' st H sq => .cons (tv_cmp (M₁ := D :: M) (M₂ := D :: M) (ev_item (ev_name H rfl rfl (by decide +kernel)) (ev_name H rfl rfl (by decide +kernel)) (by omega) (by omega) (by rw [Int.toNat_natCast]; exact nl_getD (by omega)) (fun _ _ => rfl)) ev_int cm_lt rfl) fun _ => .nil, fun hb => ?_, fun hb => ?_⟩
    · have hb : way.getD i 0 < 3 := by
        rw [Bool.and_true] at hb
        have := of_decide_eq_true hb; omega
      show CB _ _ _ _ _ _ _ _ _ _ _ _ _ _ _ _ _ (if way.getD (i : Int).toNat 0 < 3 then _ else _)
      rw [Int.toNat_natCast, if_pos hb]
      refine cb_emit rfl hW hD fun h' st H sq => (ev_bin H ev_int (ev_bin H (ev_bin H ev_int (ev_bin H ev_int (ev_name H rfl rfl (by decide +kernel)) (bo_mulL (by decide))) bo_sub) (ev_item (ev_name H rfl rfl (by decide +kernel)) (ev_name H rfl rfl (by decide +kernel)) (by omega) (by omega) (by rw [Int.toNat_natCast]; exact nl_getD (by omega)) (fun _ _ => rfl)) bo_sub) (bo_shl (by omega) (by omega) (by decide))).cast ?_
      congr 1
      rw [show ((8 : Int) - 3 * (i : Int) - ((way.getD i 0 : Nat) : Int)).toNat = 8 - 3 * i - way.getD i 0 by omega]
      simp
    · have hb : ¬ way.getD i 0 < 3 := by
        rw [Bool.and_true] at hb
        have := of_decide_eq_false hb; omega
      show (if way.getD (i : Int).toNat 0 < 3 then _ else _) = _
      rw [Int.toNat_natCast, if_neg hb]
  · exact (Own.loc rfl (.loc rfl (.free .nil))).own
  have rI : ∀ {h : Heap}, Rd M h (.int 32768 tr) (.int 32768) := .int ..
  refine x_seq (s_return F₂ m (ev_list F₂.en (.cons (ev_call F₂.en F₂.sm F₂.tp f22 P22 (by omega) rfl (by decide +kernel) (.cons (ev_bin F₂.en (ev_glob F₂.en rfl hr rI (by decide +kernel)) (ev_name F₂.en rfl rfl (by decide +kernel)) bo_add) .nil (fun _ => rfl)) ⟨_, rfl, rfl⟩)
    (.cons (ev_call F₂.en F₂.sm F₂.tp f25 P25 (by omega) rfl (by decide +kernel) (.cons (ev_name F₂.en rfl rfl (by decide +kernel)) .nil (fun _ => rfl)) ⟨_, h512, rfl, rfl⟩) (.cons (ev_name F₂.en rfl rfl (by decide +kernel)) .nil (fun _ => rfl)) (fun _ => rfl)) (fun _ => rfl))) fun v h' tk' F' r => ?_)
  exact q v _ _ _ h' tk' F' r
end Mine
namespace Mine
open PySem PySem.Calls PyProof.Rows
variable {w : World} {top : Heap} {mg mb : Str → Option Value}

theorem nl_take {a : List Nat} {n : Nat} : (nl a).take n = nl (a.take n) := by unfold nl il cs; rw [List.map_take, List.map_take]
theorem nl_get {l : List Nat} {i : Nat} {d : PyData} (h : (nl l)[i]? = some d) : ∃ n, l[i]? = some n ∧ d = .int (n : Nat) := by
  unfold nl il cs at h
  rw [List.getElem?_map, List.getElem?_map, Option.map_map, Option.map_eq_some_iff] at h
  obtain ⟨n, e, rfl⟩ := h
  exact ⟨n, e, rfl⟩
theorem idx_app {l : List Nat} {x : Nat} (h : x ∈ l ++ [3]) : (l ++ [3]).idxOf x ≤ l.length := by
  have := List.idxOf_lt_length_iff.mpr h
  simp at this
  omega

def keptSpec (ds : List PyData) (d : PyData) : Prop := ∃ W L way b, Good W L ∧ way.length = 3 ∧ (∀ a, a < 3 → way.getD a 0 ∈ row W a ++ [3]) ∧ (b = true ↔ Kept W L way) ∧ ds = [.list (nl way), .list (nn W), .list (nn L)] ∧ d = .bool b

set_option maxHeartbeats 1000000 in
theorem PF_kept {fa : Addr} (G : PG top mg mb) (f : FnI top mg 38 fa) : PF pw w 1 top fa keptSpec := by
  refine PF.intro ["way", "wishes", "likings"] f G.T (by decide +kernel) ?_ ?_
  · exact vals3 fun a b c pm cd doc => rfl
  rintro _ _ ⟨Wl, L, way, b, GD, hw, hin, hb, rfl, rfl⟩
  refine ⟨_, .cons (.cons (.cons .nil)), ?_⟩
  intro M h₀ h₁ Lc cd W A g dr tk os Q m tp F mk q
  refine x_seq (s_for F m (sr_range (n := 3) F.en rfl G.range.1 G.range.2 (by decide +kernel) ev_int (by decide) rfl (fun _ => rfl))
    (fun i σ μ => (∀ a, a < i → ∀ r ∈ early Wl way a, goodAt L way a r) ∧ μ = [] ∧ Sub σ [("way", .d (.list (nl way))), ("wishes", .d (.list (nn Wl))), ("likings", .d (.list (nn L)))]) ⟨fun a ha => by omega, rfl, .cons rfl (.cons rfl (.cons rfl .nil))⟩ ?_ ?_ (fun _ => rfl))
  · rintro a d σ₁ μ₁ hd ⟨ok, rfl, sb⟩
    obtain ⟨ha, rfl⟩ := rng_at hd
    refine ⟨_, .name (.inl rfl), fun h₂ h₃ t₃ E' up F₃ => ?_⟩
    have F₃ := F₃.norm (c := [("asker", .d (.int (a : Nat))), ("way", .d (.list (nl way))), ("wishes", .d (.list (nn Wl))), ("likings", .d (.list (nn L)))]) (.cons rfl (.cons (sb.look _ _ rfl) (.cons (sb.look _ _ rfl) (.cons (sb.look _ _ rfl) .nil))))
    have hz := GD.wz a ha
    have eW := ev_item (k := 1) (w := w) (prog := pw) (pos := ⟨0, 0, 0, 0⟩) (ev_name (x := "wishes") (pos := ⟨0, 0, 0, 0⟩) F₃.en rfl rfl (by decide +kernel)) (ev_name (x := "asker") (pos := ⟨0, 0, 0, 0⟩) F₃.en rfl rfl (by decide +kernel)) (by omega) (by omega) (by rw [Int.toNat_natCast]; exact nn_at (by rw [GD.wl]; exact ha)) (fun _ _ => rfl)
    refine x_seq (s_for (ds := nl (early Wl way a)) F₃ m (sr_list F₃.en ((ev_upto (j := (row Wl a ++ [3]).idxOf (way.getD a 0)) F₃.en (ev_item (ev_name F₃.en rfl rfl (by decide +kernel)) (ev_name F₃.en rfl rfl (by decide +kernel)) (by omega) (by omega) (by rw [Int.toNat_natCast]; exact nn_at (by rw [GD.wl]; exact ha)) (fun _ _ => rfl))
        ((ev_index (M₁ := M) (M₂ := M) (l := cs (row Wl a ++ [3])) (i := ((way.getD a 0 : Nat) : Int)) ((ev_bin F₃.en (ev_item (ev_name F₃.en rfl rfl (by decide +kernel)) (ev_name F₃.en rfl rfl (by decide +kernel)) (by omega) (by omega) (by rw [Int.toNat_natCast]; exact nn_at (by rw [GD.wl]; exact ha)) (fun _ _ => rfl)) (ev_list F₃.en (.cons ev_int .nil (fun _ => rfl))) (bo_list (by rw [nl_len]; simp; omega))).cast (congrArg PyData.list (nl_app (a := row Wl a) (b := [3]))))
          (ev_item (ev_name F₃.en rfl rfl (by decide +kernel)) (ev_name F₃.en rfl rfl (by decide +kernel)) (by omega) (by omega) (by rw [Int.toNat_natCast]; exact nl_getD (by omega)) (fun _ _ => rfl)) (cs_mem.mpr (hin a ha)) (by simp [cs]; omega)).cast (by rw [cs_idx])) (by rw [nl_len]; omega) (by rw [nl_len]; exact idx_app (hin a ha))).cast (by rw [nl_take]; rfl)) (fun z => by cases z))
      (fun j σ μ => (∀ i r, i < j → (early Wl way a)[i]? = some r → goodAt L way a r) ∧ μ = [] ∧ Sub σ [("asker", .d (.int (a : Nat))), ("way", .d (.list (nl way))), ("wishes", .d (.list (nn Wl))), ("likings", .d (.list (nn L)))]) ⟨fun i r hi => by omega, rfl, .cons rfl (.cons rfl (.cons rfl (.cons rfl .nil)))⟩ ?_ ?_ (fun _ => rfl))
    · rintro j d σ₂ μ₂ hd ⟨ok2, rfl, sb2⟩
      obtain ⟨r, hr, rfl⟩ := nl_get hd
      have hrm : r ∈ early Wl way a := List.mem_of_getElem? hr
      have hr3 : r < 3 := GD.wb a ha r (List.mem_of_mem_take hrm)
      have hlz := GD.lz r hr3
      refine ⟨_, .name (.inl rfl), fun h₄ h₅ t₅ E'' up2 F₅ => ?_⟩
      have F₅ := F₅.norm (c := [("right", .d (.int (r : Nat))), ("asker", .d (.int (a : Nat))), ("way", .d (.list (nl way))), ("wishes", .d (.list (nn Wl))), ("likings", .d (.list (nn L)))]) (.cons rfl (.cons (sb2.look _ _ rfl) (.cons (sb2.look _ _ rfl) (.cons (sb2.look _ _ rfl) (.cons (sb2.look _ _ rfl) .nil)))))
      refine x_seq (s_if (b := !(cs way).contains (r : Int) || decide (((row L r).idxOf a : Int) < ((row L r).idxOf (way.idxOf r) : Int))) F₅ m (tv_or2 (tv_cmp (M₁ := M) (M₂ := M) (ev_name F₅.en rfl rfl (by decide +kernel)) (ev_name F₅.en rfl rfl (by decide +kernel)) cm_nin rfl) fun hc => ?_) (fun hc h₆ t₆ _ F₆ => ?_) fun hc h₆ t₆ _ F₆ => ?_)
      · have hc : r ∈ way := cs_mem.mp (by simpa using hc)
        have hi3 : way.idxOf r < 3 := by have := List.idxOf_lt_length_iff.mpr hc; omega
        refine (tv_cmp (M₁ := M) (M₂ := M) (ev_index (M₁ := M) (M₂ := M) (l := cs (row L r)) (i := (a : Int)) (ev_item (ev_name F₅.en rfl rfl (by decide +kernel)) (ev_name F₅.en rfl rfl (by decide +kernel)) (by omega) (by omega) (by rw [Int.toNat_natCast]; exact nn_at (by rw [GD.ll]; exact hr3)) (fun _ _ => rfl)) (ev_name F₅.en rfl rfl (by decide +kernel)) (cs_mem.mpr (GD.lm r hr3 a ha)) (by simp [cs]; omega))
          (ev_index (M₁ := M) (M₂ := M) (l := cs (row L r)) (i := ((way.idxOf r : Nat) : Int)) (ev_item (ev_name F₅.en rfl rfl (by decide +kernel)) (ev_name F₅.en rfl rfl (by decide +kernel)) (by omega) (by omega) (by rw [Int.toNat_natCast]; exact nn_at (by rw [GD.ll]; exact hr3)) (fun _ _ => rfl))
            ((ev_index (M₁ := M) (M₂ := M) (l := cs way) (i := (r : Int)) (ev_name F₅.en rfl rfl (by decide +kernel)) (ev_name F₅.en rfl rfl (by decide +kernel)) (cs_mem.mpr hc) (by simp [cs]; omega)).cast (by rw [cs_idx])) (cs_mem.mpr (GD.lm r hr3 _ hi3)) (by simp [cs]; omega)) cm_lt rfl).cast ?_
        rw [cs_idx, cs_idx]
      · refine x_seq (s_return F₆ m ev_bool fun v h' tk' F' r' => ?_)
        have hbf : b = false := by
          cases b with
          | false => rfl
          | true =>
            obtain ⟨k1, k2⟩ := hb.mp rfl a ha r hrm
            simp only [Bool.or_eq_true, Bool.not_eq_true', decide_eq_true_eq] at hc
            rcases hc with hc | hc
            · have := List.contains_iff_mem.mpr (cs_mem.mpr k1)
              rw [this] at hc; cases hc
            · exact absurd (by omega) k2
        subst hbf
        have F₇ := up _ _ _ (up2 _ _ _ F')
        exact q v _ _ _ h' tk' F₇ r'
      · refine wpAny_execs_nil (wpAny_execs_nil ⟨_, _, h₆, t₆, rfl, F₆, fun i u hi hu => ?_, rfl, .cons rfl (.cons rfl (.cons rfl (.cons rfl .nil)))⟩)
        rcases Nat.lt_or_ge i j with z | z
        · exact ok2 i u z hu
        · have : i = j := by omega
          subst this
          rw [hr] at hu; cases hu
          simp only [Bool.or_eq_false_iff, Bool.not_eq_false', decide_eq_false_iff_not] at hc
          exact ⟨cs_mem.mp (List.contains_iff_mem.mp hc.1), by omega⟩
    · rintro σ' μ' h' tk' E'' ⟨ok2, rfl, sb2⟩ F'
      refine wpAny_execs_nil (wpAny_execs_nil ⟨_, _, h', tk', rfl, F', fun c hc r hr => ?_, rfl, .cons (sb2.look _ _ rfl) (.cons (sb2.look _ _ rfl) (.cons (sb2.look _ _ rfl) .nil))⟩)
      rcases Nat.lt_or_ge c a with z | z
      · exact ok c z r hr
      · have : c = a := by omega
        subst this
        obtain ⟨i, hi, e⟩ := List.getElem_of_mem hr
        exact ok2 i r (by rw [nl_len]; exact hi) (by rw [List.getElem?_eq_getElem hi, e])
  · rintro σ' μ' h' tk' E' ⟨ok, rfl, sb⟩ F'
    refine wpAny_execs_nil ?_
    refine x_seq (s_return F' m ev_bool fun v h' tk' F' r' => ?_)
    have hbt : b = true := hb.mpr fun a ha => ok a ha
    subst hbt
    exact q v _ _ _ h' tk' F' r'
end Mine
namespace Mine
open PySem PySem.Calls PyProof.Rows
variable {w : World} {top : Heap} {mg mb : Str → Option Value}

def SG : List Str := ["r", "w", "x"]
def rowS (way : List Nat) : List Str := (List.range 3).flatMap fun k => (List.range 3).map fun r => if way.getD k 0 = r then SG.getD r "" else "-"
def rowT (way : List Nat) : Str := Str.join "" (rowS way)
def ckT (way : List Nat) (k : Nat) : Str := ⟨#[(rowT way).cps.toList.getD (8 - k) 0]⟩
def wordsT (way : List Nat) : List Str := (List.range 9).flatMap fun k => if ckT way k != "-" then [nmF k] else []
def NM9 : List Str := ["OPTIMIZED", "NEWLOCALS", "VARARGS", "VARKEYWORDS", "NESTED", "GENERATOR", "NOFREE", "COROUTINE", "ITERABLE_COROUTINE"]
theorem NM9_at {k : Nat} (h : k < 9) : (sl NM9)[k]? = some (.str (nmF k)) := by
  unfold sl
  rw [List.getElem?_map, List.getElem?_eq_getElem (by exact h)]
  match k, h with
  | 0, _ | 1, _ | 2, _ | 3, _ | 4, _ | 5, _ | 6, _ | 7, _ | 8, _ => rfl
def toldSpec (ds : List PyData) (d : PyData) : Prop := ∃ way ak, way.length = 3 ∧ (rowT way).cps.toList.length = 9 ∧ (rowS way).length ≤ 9 ∧ (∀ x ∈ rowS way, x.length ≤ 20) ∧ (wordsT way).length ≤ 9 ∧ (∀ x ∈ wordsT way, x.length ≤ 20) ∧ ds = [.list (nl way), .list (nl ak)] ∧
  d = .list [.str ("-" ++ rowT way), .str (if ((Str.join ", " (wordsT way)).length : Int) != 0 then Str.join ", " (wordsT way) else "0x0"), .list (nl ak)]
def rowOut (way : List Nat) : PyData → List PyData
  | .int i => sl ((List.range 3).map fun r => if way.getD i.toNat 0 = r then SG.getD r "" else "-")
  | _ => []
def wordsOut (way : List Nat) : PyData → List PyData
  | .int i => sl (if ckT way i.toNat != "-" then [nmF i.toNat] else [])
  | _ => []
theorem wordsOut_pos {way : List Nat} {i : Nat} (h : (ckT way i != "-") = true) : wordsOut way (.int (i : Nat)) = [.str (nmF i)] := by
  unfold wordsOut
  simp only [Int.toNat_natCast]
  rw [if_pos h]; rfl
theorem wordsOut_neg {way : List Nat} {i : Nat} (h : ¬ (ckT way i != "-") = true) : wordsOut way (.int (i : Nat)) = [] := by
  unfold wordsOut
  simp only [Int.toNat_natCast]
  rw [if_neg h]; rfl
theorem slo {n : Nat} (out : PyData → List PyData) (g : Nat → List Str) (h : ∀ k : Nat, out (.int (k : Int)) = sl (g k)) : (rng n).flatMap out = sl ((List.range n).flatMap g) := by
  have e : ∀ l : List Nat, (l.map fun (i : Nat) => PyData.int (i : Int)).flatMap out = sl (l.flatMap g) := by
    intro l
    induction l with
    | nil => rfl
    | cons k r ih =>
      rw [List.map_cons, List.flatMap_cons, List.flatMap_cons, ih, h]
      unfold sl
      rw [List.map_append]
  exact e _
theorem row_outs (way : List Nat) : (rng 3).flatMap (rowOut way) = sl (rowS way) := slo _ _ fun k => by
  show sl _ = _
  rw [Int.toNat_natCast]
theorem words_outs (way : List Nat) : (rng 9).flatMap (wordsOut way) = sl (wordsT way) := slo _ _ fun k => by
  show sl _ = _
  rw [Int.toNat_natCast]
theorem join_len20 {sep : Str} {l : List Str} (h : ∀ x ∈ l, x.length ≤ 20) : (Str.join sep l).length ≤ 20 * l.length + l.length * sep.length := by
  have h1 := StrLaws.join_length_le sep l
  have h2 := sum20 h
  omega
theorem enum_rwx : enumD (signsD "rwx") = [.tuple [.int ((0 : Nat) : Int), .str "r"], .tuple [.int ((1 : Nat) : Int), .str "w"], .tuple [.int ((2 : Nat) : Int), .str "x"]] := by rfl
def signOut (way : List Nat) (k : Nat) : PyData → List PyData
  | .tuple [.int r, .str s] => [.str (if (way.getD k 0 : Int) = r then s else "-")]
  | _ => []

set_option maxHeartbeats 1000000 in
theorem PF_told {fa : Addr} (G : PG top mg mb) (f : FnI top mg 37 fa) : PF pw w 1 top fa toldSpec := by
  refine PF.intro ["way", "asked"] f G.T (by decide +kernel) ?_ ?_
  · exact vals2 fun a b pm cd doc => rfl
  rintro _ _ ⟨way, ak, hw, h9, hr9, hr20, hw9, hw20, rfl, rfl⟩
  refine ⟨_, .cons (.cons .nil), ?_⟩
  intro M h₀ h₁ Lc cd W A g dr tk os Q m tp F mk q
  refine x_seq ?_
  apply s_assign F m (d := .list (sl NM9))
  · refine ev_list F.en ?_ (by decide)
    repeat refine .cons ev_str ?_ (fun _ => rfl)
    exact .nil
  · rfl
  · rfl
  intro h₂ t₂ F₂
  have hs9 := sum20 hr20
  refine x_seq (s_assign F₂ m (d := .str (rowT way)) (ev_join (M₁ := M) (M₂ := M) (l := rowS way) ev_str ((ev_comp (ds := rng 3) (rowOut way) F₂.en F₂.sm (sr_range (n := 3) F₂.en rfl G.range.1 G.range.2 (by decide +kernel) ev_int (by decide) rfl (fun _ => rfl)) ?_ (by rw [row_outs, sl_len]; omega) rfl rfl (by decide +kernel) rfl (Own.loc rfl (.loc rfl (.loc rfl (.loc rfl (.glob (.free .nil)))))).own).cast (by rw [row_outs])) (by rw [show ("" : Str).length = 0 from rfl]; omega)) rfl rfl fun h₃ t₃ F₃ => ?_)
  · intro cenv W' D hW hD d hd
    obtain ⟨i, hi, rfl⟩ := List.mem_map.mp hd
    have hi := List.mem_range.mp hi
    refine .intro ⟨[("k", .d (.int (i : Nat)))], true, .name (.inl rfl), fun x c e => fresh1 e rfl, fun h' st H sq => .nil, fun _ => ?_, fun z => nomatch z⟩
    have eo : rowOut way (.int (i : Nat)) = (enumD (signsD "rwx")).flatMap (signOut way i) := by
      rw [enum_rwx]
      show sl ((List.range 3).map fun r => if way.getD (i : Int).toNat 0 = r then SG.getD r "" else "-") = [.str (if (way.getD i 0 : Int) = ((0 : Nat) : Int) then "r" else "-"), .str (if (way.getD i 0 : Int) = ((1 : Nat) : Int) then "w" else "-"), .str (if (way.getD i 0 : Int) = ((2 : Nat) : Int) then "x" else "-")]
      rw [Int.toNat_natCast]
      simp only [Int.natCast_inj]
      rfl
    rw [eo]
    refine cb_for rfl hW hD (signOut way i) (fun h' st H sq => sr_enum_str H rfl G.enumerate.1 G.enumerate.2 (by decide +kernel) (by decide +kernel) (fun _ => rfl) ev_str) (fun d hd => ?_) (fun _ => rfl)
    rw [enum_rwx] at hd
    simp only [List.mem_cons, List.not_mem_nil, or_false] at hd
    rcases hd with rfl | rfl | rfl
    all_goals
      refine CI.intro ⟨[("sign", .d (.str _)), ("right", .d (.int _))], true, .pair (.inl rfl) (.inl rfl), fun x c e => fresh2 e rfl rfl, fun h' st H sq => .nil, fun _ => ?_, fun z => nomatch z⟩
      rw [signOut]
      refine cb_emit rfl hW hD fun h' st H sq => ev_ite (tv_cmp (M₁ := D :: M) (M₂ := D :: M) (ev_item (ev_name H rfl rfl (by decide +kernel)) (ev_name H rfl rfl (by decide +kernel)) (by omega) (by omega) (by rw [Int.toNat_natCast]; exact nl_getD (by omega)) (fun _ _ => rfl)) (ev_name H rfl rfl (by decide +kernel)) cm_eq rfl) (fun hb => (ev_name H rfl rfl (by decide +kernel)).cast ?_) (fun hb => ev_str.cast ?_)
      · rw [if_pos (eq_of_beq hb)]
      · rw [if_neg (fun z => by rw [z] at hb; simp at hb)]
  refine x_seq ?_
  apply s_comp (ds := rng 9) (wordsOut way) F₃ m (sr_range (n := 9) F₃.en rfl G.range.1 G.range.2 (by decide +kernel) ev_int (by decide) rfl (fun _ => rfl)) ?_ (by rw [words_outs, sl_len]; omega) rfl rfl (Own.loc rfl (.loc rfl (.free (.free .nil)))).own (fun h₄ t₄ F₄ => ?_) rfl rfl (by decide +kernel) rfl
  · intro cenv W' D hW hD d hd
    obtain ⟨i, hi, rfl⟩ := List.mem_map.mp hd
    have hi := List.mem_range.mp hi
    have hat : (rowT way).cps.toList[((8 : Int) - (i : Int)).toNat]? = some ((rowT way).cps.toList.getD (8 - i) 0) := by
      rw [show ((8 : Int) - (i : Int)).toNat = 8 - i by omega, getD_at (by omega), List.getElem?_eq_getElem]
    refine .intro ⟨[("k", .d (.int (i : Nat)))], _, .name (.inl rfl), fun x c e => fresh1 e rfl, fun h' st H sq => .cons (tv_cmp (M₁ := D :: M) (M₂ := D :: M) (ev_itemS (ev_name H rfl rfl (by decide +kernel)) (ev_bin H ev_int (ev_name H rfl rfl (by decide +kernel)) bo_sub) (by omega) (by omega) hat (fun _ _ => rfl)) ev_str cm_sne rfl) fun _ => .nil, fun hb => ?_, fun hb => ?_⟩
    · have hb : (ckT way i != "-") = true := by rw [Bool.and_true] at hb; exact hb
      rw [wordsOut_pos hb]
      exact cb_emit rfl hW hD fun h' st H sq => ev_item (ev_name H rfl rfl (by decide +kernel)) (ev_name H rfl rfl (by decide +kernel)) (by omega) (by omega) (by rw [Int.toNat_natCast]; exact NM9_at hi) (fun _ _ => rfl)
    · have hb : ¬ (ckT way i != "-") = true := by
        rw [Bool.and_true] at hb
        intro z
        exact absurd (z.symm.trans hb) (by decide)
      exact wordsOut_neg hb
  rw [words_outs] at F₄
  have hj := join_len20 (sep := ", ") hw20
  rw [show (", " : Str).length = 2 from rfl] at hj
  have hsw := sum20 hw20
  refine x_seq (s_return F₄ m (ev_list F₄.en (.cons (ev_bin F₄.en ev_str (ev_name F₄.en rfl rfl (by decide +kernel)) (bo_str (by
      have : (rowT way).length = 9 := h9
      rw [this]; decide)))
    (.cons (ev_orS (ev_join (M₁ := M) (M₂ := M) (l := wordsT way) ev_str (ev_name F₄.en rfl rfl (by decide +kernel)) (by rw [show (", " : Str).length = 2 from rfl]; omega)) ev_str (by omega)) (.cons (ev_name F₄.en rfl rfl (by decide +kernel)) .nil (fun _ => rfl)) (fun _ => rfl)) (fun _ => rfl))) fun v h' tk' F' r => ?_)
  exact q v _ _ _ h' tk' F' r
end Mine
namespace Mine
open PySem PySem.Calls PyProof.Rows
variable {w : World} {top : Heap} {mg mb : Str → Option Value}

/-- the tape: an iterator over a plain list of ints, at place i -/
structure Tape (h : Heap) (I l : Addr) (xs : List Int) (i : Nat) : Prop where
  it : h.IsListIter I l i
  li : ∃ vs n, h.get? l = some { cls := .type "list", data := .seq vs n } ∧ RdAll [] h vs.toList (il xs)
theorem Tape.fd {h : Heap} {I l : Addr} {xs : List Int} {i : Nat} (t : Tape h I l xs i) : FD h I := by
  obtain ⟨o, e, _, d⟩ := t.it
  exact ⟨o, _, e, d⟩
theorem Tape.stay {h h' : Heap} {I l : Addr} {xs : List Int} {i : Nat} (t : Tape h I l xs i) (s : Stay h h') : Tape h' I l xs i :=
  ⟨let ⟨o, e, r⟩ := t.it; ⟨o, s _ _ e, r⟩, let ⟨vs, n, e, r⟩ := t.li; ⟨vs, n, s _ _ e, r.stay s⟩⟩
theorem Tape.same {h h' : Heap} {I l : Addr} {xs : List Int} {i j : Nat} (t : Tape h I l xs i) (hs : Heap.SameBut I h h') (it : h'.IsListIter I l j) : Tape h' I l xs j := by
  obtain ⟨vs, n, e, r⟩ := t.li
  obtain ⟨oI, eI, cI, _⟩ := t.it
  have ne : l ≠ I := fun z => by
    subst z; rw [e] at eI; cases eI; injection cI with cI; exact absurd cI (by decide)
  refine ⟨it, vs, n, hs.extBut l _ ne e, ?_⟩
  exact r.move fun b o us k _ g d => ⟨hs.extBut b o (fun z => by
    obtain ⟨oI, eI, _, dI⟩ := t.it
    rw [z, eI] at g; cases g; rw [dI] at d; cases d) g, List.not_mem_nil⟩

/-- next of the tape -/
theorem call_tape {M : List Addr} {h org base : Heap} {σ : List (Str × Bd)} {μ : List (Addr × List PyData)} {V W : List Addr} {env : Env} {nm : List (Str × NameKind)} {A : Around} {g : Array GenState} {dr : Drawn} {tk : Nat} {os : OsState} {E : Value → Shared → Prop} {Q : Value → Shared → Prop} {I l : Addr} {xs : List Int} {i : Nat} {v : Int} {x : Str} {p np pos : Pos}
    (F : FS ⟨top, base, V, mg, mb, env, nm, W⟩ org σ M μ h) (G : PG top mg mb) (T : Tape h I l xs i) (hb : base.get? I = none) (ho : org.get? I = none) (ht : top.get? I = none) (gi : nm.lookup ("next" : Str) = some .globalImplicit)
    (hx : isLoc (nm.lookup x) = true) (lx : σ.lookup x = some (.r (.ref I))) (hdx : ((x == ("__debug__" : Str)) || (x == ("__classdict__" : Str))) = false) (hv : xs[i]? = some v)
    (q : ∀ u h' tk', FS ⟨top, base, V, mg, mb, env, nm, W⟩ org σ M μ h' → Tape h' I l xs (i + 1) → Rd M h' u (.int v) → Q u ⟨h', g, dr, tk', os⟩) :
    wpAny (model pw w) A (eval (.Call (.Name "next" p) [.Name x np] [] pos) env) Q E ⟨h, g, dr, tk, os⟩ := by
  obtain ⟨h1, h2⟩ := Bool.or_eq_false_iff.mp hdx
  refine Call_ (F.en.blt (s := ⟨h, g, dr, tk, os⟩) (.refl _) gi G.next.1 G.next.2 (by decide +kernel) ?_) rfl
  refine PyProof.Rows.callWith_builtin1 (wpAny_items_cons ((F.raw hx lx).load (s := ⟨h, g, dr, tk, os⟩) F.en.fn h1 h2 (wpAny_items_nil ?_)) rfl) rfl rfl
  obtain ⟨vs, n, e, r⟩ := T.li
  obtain ⟨u, hu, ru⟩ := r.at (i := i) (d := .int v) (by unfold il; rw [List.getElem?_map, hv]; rfl)
  refine call_next_item (s := ⟨h, g, dr, tk, os⟩) T.it ⟨_, e, rfl, _, rfl⟩ (by simpa using hu) fun h' it' hs => ?_
  obtain ⟨o', e', _, _⟩ := id it'
  refine q u h' tk (F.fld T.fd (fun b o ne g => hs.extBut b o ne g) ⟨o', e'⟩ hb ho ht) (T.same hs it') ?_
  obtain ⟨t, rfl⟩ := ru.intVal
  exact .int ..
theorem Tape.chg {W : List Addr} {h h' : Heap} {I l : Addr} {xs : List Int} {i : Nat} (t : Tape h I l xs i) (c : Chg W h h') : Tape h' I l xs i :=
  ⟨let ⟨o, e, a, b⟩ := t.it; ⟨o, c.mild I o e (fun es n z => by rw [b] at z; cases z) (fun v z => by rw [b] at z; cases z), a, b⟩,
   let ⟨vs, n, e, r⟩ := t.li; ⟨vs, n, c.mild l _ e (fun es n z => by cases z) (fun v z => by cases z), r.mild c⟩⟩

/-- y = (a value whose making changes what P speaks of) -/
theorem s_assignP {C : Cx} {M : List Addr} {h org : Heap} {σ : List (Str × Bd)} {μ : List (Addr × List PyData)} {A : Around} {g : Array GenState} {dr : Drawn} {tk : Nat} {os : OsState} {E : Value → Shared → Prop} {y : Str} {p pos : Pos} {value : Expr} {d : PyData} {Q : Flow → Shared → Prop} (F : FS C org σ M μ h) (P : Heap → Prop) (st : ∀ h h', Chg C.W h h' → P h → P h') (hy : (C.nm.lookup y == some .local || C.nm.lookup y == some .cell) = true)
    (hs : swapsWith value (some (.Name y p)) pos.line C.env = pure false)
    (ex : ∀ Q' : Value → Shared → Prop, (∀ v h' tk', FS C org σ M μ h' → P h' → Rd M h' v d → Q' v ⟨h', g, dr, tk', os⟩) → wpAny (model pw w) A (eval value C.env) Q' E ⟨h, g, dr, tk, os⟩)
    (q : ∀ h' tk', FS C org ((y, .d d) :: σ) M μ h' → P h' → Q .next ⟨h', g, dr, tk', os⟩) : wpAny (model pw w) A (exec (.Assign [.Name y p] value pos) C.env) Q E ⟨h, g, dr, tk, os⟩ := by
  refine wpAny_Assign_Name (ex _ fun v h₁ t₁ F₁ p₁ r₁ => ?_) hs
  exact F₁.en.store (s := ⟨h₁, g, dr, t₁, os⟩) (b := .d d) (by simpa using hy) r₁ fun h₂ t₂ H₂ e₂ m₂ => q h₂ t₂ (F₁.chg H₂ ⟨e₂, m₂⟩) (st _ _ ⟨e₂, m₂⟩ p₁)
end Mine
namespace Mine
open PySem PySem.Calls PyProof.Rows
variable {prog : Program} {w : World} {k : Nat} {C : Cx} {org : Heap} {M : List Addr} {σ : List (Str × Bd)} {μ : List (Addr × List PyData)} {h : Heap}
variable {A : Around} {g : Array GenState} {dr : Drawn} {tk : Nat} {os : OsState} {E : Value → Shared → Prop}

/-- iter of a list -/
theorem call_iter_list {s : Shared} {l : Addr} {items : Array Value} {Q : Value → Shared → Prop} (hl : s.heap.IsList l items)
    (h : Q (.ref s.heap.objs.size) { s with heap := s.heap.push { cls := .type "list_iterator", data := .fields #[.ref l, .int 0 0] } }) : wpAny (model prog w) A (call (.builtin "iter") [.ref l]) Q E s := by
  refine call_function_entry (by decide +kernel) (by decide +kernel) entry_iter (args_iter _) ?_
  unfold Builtin.«iter»
  refine wpAny_bind (m := someArgs "iter" 1 2 _) (wpAny_of_eq (a := [Value.ref l]) (by first | rfl | kernel_rfl!) ?_)
  show wpAny _ _ (pyIter (.ref l) >>= _) _ _ _
  refine wpAny_bind (wpAny_pyIter_list hl ?_)
  exact wpAny_pure ⟨_, rfl, h⟩

/-- the slots of dicts change: the names stay -/
theorem EN.slots {mg mb env nm W} {h h' : Heap} (H : EN mg mb env nm W σ M h) (sm : Seqs M h) (k1 : ∀ a o, h.get? a = some o → (∀ es n, o.data ≠ .dict es n) → (∀ vs, o.data ≠ .fields vs) → h'.get? a = some o) (k2 : h.UpToSlots h') : EN mg mb env nm W σ M h' := by
  have kc : ∀ {c v}, h.IsCell c v → h'.IsCell c v := fun {c v} n => by
    obtain ⟨o, e, d⟩ := n
    exact ⟨o, k1 c o e (fun es n z => by rw [d] at z; cases z) (fun vs z => by rw [d] at z; cases z), d⟩
  exact {
    fn := H.fn, gl := H.gl, bl := H.bl
    loc := fun x b i l => by
      obtain ⟨v, n, o⟩ := H.loc x b i l
      refine ⟨v, ?_, ?_⟩
      · cases n with
        | loc m a b c => exact .loc m a (k2.ns b) c
        | cell c a b d => exact .cell c a b (kc d)
        | free c a b d => exact .free c a b (kc d)
      · cases b with
        | d x => exact Rd.move (fun b o vs n m e d => ⟨k1 b o e (fun es n z => by rw [d] at z; cases z) (fun vs z => by rw [d] at z; cases z), m⟩) o
        | r u => exact o
    glb := H.glb, kl := H.kl
    kc := fun x i => by obtain ⟨a, c, v, e, m, i⟩ := H.kc x i; exact ⟨a, c, v, e, m, kc i⟩
    kf := fun x i => by obtain ⟨a, c, v, e, i⟩ := H.kf x i; exact ⟨a, c, v, e, kc i⟩
    inj := H.inj
    ns := by obtain ⟨m, n⟩ := H.ns; exact ⟨m, k2.ns n⟩
    wl := H.wl
    wo := fun a m => by
      obtain ⟨o, e, d⟩ := H.wo a m
      rcases d with ⟨es, n, d⟩ | ⟨v, d⟩
      · obtain ⟨sl, e'⟩ := k2 a o e (fun vs z => by rw [d] at z; cases z)
        exact ⟨_, e', .inl ⟨es, n, d⟩⟩
      · exact ⟨o, k1 a o e (fun es n z => by rw [d] at z; cases z) (fun vs z => by rw [d] at z; cases z), .inr ⟨v, d⟩⟩
    g := k2.ns H.g, b := k2.ns H.b, gw := H.gw, bw := H.bw, lw := H.lw
    lim := by obtain ⟨mc, n, e⟩ := H.lim; exact ⟨mc, k2.ns n, e⟩
    mok := fun a m => by
      obtain ⟨o, vs, n, e, d⟩ := sm a m
      exact ⟨o, k1 a o e (fun es n z => by rw [d] at z; cases z) (fun vs z => by rw [d] at z; cases z)⟩ }

/-- the heap without some addresses -/
def offL (h : Heap) : List Addr → Heap
  | [] => h
  | a :: l => offL (offH h a) l
theorem offL_some {b : Addr} {o : Obj} : ∀ {l : List Addr} {h : Heap}, (offL h l).get? b = some o → b ∉ l ∧ h.get? b = some o
  | [], _, e => ⟨List.not_mem_nil, e⟩
  | a :: l, h, e => by
    obtain ⟨x, y⟩ := offL_some (l := l) e
    obtain ⟨p, q⟩ := off_some y
    exact ⟨fun z => by rcases List.mem_cons.mp z with z | z; exact p z; exact x z, q⟩
theorem offL_get {b : Addr} {o : Obj} : ∀ {l : List Addr} {h : Heap}, b ∉ l → h.get? b = some o → (offL h l).get? b = some o
  | [], _, _, e => e
  | a :: l, h, m, e => offL_get (l := l) (fun z => m (.tail _ z)) (by rw [offH_other (fun z => m (by rw [z]; exact .head _))]; exact e)
theorem offL_none {b : Addr} {l : List Addr} {h : Heap} (m : b ∈ l) : (offL h l).get? b = none := by
  cases e : (offL h l).get? b with
  | none => rfl
  | some o => exact absurd m (offL_some e).1

/-- while, with a word on the heap -/
theorem s_whileP {test : Expr} {body orelse : List Stmt} {pos : Pos} {Q : Flow → Shared → Prop} (F : FS C org σ M μ h) (m : Rm k A)
    (I : Nat → List (Str × Bd) → List (Addr × List PyData) → Heap → Prop) (st : ∀ n σ μ h h', Stay h h' → I n σ μ h → I n σ μ h') (n : Nat) (h0 : I n σ μ h)
    (turn : ∀ n σ₁ μ₁ h₁, I n σ₁ μ₁ h₁ → FS C org σ₁ M μ₁ h₁ → ∃ b, TV prog w k C.env h₁ test b ∧
      (b = true → ∀ h₂ tk₂ E', I n σ₁ μ₁ h₂ → FS C org σ₁ M μ₁ h₂ → wpAny (model prog w) A (execs body C.env) (fun f s' => match f with
        | .ret v => Q (.ret v) s'
        | .brk => Q .next s'
        | _ => ∃ n' σ' μ' h' tk', n' < n ∧ s' = ⟨h', g, dr, tk', os⟩ ∧ FS C org σ' M μ' h' ∧ I n' σ' μ' h') E' ⟨h₂, g, dr, tk₂, os⟩) ∧
      (b = false → ∀ h₂ tk₂ E', I n σ₁ μ₁ h₂ → FS C org σ₁ M μ₁ h₂ → wpAny (model prog w) A (execs orelse C.env) Q E' ⟨h₂, g, dr, tk₂, os⟩)) :
    wpAny (model prog w) A (exec (.While test body orelse pos) C.env) Q E ⟨h, g, dr, tk, os⟩ := by
  refine wpAny_While (codeAny_whileLoop (fun n s' => ∃ σ' μ' h' tk', s' = ⟨h', g, dr, tk', os⟩ ∧ I n σ' μ' h' ∧ FS C org σ' M μ' h') ?_ n ⟨σ, μ, h, tk, rfl, h0, F⟩)
  rintro n s' ⟨σ', μ', h', tk', rfl, hI, F'⟩
  obtain ⟨b, tv, t1, t2⟩ := turn n σ' μ' h' hI F'
  refine tv.run (s := ⟨h', g, dr, tk', os⟩) m (.refl _) fun h₂ t₂ s₂ => ?_
  cases b with
  | true =>
    refine wpAny_mono (t1 rfl h₂ t₂ _ (st _ _ _ _ _ s₂ hI) (F'.stay s₂)) (fun f s' hf => ?_) fun _ _ e => e
    have next : (∃ n' σ'' μ'' h'' tk'', n' < n ∧ s' = ⟨h'', g, dr, tk'', os⟩ ∧ FS C org σ'' M μ'' h'' ∧ I n' σ'' μ'' h'') → ∃ m, m < n ∧ ∃ σ' μ' h' tk', s' = (⟨h', g, dr, tk', os⟩ : Shared) ∧ I m σ' μ' h' ∧ FS C org σ' M μ' h' := by
      rintro ⟨n', σ'', μ'', h'', tk'', hn, rfl, Fx, Ix⟩
      exact ⟨n', hn, σ'', μ'', h'', tk'', rfl, Ix, Fx⟩
    cases f with
    | next => exact next hf
    | cont => exact next hf
    | brk => exact hf
    | ret v => exact hf
  | false => exact t2 rfl h₂ t₂ _ (st _ _ _ _ _ s₂ hI) (F'.stay s₂)

/-- for, with a word on the heap at the addresses K -/
theorem s_forP {target iter : Expr} {body orelse : List Stmt} {pos : Pos} {ds : List PyData} {Q : Flow → Shared → Prop} {K : List Addr} (F : FS C org σ M μ h) (m : Rm k A) (sr : SR prog w k (K ++ M) C.env h iter target ds)
    (hK : ∀ a ∈ K, ∃ o, h.get? a = some o)
    (I : Nat → List (Str × Bd) → List (Addr × List PyData) → Heap → Prop)
    (im : ∀ (i : Nat) (σ : List (Str × Bd)) (μ : List (Addr × List PyData)) (h h' : Heap) (wr : List Addr), I i σ μ h → (∀ a o, h.get? a = some o → a ∉ wr → (∀ es n, o.data ≠ .dict es n) → (∀ v, o.data ≠ .cell v) → h'.get? a = some o) → (∀ a ∈ wr, a ∉ K ∧ FD h a) → I i σ μ h') (h0 : I 0 σ μ h)
    (turn : ∀ i d σ₁ μ₁, ds[i]? = some d → ∃ bs, Tg C.nm target d bs ∧ ∀ h₂ tk₂ E', FS C org (bs ++ σ₁) M μ₁ h₂ → I i σ₁ μ₁ h₂ →
      wpAny (model prog w) A (execs body C.env) (fun f s' => match f with
        | .ret v => Q (.ret v) s'
        | .brk => Q .next s'
        | _ => ∃ σ' μ' h' tk', s' = ⟨h', g, dr, tk', os⟩ ∧ FS C org σ' M μ' h' ∧ (∀ a o, h₂.get? a = some o → a ∉ K → a ∉ M → (∀ es n, o.data ≠ .dict es n) → (∀ v, o.data ≠ .cell v) → h'.get? a = some o) ∧ I (i + 1) σ' μ' h') E' ⟨h₂, g, dr, tk₂, os⟩)
    (fin : ∀ σ' μ' h' tk' E', I ds.length σ' μ' h' → FS C org σ' M μ' h' → wpAny (model prog w) A (execs orelse C.env) Q E' ⟨h', g, dr, tk', os⟩)
    (hs : ∀ x, foldedSetIterable iter C.env x = pure x) : wpAny (model prog w) A (exec (.For target iter body orelse pos) C.env) Q E ⟨h, g, dr, tk, os⟩ := by
  refine wpAny_For (sr.run (s := ⟨h, g, dr, tk, os⟩) m (.refl _) fun h₁ t₁ It wr TT s₁ hwr => ?_) hs
  obtain ⟨J, Jm, T, j0⟩ := TT (K ++ M) fun a ma => .inl ma
  refine codeAny_forLoop_any (fun n s' => ∃ i σ' μ' h' tk', s' = ⟨h', g, dr, tk', os⟩ ∧ n = ds.length + 1 - i ∧ i ≤ ds.length ∧ I i σ' μ' h' ∧ FS C org σ' M μ' h' ∧ J i h' ∧ (∀ a ∈ wr, C.base.get? a = none ∧ C.top.get? a = none ∧ org.get? a = none) ∧ (∀ a ∈ wr, a ∉ K)) ?_ (ds.length + 1)
    ⟨0, σ, μ, h₁, t₁, rfl, rfl, Nat.zero_le _, im 0 σ μ h h₁ [] h0 (fun a o e _ _ _ => s₁ a o e) (fun a m => nomatch m), F.stay s₁, j0, fun a ma => ?_, fun a ma z => ?_⟩
  · rintro n s' ⟨i, σ', μ', h', tk', rfl, rfl, hi, hI, F', ji, hw, hwK⟩
    have fd := T.its ji
    have move : ∀ {σ' μ' h h'}, (∀ a ∈ wr, FD h a) → FS C org σ' M μ' h → Eff wr h h' → FS C org σ' M μ' h' := fun {σ' μ' h h'} fd F e => by
      obtain ⟨H, sq⟩ := F.en.eff F.sm fd e
      exact {
        en := H
        sm := sq
        tp := fun a o g => e a o (fun z => by rw [(hw a z).2.1] at g; cases g) (F.tp a o g)
        ef := fun a o nv g => e a o (fun z => by rw [(hw a z).1] at g; cases g) (F.ef a o nv g)
        wb := F.wb
        vx := fun a m => let ⟨o, vs, n, g, d⟩ := F.vx a m; ⟨o, vs, n, eff_seqs fd e a o vs n g d, d⟩
        og := fun a o g n1 n2 n3 => e a o (fun z => by rw [(hw a z).2.2] at g; cases g) (F.og a o g n1 n2 n3)
        ox := fun a o g => let ⟨o', g'⟩ := F.ox a o g; ⟨o', e a o' (fun z => by rw [(hw a z).2.2] at g; cases g) g'⟩
        mu := fun p m => let ⟨a, b, d⟩ := F.mu p m; ⟨a, b.move (eff_seqs fd e), d⟩
        nd := F.nd }
    have moveI : ∀ {i σ' μ' h h'}, (∀ a ∈ wr, FD h a) → I i σ' μ' h → Eff wr h h' → I i σ' μ' h' := fun {i σ' μ' h h'} fd x e => im _ _ _ _ _ wr x (fun a o g n _ _ => e a o n g) fun a m => ⟨hwK a m, fd a m⟩
    by_cases hlt : i < ds.length
    · have hd : ds[i]? = some ds[i] := List.getElem?_eq_getElem hlt
      refine T.item m.handled hd ji fun v h₂ t₂ jm e₂ => ?_
      have fd₂ := T.itm jm
      refine T.go hd jm fun h₃ t₃ j₃ td e₃ => ?_
      have F₃ := move fd₂ (move fd F' e₂) e₃
      have I₃ := moveI fd₂ (moveI fd hI e₂) e₃
      obtain ⟨bs, tg, bd⟩ := turn i ds[i] σ' μ' hd
      have td' : TD target M h₃ v ds[i] := by
        unfold TD at td ⊢
        split
        · rename_i z; rw [if_pos z] at td
          obtain ⟨T, vals, ds, a, b, c, d⟩ := td
          exact ⟨T, vals, ds, a, b, c, d.move fun b o vs n m e _ => ⟨e, fun z => m (List.mem_append_right _ z)⟩⟩
        · rename_i z; rw [if_neg z] at td
          exact td.move fun b o vs n m e _ => ⟨e, fun z => m (List.mem_append_right _ z)⟩
      refine assign_tg (s := ⟨h₃, g, dr, t₃, os⟩) m.handled F₃.en tg td' fun h₄ t₄ H₄ c₄ => ?_
      have F₄ : FS C org (bs ++ σ') M μ' h₄ := F₃.chg H₄ c₄
      refine wpAny_mono (bd h₄ t₄ _ F₄ (im _ _ _ _ _ [] I₃ (fun a o g _ n1 n2 => c₄.mild a o g n1 n2) (fun a m => nomatch m))) (fun f s' hf => ?_) fun _ _ e => e
      have next : (∃ σ'' μ'' h'' tk'', s' = ⟨h'', g, dr, tk'', os⟩ ∧ FS C org σ'' M μ'' h'' ∧ (∀ a o, h₄.get? a = some o → a ∉ K → a ∉ M → (∀ es n, o.data ≠ .dict es n) → (∀ v, o.data ≠ .cell v) → h''.get? a = some o) ∧ I (i + 1) σ'' μ'' h'') → ∃ m, m < ds.length + 1 - i ∧ ∃ i σ' μ' h' tk', s' = (⟨h', g, dr, tk', os⟩ : Shared) ∧ m = ds.length + 1 - i ∧ i ≤ ds.length ∧ I i σ' μ' h' ∧ FS C org σ' M μ' h' ∧ J i h' ∧ (∀ a ∈ wr, C.base.get? a = none ∧ C.top.get? a = none ∧ org.get? a = none) ∧ (∀ a ∈ wr, a ∉ K) := by
        rintro ⟨σ'', μ'', h'', tk'', rfl, Fx, kx, Ix⟩
        exact ⟨ds.length + 1 - (i + 1), by omega, i + 1, σ'', μ'', h'', tk'', rfl, rfl, hlt, Ix, Fx, T.stab j₃ (fun a o g n n1 n2 => kx a o (c₄.mild a o g n1 n2) (fun z => n (List.mem_append_left _ z)) (fun z => n (List.mem_append_right _ z)) n1 n2), hw, hwK⟩
      cases f with
      | next => exact next hf
      | cont => exact next hf
      | brk => exact hf
      | ret v => exact hf
    · have hn : ds[i]? = none := List.getElem?_eq_none (by omega)
      refine T.done m.handled hn ji fun h₂ t₂ e₂ => ?_
      have he : i = ds.length := by omega
      subst he
      exact fin σ' μ' h₂ t₂ _ (moveI fd hI e₂) (move fd F' e₂)
  · have nn : h.get? a = none := hwr a ma
    refine ⟨?_, ?_, ?_⟩
    · cases e : C.base.get? a with
      | none => rfl
      | some o =>
        by_cases z : a ∈ C.V
        · obtain ⟨o, _, _, e, _⟩ := F.vx a z; rw [nn] at e; cases e
        · have := F.ef a o z e; rw [nn] at this; cases this
    · cases e : C.top.get? a with
      | none => rfl
      | some o => have := F.tp a o e; rw [nn] at this; cases this
    · cases e : org.get? a with
      | none => rfl
      | some o => obtain ⟨o', e'⟩ := F.ox a o e; rw [nn] at e'; cases e'
  · obtain ⟨o, e⟩ := hK a z
    have := hwr a ma
    rw [e] at this; cases this
end Mine
namespace Mine
open PySem PySem.Calls PyProof.Rows
theorem bitOr_nat (a b : Nat) : Builtin.bitOr (a : Int) (b : Int) = ((a ||| b : Nat) : Int) := by
  have e : ∀ n : Nat, Builtin.bitNot (n : Int) = -(n : Int) - 1 := fun n => rfl
  have e2 : ∀ n : Nat, (Builtin.bitNot (Builtin.bitNot (n : Int))) = (n : Int) := fun n => by unfold Builtin.bitNot; omega
  unfold Builtin.bitOr Builtin.bitAnd
  have na : ¬ (0 ≤ Builtin.bitNot (a : Int)) := by rw [e]; omega
  have nb : ¬ (0 ≤ Builtin.bitNot (b : Int)) := by rw [e]; omega
  simp only [na, nb, decide_false, e2, Int.toNat_natCast]
theorem or64 (x c : Nat) (h : c < 64) : Builtin.bitOr ((x : Int) * 64) (c : Int) = (x : Int) * 64 + c := by
  have : ((x : Int) * 64) = ((64 * x : Nat) : Int) := by push_cast; omega
  rw [this, bitOr_nat, ← Nat.two_pow_add_eq_or_of_lt (i := 6) (by simpa using h)]
  push_cast; omega
theorem and64 : ∀ a : Nat, a < 64 → Builtin.bitAnd (64 + (a : Int)) 64 = 64 ∧ Builtin.bitAnd (a : Int) 64 = 0 := by decide +kernel
end Mine
namespace Mine
open PySem PySem.Calls PyProof.Rows
variable {w : World} {top : Heap} {mg mb : Str → Option Value}

theorem FS.keepT {C : Cx} {org : Heap} {σ σ' : List (Str × Bd)} {M : List Addr} {μ μ' : List (Addr × List PyData)} {h h' : Heap} {I l : Addr} {xs : List Int} {i : Nat} (F : FS C org σ M μ h) (F' : FS C h σ' M μ' h') (T : Tape h I l xs i) (hI : I ∉ M) (hl : l ∉ M) :
    FS C org σ' M μ' h' ∧ Tape h' I l xs i := by
  refine ⟨F'.unorg F.og F.ox, ?_, ?_⟩
  · obtain ⟨o, e, a, b⟩ := T.it
    exact ⟨o, F'.og I o e hI (fun es n z => by rw [b] at z; cases z) (fun v z => by rw [b] at z; cases z), a, b⟩
  · obtain ⟨vs, n, e, r⟩ := T.li
    refine ⟨vs, n, F'.og l _ e hl (fun es n z => by cases z) (fun v z => by cases z), ?_⟩
    have : ∀ (vs : List Value) (xs : List Int), RdAll [] h vs (il xs) → RdAll [] h' vs (il xs) := by
      intro vs
      induction vs with
      | nil => intro xs r; cases xs with
        | nil => exact .nil
        | cons x xs => cases r
      | cons v vs ih => intro xs r; cases xs with
        | nil => cases r
        | cons x xs => cases r with
          | cons a r => obtain ⟨t, rfl⟩ := a.intVal; exact .cons (.int ..) (ih xs r)
    exact this _ _ r

def st3 (i a b c : Nat) : Nat → Int × Int × Nat
  | 2 => (a, 64 + a, i + 1)
  | 1 => ((a : Int) * 64 + b, 64 + b, i + 2)
  | _ => (((a : Int) * 64 + b) * 64 + c, c, i + 3)

theorem st3_test {i a b c : Nat} (ha : a < 64) (hb : b < 64) (hc : c < 64) : ∀ n, n ≤ 2 → (Builtin.bitAnd (st3 i a b c n).2.1 64 != 0) = decide (n ≠ 0)
  | 0, _ => by show (Builtin.bitAnd (c : Int) 64 != 0) = _; rw [(and64 c hc).2]; rfl
  | 1, _ => by show (Builtin.bitAnd (64 + (b : Int)) 64 != 0) = _; rw [(and64 b hb).1]; rfl
  | 2, _ => by show (Builtin.bitAnd (64 + (a : Int)) 64 != 0) = _; rw [(and64 a ha).1]; rfl
theorem and63 (n : Nat) (hn : n < 64) : Builtin.bitAnd (64 + (n : Int)) 63 = n := by rw [bitAnd_m6]; omega
theorem and63' (n : Nat) (hn : n < 64) : Builtin.bitAnd (n : Int) 63 = n := by rw [bitAnd_m6]; omega
theorem st3_key {xs : List Int} {i a b c : Nat} (ha : a < 64) (hb : b < 64) (hc : c < 64) (e1 : xs[i + 1]? = some (64 + (b : Int))) (e2 : xs[i + 2]? = some (c : Int)) : ∀ n, n + 1 ≤ 2 →
    xs[(st3 i a b c (n + 1)).2.2]? = some (st3 i a b c n).2.1 ∧ (st3 i a b c (n + 1)).2.2 + 1 = (st3 i a b c n).2.2 ∧ Builtin.bitOr ((st3 i a b c (n + 1)).1 * 64) (Builtin.bitAnd (st3 i a b c n).2.1 63) = (st3 i a b c n).1 ∧ 0 ≤ (st3 i a b c (n + 1)).1 ∧ (st3 i a b c (n + 1)).1 < 4096
  | 0, _ => by
    refine ⟨e2, rfl, ?_, ?_, ?_⟩
    · show Builtin.bitOr (((a : Int) * 64 + b) * 64) (Builtin.bitAnd (c : Int) 63) = ((a : Int) * 64 + b) * 64 + c
      rw [and63' c hc]
      have := or64 (a * 64 + b) c hc
      push_cast at this
      exact this
    · show (0 : Int) ≤ (a : Int) * 64 + b
      omega
    · show (a : Int) * 64 + b < 4096
      omega
  | 1, _ => by
    refine ⟨e1, rfl, ?_, ?_, ?_⟩
    · show Builtin.bitOr ((a : Int) * 64) (Builtin.bitAnd (64 + (b : Int)) 63) = (a : Int) * 64 + b
      rw [and63 b hb]
      exact or64 a b hb
    · show (0 : Int) ≤ (a : Int)
      omega
    · show (a : Int) < 4096
      omega

/-- three octets, read -/
theorem PV_val {fa : Addr} (G : PG top mg mb) (f : FnI top mg 26 fa) {A : Around} {h : Heap} {g : Array GenState} {dr : Drawn} {tk : Nat} {os : OsState} {Q : Value → Shared → Prop} {E : Value → Shared → Prop} {I l : Addr} {xs : List Int} {i : Nat} {a b c : Nat}
    (m : Rm 1 A) (tp : Stay top h) (T : Tape h I l xs i) (ht : top.get? I = none) (ha : a < 64) (hb : b < 64) (hc : c < 64) (e0 : xs[i]? = some (64 + (a : Int))) (e1 : xs[i + 1]? = some (64 + (b : Int))) (e2 : xs[i + 2]? = some (c : Int))
    (q : ∀ v h' tk', (∀ p o, p ≠ I → h.get? p = some o → h'.get? p = some o) → Tape h' I l xs (i + 3) → Rd [] h' v (.int (((a : Int) * 64 + b) * 64 + c)) → Q v ⟨h', g, dr, tk', os⟩) :
    wpAny (model pw w) A (call (.ref fa) [.ref I]) Q E ⟨h, g, dr, tk, os⟩ := by
  refine def_callE (M := []) (μ := []) (V := []) (σ := [("iterator", .r (.ref I))]) (binds := [("iterator", .ref I)]) (ns := ["iterator"]) f G.T tp m (fun _ m => nomatch m) (fun _ m => nomatch m) (.cons (b := .r _) rfl .nil) (fun _ m => nomatch m) List.nodup_nil (fun _ m => nomatch m) (fun pm cd doc => rfl) rfl (by decide +kernel) fun L cd W h₁ tk₁ A' m' hL hfr F => ?_
  have T₁ : Tape h₁ I l xs i := T.stay (Eff.stay F.ef)
  have F := F.fewer (base' := offH h I) (org' := offH h I) (fun a o e => (off_some e).2) (fun a o e => (off_some e).2)
  have hbI : (offH h I).get? I = none := offH_self
  have h0 : ∀ x : Addr, x ∉ ([] : List Addr) := fun x => List.not_mem_nil
  -- b = next(iterator)
  refine x_seq (s_assignP (y := "b") F (fun h => Tape h I l xs (i + 1)) (fun h h' c t => t.chg c) rfl rfl (fun Q' q' => call_tape F G T₁ hbI hbI ht rfl rfl rfl (by decide +kernel) e0 fun u h' tk' F' T' r' => q' u h' tk' F' T' r') fun h₂ t₂ F₂ T₂ => ?_)
  -- val = b & 63
  refine x_seq (s_assign F₂.reorg m' (d := .int (a : Int)) ((ev_bin F₂.en (ev_name F₂.en rfl rfl (by decide +kernel)) ev_int bo_and).cast (by rw [and63 a ha])) rfl rfl fun h₃ t₃ F₃ => ?_)
  obtain ⟨F₃, T₃⟩ := F₂.keepT F₃ T₂ (h0 _) (h0 _)
  -- while
  refine x_seq (s_whileP F₃ m' (fun n σ μ h => n ≤ 2 ∧ μ = [] ∧ σ.lookup ("iterator" : Str) = some (.r (.ref I)) ∧ σ.lookup ("val" : Str) = some (.d (.int (st3 i a b c n).1)) ∧ σ.lookup ("b" : Str) = some (.d (.int (st3 i a b c n).2.1)) ∧ Tape h I l xs (st3 i a b c n).2.2)
    (fun n σ μ h h' s x => let ⟨x0, x1, x2, x3, x4, x5⟩ := x; ⟨x0, x1, x2, x3, x4, x5.stay s⟩) 2 ⟨Nat.le_refl _, rfl, rfl, rfl, rfl, T₃⟩ fun n σ₁ μ₁ h₁' hI F₄ => ?_)
  obtain ⟨hn, rfl, l1, l2, l3, T₄⟩ := hI
  refine ⟨decide (n ≠ 0), ?_, fun hz => ?_, fun hz => ?_⟩
  · refine (tv_int (M₁ := []) (ev_bin F₄.en (ev_name F₄.en rfl l3 (by decide +kernel)) ev_int bo_and)).cast (st3_test ha hb hc n hn)
  · have hn0 : n ≠ 0 := by simpa using hz
    obtain ⟨n, rfl⟩ := Nat.exists_eq_succ_of_ne_zero hn0
    obtain ⟨k1, k2, k3, k4, k5⟩ := st3_key ha hb hc e1 e2 n hn
    generalize (st3 i a b c (n + 1)).2.2 = p0 at *
    generalize (st3 i a b c (n + 1)).1 = v0 at *
    intro h₅ t₅ E' hI₅ F₅
    obtain ⟨_, _, _, _, _, T₅⟩ := hI₅
    -- val <<= 6
    refine x_seq (s_aug (op := .LShift) (c := v0 * 64) F₅.reorg m' ev_int rfl l2 (fun {A s Q E t u} q' => ilshift_int (by omega) (by
      have := intBits_le_64 (k := v0) (by omega) (by omega)
      omega) (by simpa using q')) fun h₆ t₆ F₆ => ?_)
    obtain ⟨F₆, T₆⟩ := F₅.keepT F₆ T₅ (h0 _) (h0 _)
    refine x_seq (s_assignP (y := "b") F₆ (fun h => Tape h I l xs (p0 + 1)) (fun h h' c t => t.chg c) rfl rfl (fun Q' q' => call_tape F₆ G T₆ hbI hbI ht rfl rfl (by rw [List.lookup_cons]; exact l1) (by decide +kernel) k1 fun u h' tk' F' T' r' => q' u h' tk' F' T' r') fun h₇ t₇ F₇ T₇ => ?_)
    refine x_seq (s_aug (op := .BitOr) (c := (st3 i a b c n).1) F₇.reorg m' (ev_bin F₇.en (ev_name F₇.en rfl rfl (by decide +kernel)) ev_int bo_and) rfl rfl (fun {A s Q E t u} q' => ior_int (by rw [k3]; exact q')) fun h₈ t₈ F₈ => ?_)
    obtain ⟨F₈, T₈⟩ := F₇.keepT F₈ T₇ (h0 _) (h0 _)
    refine wpAny_execs_nil ?_
    exact ⟨n, _, _, h₈, t₈, Nat.lt_succ_self _, rfl, F₈, by omega, rfl, l1, rfl, rfl, by rw [← k2]; exact T₈⟩
  · have hn0 : n = 0 := by simpa using hz
    subst hn0
    intro h₅ t₅ E' hI₅ F₅
    obtain ⟨_, _, _, _, _, T₅⟩ := hI₅
    refine wpAny_execs_nil ?_
    refine x_seq (s_return F₅.reorg m' (ev_name F₅.en rfl l2 (by decide +kernel)) fun v h₆ t₆ F₆ r₆ => ?_)
    obtain ⟨F₆, T₆⟩ := F₅.keepT F₆ T₅ (h0 _) (h0 _)
    exact q v h₆ t₆ (fun p o n e => F₆.ef p o List.not_mem_nil (by rw [offH_other n]; exact e)) T₆ r₆
end Mine
namespace Mine
open PySem PySem.Calls PyProof.Rows
variable {w : World} {top : Heap} {mg mb : Str → Option Value}

/-- no octet is left: StopIteration leaves the def -/
theorem PV_end {fa : Addr} (G : PG top mg mb) (f : FnI top mg 26 fa) {A : Around} {h : Heap} {g : Array GenState} {dr : Drawn} {tk : Nat} {os : OsState} {Q : Value → Shared → Prop} {E : Value → Shared → Prop} {I l : Addr} {xs : List Int} {i : Nat} {outer : List Env} {base₀ : Heap}
    (m : Rm 1 A) (tp : Stay top h) (T : Tape h I l xs i) (hx : xs[i]? = none) (hfr : A.frames = some outer) (kb : ∀ a o, base₀.get? a = some o → a ≠ I ∧ h.get? a = some o) (hff : h.FunFrames base₀ outer)
    (hE : ∀ e a0 h' tk', Heap.FlyingW base₀ outer e (.type "StopIteration") a0 h' → h.get? e = none → h.UpToSlots h' → E (.ref e) ⟨h', g, dr, tk', os⟩) :
    wpAny (model pw w) A (call (.ref fa) [.ref I]) Q E ⟨h, g, dr, tk, os⟩ := by
  refine def_callE (M := []) (μ := []) (V := []) (σ := [("iterator", .r (.ref I))]) (binds := [("iterator", .ref I)]) (ns := ["iterator"]) f G.T tp m (fun _ m => nomatch m) (fun _ m => nomatch m) (.cons (b := .r _) rfl .nil) (fun _ m => nomatch m) List.nodup_nil (fun _ m => nomatch m) (fun pm cd doc => rfl) rfl (by decide +kernel) fun L cd W h₁ tk₁ A' m' hL hfr' F => ?_
  have st : Stay h h₁ := Eff.stay F.ef
  have T₁ : Tape h₁ I l xs i := T.stay st
  refine x_seq ?_
  refine wpAny_Assign_Name ?_ rfl
  refine Call_ (F.en.blt (s := ⟨h₁, g, dr, tk₁, os⟩) (.refl _) rfl G.next.1 G.next.2 (by decide +kernel) ?_) rfl
  refine PyProof.Rows.callWith_builtin1 (wpAny_items_cons ((F.raw (x := "iterator") rfl rfl).load (s := ⟨h₁, g, dr, tk₁, os⟩) F.en.fn (by decide +kernel) (by decide +kernel) (wpAny_items_nil ?_)) rfl) rfl rfl
  obtain ⟨vs, n, e, r⟩ := T₁.li
  have hvs : vs[i]? = none := by
    have := r.length
    unfold il at this
    simp at this
    rw [List.getElem?_eq_none_iff] at hx
    rw [Array.getElem?_eq_none_iff]
    omega
  refine call_next_end (s := ⟨h₁, g, dr, tk₁, os⟩) m'.handled T₁.it ⟨_, e, rfl, _, rfl⟩ hvs fun h₂ e vs₂ oe hx2 he0 he2 hc2 hd2 hv2 => ?_
  have hfrI : ∀ b o, h.get? b = some o → (∀ vs, o.data ≠ .fields vs) → b ≠ I := fun b o hb hn z => by
    obtain ⟨o', vs', e', d'⟩ := T.fd
    rw [z, e'] at hb; cases hb; exact hn _ d'
  have old : ∀ b o, h.get? b = some o → (∀ vs, o.data ≠ .fields vs) → h₂.get? b = some o := fun b o hb hn => hx2 b o (hfrI b o hb hn) (st b o hb)
  have eh : h.get? e = none := none_of st he0
  have hbe : base₀.get? e = none := none_of (fun a o q => (kb a o q).2) eh
  have hbL : base₀.get? L = none := none_of (fun a o q => (kb a o q).2) hL
  have hsz : 0 < vs₂.size := Nat.lt_of_le_of_lt (Nat.zero_le _) (Array.getElem?_eq_some_iff.mp hv2).1
  obtain ⟨mm, hns⟩ := F.en.ns
  have hns : h₁.Ns L mm := hns
  have hns₂ : h₂.Ns L mm := by
    obtain ⟨o, es, ep, e1, d1, rr⟩ := hns
    refine ⟨o, es, ep, hx2 _ o (fun z => ?_) e1, d1, rr⟩
    obtain ⟨o', vs', e', d'⟩ := T₁.fd
    rw [← z] at e'
    rw [e'] at e1; cases e1; rw [d'] at d1; cases d1
  have hff₂ : h₂.FunFrames base₀ outer := hff.of_keeps fun b o hb hn => ⟨o, old b o hb hn, rfl⟩
  have hfr₂ : A'.frames = some (envOfC (dN 26) (dS 26) L fa cd :: outer) := by rw [hfr', hfr]; rfl
  refine wpAny_leaving_firstW (s := ⟨h₂, g, dr, tk₁, os⟩) (base := base₀) (a0 := vs₂[0]) hfr₂ (Heap.FunFrames.cons (show (dS 26).kind ≠ .module by decide +kernel) rfl hns₂ hbL hff₂) rfl he2
    (fun b o hb => hx2 b o (kb b o hb).1 (st b o (kb b o hb).2)) hbe hd2 hv2 (Array.getElem?_eq_getElem hsz) fun h₃ hL₃ => ?_
  obtain ⟨k1, ⟨_, _, k2⟩, k3, k4⟩ := hL₃
  rw [hc2] at k3
  exact hE e _ h₃ tk₁ ⟨k1, hbe, k2, k3⟩ eh fun b o hb hn => k4 b o (old b o hb hn) hn
end Mine
namespace Mine
open PySem PySem.Calls PyProof.Rows
variable {w : World} {top : Heap} {mg mb : Str → Option Value}

/-- x.append(e), where the making of e may change what P speaks of, or raise -/
theorem s_appendP {C : Cx} {M : List Addr} {h org : Heap} {σ : List (Str × Bd)} {μ : List (Addr × List PyData)} {A : Around} {g : Array GenState} {dr : Drawn} {tk : Nat} {os : OsState} {E : Value → Shared → Prop} {x : Str} {np ap pos spos : Pos} {e : Expr} {a : Addr} {ds : List PyData} {d : PyData} {Q : Flow → Shared → Prop} (F : FS C org σ M ((a, ds) :: μ) h) (P : Heap → Prop) (st : ∀ h h', (∀ b o, b ≠ a → h.get? b = some o → h'.get? b = some o) → P h → P h')
    (ex : ∀ Q' : Value → Shared → Prop, (∀ v h' tk', FS C org σ M ((a, ds) :: μ) h' → P h' → Rd M h' v d → Q' v ⟨h', g, dr, tk', os⟩) → wpAny (model pw w) A (eval e C.env) Q' E ⟨h, g, dr, tk, os⟩) (hx : isLoc (C.nm.lookup x) = true) (l : σ.lookup x = some (.r (.ref a)))
    (hd : ((x == ("__debug__" : Str)) || (x == ("__classdict__" : Str))) = false) (hst : ∀ rest, starEach (e :: rest) C.env = (false, eval e C.env) :: starEach rest C.env) (hline : (ap.endLine == pos.line) = true)
    (hi : interactive C.env = false) (hs : swapsWith (.Call (.Attribute (.Name x np) "append" ap) [e] [] pos) none spos.line C.env = pure false) (hn : ds.length ≤ 100000)
    (q : ∀ h' tk', FS C org σ M ((a, ds ++ [d]) :: μ) h' → P h' → Q .next ⟨h', g, dr, tk', os⟩) :
    wpAny (model pw w) A (exec (.Expr (.Call (.Attribute (.Name x np) "append" ap) [e] [] pos) spos) C.env) Q E ⟨h, g, dr, tk, os⟩ := by
  obtain ⟨vs, n, ge, ra⟩ := F.plain (.head _)
  refine s_call F hx l hd (by rw [hst]; rfl) hline hi hs ⟨"list", "list.append", PySem.F.plainAttrs_list, slot_list_append, type_list_append, ⟨_, ge, rfl⟩, fun b hb => ?_, ?_⟩
  · cases hb; exact ⟨_, ge, rfl⟩
  · rw [hst]
    show wpAny (model pw w) A (callWith pos (.builtin "list.append") [.ref a] [(false, eval e C.env)] []) _ _ _
    refine PySem.P.append_list (ex _ fun v h₁ t₁ F₁ p₁ r₁ => ?_)
    obtain ⟨vs', n', ge', ra'⟩ := F₁.plain (.head _)
    have := ra'.length
    simp at this
    refine ⟨vs', n', small_line (by omega), ge', q _ _ (F₁.mutate fun us j gu ru => ?_) (st _ _ (fun b o ne g => (Heap.SameBut.update ..).extBut b o ne g) p₁)⟩
    rw [Array.toList_push]
    exact ru.append (.cons r₁ .nil)

/-- an object of fields joins those that are changed -/
theorem EN.addI {mg mb env nm W σ M} {h : Heap} {I : Addr} (H : EN mg mb env nm W σ M h) (fd : FD h I) : EN mg mb env nm W σ (I :: M) h :=
  { H with
    loc := fun x b i l => by
      obtain ⟨v, n, o⟩ := H.loc x b i l
      refine ⟨v, n, ?_⟩
      cases b with
      | d x => exact Rd.move (fun b o vs n m e d => ⟨e, fun z => by
          rcases List.mem_cons.mp z with z | z
          · obtain ⟨o', vs', e', d'⟩ := fd
            rw [z, e'] at e; cases e; rw [d'] at d; cases d
          · exact m z⟩) o
      | r u => exact o
    mok := fun a m => by
      rcases List.mem_cons.mp m with rfl | m
      · obtain ⟨o', vs', e', d'⟩ := fd; exact ⟨o', e'⟩
      · exact H.mok a m }

theorem FS.keepM {C : Cx} {org : Heap} {σ σ' : List (Str × Bd)} {M M' : List Addr} {μ μ' : List (Addr × List PyData)} {h h' : Heap} {I l : Addr} {xs : List Int} {i : Nat} (F : FS C org σ M μ h) (F' : FS C h σ' M' μ' h') (hM : ∀ a ∈ M, a ∈ M') (T : Tape h I l xs i) (hI : I ∉ M') (hl : l ∉ M') :
    FS C org σ' M' μ' h' ∧ Tape h' I l xs i := by
  refine ⟨F'.unorg (fun a o e m => F.og a o e (fun z => m (hM a z))) F.ox, ?_, ?_⟩
  · obtain ⟨o, e, a, b⟩ := T.it
    exact ⟨o, F'.og I o e hI (fun es n z => by rw [b] at z; cases z) (fun v z => by rw [b] at z; cases z), a, b⟩
  · obtain ⟨vs, n, e, r⟩ := T.li
    refine ⟨vs, n, F'.og l _ e hl (fun es n z => by cases z) (fun v z => by cases z), ?_⟩
    have : ∀ (vs : List Value) (xs : List Int), RdAll [] h vs (il xs) → RdAll [] h' vs (il xs) := by
      intro vs
      induction vs with
      | nil => intro xs r; cases xs with
        | nil => exact .nil
        | cons x xs => cases r
      | cons v vs ih => intro xs r; cases xs with
        | nil => cases r
        | cons x xs => cases r with
          | cons a r => obtain ⟨t, rfl⟩ := a.intVal; exact .cons (.int ..) (ih xs r)
    exact this _ _ r
theorem Tape.only {h h' : Heap} {I l : Addr} {xs : List Int} {i : Nat} (T : Tape h I l xs i) (k1 : ∀ o, h.get? I = some o → h'.get? I = some o) (k2 : ∀ o, h.get? l = some o → h'.get? l = some o) : Tape h' I l xs i := by
  refine ⟨?_, ?_⟩
  · obtain ⟨o, e, a, b⟩ := T.it
    exact ⟨o, k1 o e, a, b⟩
  · obtain ⟨vs, n, e, r⟩ := T.li
    refine ⟨vs, n, k2 _ e, ?_⟩
    have : ∀ (vs : List Value) (xs : List Int), RdAll [] h vs (il xs) → RdAll [] h' vs (il xs) := by
      intro vs
      induction vs with
      | nil => intro xs r; cases xs with
        | nil => exact .nil
        | cons x xs => cases r
      | cons v vs ih => intro xs r; cases xs with
        | nil => cases r
        | cons x xs => cases r with
          | cons a r => obtain ⟨t, rfl⟩ := a.intVal; exact .cons (.int ..) (ih xs r)
    exact this _ _ r

theorem call_raw {C : Cx} {M : List Addr} {h org : Heap} {σ : List (Str × Bd)} {μ : List (Addr × List PyData)} {A : Around} {g : Array GenState} {dr : Drawn} {tk : Nat} {os : OsState} {E : Value → Shared → Prop} {Q : Value → Shared → Prop} {name x : Str} {params : Arguments} {body : List Stmt} {scope : Scope} {p np pos : Pos} {fa : Addr} {v : Value} (F : FS C org σ M μ h)
    (f : Fn C.top C.mg name params body scope fa) (i : C.nm.lookup name = some .globalImplicit) (hd : (name == ("__debug__" : Str)) = false) (hx : isLoc (C.nm.lookup x) = true) (l : σ.lookup x = some (.r v)) (hdx : ((x == ("__debug__" : Str)) || (x == ("__classdict__" : Str))) = false)
    (q : wpAny (model pw w) A (call (.ref fa) [v]) Q E ⟨h, g, dr, tk, os⟩) : wpAny (model pw w) A (eval (.Call (.Name name p) [.Name x np] [] pos) C.env) Q E ⟨h, g, dr, tk, os⟩ := by
  obtain ⟨o, pm, cd, doc, ho, hdat, _⟩ := f.ob
  obtain ⟨h1, h2⟩ := Bool.or_eq_false_iff.mp hdx
  refine Call_ (Name_function_global F.en.fn (F.en.glb name i) (loadGlobal_global (mg := C.mg) (by rw [F.en.gl]; exact F.en.g) f.glob ?_) hd) rfl
  exact callWith_def (o := o) hdat (wpAny_items_cons ((F.raw hx l).load (s := ⟨h, g, dr, tk, os⟩) F.en.fn h1 h2 (wpAny_items_nil ⟨F.tp _ _ ho, q⟩)) rfl) rfl

def oct (a b c d e f : Nat) : List Int := [64 + (a : Int), 64 + (b : Int), (c : Int), 64 + (d : Int), 64 + (e : Int), (f : Int)]
def num (a b c : Nat) : Int := ((a : Int) * 64 + b) * 64 + c
def got (a b c d e f : Nat) : Nat → List PyData
  | 0 => []
  | 1 => [.int (num a b c)]
  | _ => [.int (num a b c), .int (num d e f)]

/-- two numbers, read off six octets -/
theorem RD {fr fp : Addr} (G : PG top mg mb) (fR : FnI top mg 34 fr) (fP : FnI top mg 26 fp) {A : Around} {h : Heap} {g : Array GenState} {dr : Drawn} {tk : Nat} {os : OsState} {Q : Value → Shared → Prop} {E : Value → Shared → Prop} {lenv : Env} {LL : Addr} {mL : Str → Option Value} {v : Value} {a b c d e f : Nat}
    (m : Rm 2 A) (tp : Stay top h) (rv : Rd [] h v (.list (il (oct a b c d e f)))) (ha : a < 64) (hb : b < 64) (hc : c < 64) (hd : d < 64) (he : e < 64) (hf : f < 64)
    (hfr : A.frames = some [lenv]) (hk : lenv.scope.kind ≠ .module) (hLf : lenv.frame = some LL) (hN₀ : h.Ns LL mL)
    (q : ∀ v h' tk', (∀ b o, b ≠ LL → h.get? b = some o → h'.get? b = some o) → h.UpToSlots h' → (∀ M, MOk M h → Rd M h' v (.list [.int (num a b c), .int (num d e f)])) → Q v ⟨h', g, dr, tk', os⟩) :
    wpAny (model pw w) A (call (.ref fr) [v]) Q E ⟨h, g, dr, tk, os⟩ := by
  have key : ∀ i, i < 2 → (∃ a' b' c' : Nat, a' < 64 ∧ b' < 64 ∧ c' < 64 ∧ (oct a b c d e f)[3 * i]? = some (64 + (a' : Int)) ∧ (oct a b c d e f)[3 * i + 1]? = some (64 + (b' : Int)) ∧ (oct a b c d e f)[3 * i + 2]? = some (c' : Int) ∧ got a b c d e f i ++ [.int (((a' : Int) * 64 + b') * 64 + c')] = got a b c d e f (i + 1)) := fun i hi =>
    match i, hi with
    | 0, _ => ⟨a, b, c, ha, hb, hc, rfl, rfl, rfl, rfl⟩
    | 1, _ => ⟨d, e, f, hd, he, hf, rfl, rfl, rfl, rfl⟩
  have hend : (oct a b c d e f)[3 * 2]? = none := rfl
  have hlen : (il (oct a b c d e f)).length = 6 := rfl
  have gl : ∀ i, (got a b c d e f i).length ≤ 100000 := fun i => by unfold got; split <;> simp
  have g2 : got a b c d e f 2 = [.int (num a b c), .int (num d e f)] := rfl
  generalize oct a b c d e f = xs at *
  obtain ⟨l, vs₀, n₀, rfl, gl₀, _, rl⟩ := rv.listRef
  refine def_callE (M := []) (μ := []) (V := []) (σ := [("octets", .d (.list (il xs)))]) (binds := [("octets", .ref l)]) (ns := ["octets"]) fR G.T tp m (fun _ m => nomatch m) (fun _ m => nomatch m) (.cons (b := .d _) rv .nil) (fun _ m => nomatch m) List.nodup_nil (fun _ m => nomatch m) (fun pm cd doc => rfl) rfl (by decide +kernel) fun L cd W h₁ tk₁ A' m' hL hfr' F => ?_
  have st : Stay h h₁ := Eff.stay F.ef
  -- tape = iter(octets)
  refine x_seq ?_
  refine wpAny_Assign_Name ?_ rfl
  refine Call_ (F.en.blt (s := ⟨h₁, g, dr, tk₁, os⟩) (.refl _) rfl G.iter.1 G.iter.2 (by decide +kernel) ?_) rfl
  refine PyProof.Rows.callWith_builtin1 (wpAny_items_cons ((ev_name (k := 0) (prog := pw) (w := w) (M := []) F.en (x := "octets") rfl rfl (by decide +kernel)).run (s := ⟨h₁, g, dr, tk₁, os⟩) (m'.mono (by omega)) (.refl _) fun u h₂ t₂ s₂ r₂ => wpAny_items_nil ?_) rfl) rfl rfl
  obtain ⟨l₂, vs₂, n₂, rfl, gl₂, _, rl₂⟩ := r₂.listRef
  refine call_iter_list (s := ⟨h₂, g, dr, t₂, os⟩) ⟨_, gl₂, rfl, _, rfl⟩ ?_
  have hI₂ : h₂.get? h₂.objs.size = none := fresh_none (Nat.le_refl _)
  have F₂ := (F.stay s₂).stay (Stay.push h₂ { cls := .type "list_iterator", data := .fields #[.ref l₂, .int 0 0] })
  have T₂ : Tape (h₂.push { cls := .type "list_iterator", data := .fields #[.ref l₂, .int 0 0] }) h₂.objs.size l₂ xs 0 := ⟨⟨_, Heap.get?_push_size _ rfl, rfl, rfl⟩, _, _, Stay.push _ _ _ _ gl₂, rl₂.stay (Stay.push _ _)⟩
  have hhI : h.get? h₂.objs.size = none := none_of (st.trans s₂) hI₂
  have htI : top.get? h₂.objs.size = none := none_of (tp.trans (st.trans s₂)) hI₂
  generalize h₂.objs.size = I at *
  generalize h₂.push { cls := .type "list_iterator", data := .fields #[.ref l₂, .int 0 0] } = h₃ at *
  refine F₂.en.store (s := ⟨h₃, g, dr, t₂, os⟩) (b := .r (.ref I)) (.inl rfl) rfl fun h₄ t₄ H₄ e₄ m₄ => ?_
  have F₄ := F₂.chg H₄ ⟨e₄, m₄⟩
  have T₄ := T₂.chg (W := W) ⟨e₄, m₄⟩
  clear F₂ T₂ H₄ e₄ m₄
  -- numbers = []
  refine x_seq ?_
  refine s_newlist (x := "numbers") (ds := []) F₄.reorg m' .nil rfl rfl (by simp) rfl fun N h₅ t₅ hN₄ hN₄' F₅ => ?_
  have hIN : I ≠ N := fun z => by obtain ⟨o, vs, e, _⟩ := T₄.fd; rw [z, hN₄] at e; cases e
  have hlN : l₂ ≠ N := fun z => by obtain ⟨vs, n, e, _⟩ := T₄.li; rw [z, hN₄] at e; cases e
  obtain ⟨F₅, T₅⟩ := F₄.keepM F₅ (fun _ z => nomatch z) T₄ (by simpa using hIN) (by simpa using hlN)
  have hlI : l₂ ≠ I := fun z => by obtain ⟨vs, n, e, _⟩ := T₅.li; obtain ⟨o, vs', e', d'⟩ := T₅.fd; rw [z, e'] at e; cases e; cases d'
  -- for
  refine x_seq ?_
  refine s_forP (K := [I]) (ds := rng 7) F₅ m' (sr_range (n := 7) (F₅.en.addI T₅.fd) rfl G.range.1 G.range.2 (by decide +kernel) ((ev_bin (F₅.en.addI T₅.fd) (ev_len (M₁ := [N]) (F₅.en.addI T₅.fd) rfl G.len.1 G.len.2 (ev_name F₅.en (d := .list (il xs)) rfl rfl (by decide +kernel)) (fun _ => rfl) (by rw [hlen]; decide)) ev_int bo_add).cast (by rw [hlen]; rfl)) (by decide) rfl (fun _ => rfl))
    (fun a m => by rw [List.mem_singleton.mp m]; obtain ⟨o, _, e, _⟩ := T₅.fd; exact ⟨o, e⟩)
    (fun i σ μ h => i ≤ 2 ∧ Tape h I l₂ xs (3 * i) ∧ μ = [(N, got a b c d e f i)] ∧ σ.lookup ("tape" : Str) = some (.r (.ref I)) ∧ σ.lookup ("numbers" : Str) = some (.r (.ref N)))
    ?_ ⟨by omega, T₅, rfl, rfl, rfl⟩ ?_ ?_ (fun _ => rfl)
  · rintro i σ μ h h' wr ⟨x0, x1, x2⟩ k hw
    refine ⟨x0, x1.only (fun o e => ?_) (fun o e => ?_), x2⟩
    · obtain ⟨o', e', _, d'⟩ := x1.it
      rw [e'] at e; cases e
      exact k I _ e' (fun z => (hw I z).1 (.head _)) (fun es n z => by rw [d'] at z; cases z) (fun v z => by rw [d'] at z; cases z)
    · obtain ⟨vs, n, e', _⟩ := x1.li
      rw [e'] at e; cases e
      exact k l₂ _ e' (fun z => by
        obtain ⟨o, vs, e2, d2⟩ := (hw l₂ z).2
        rw [e'] at e2; cases e2; cases d2) (fun es n z => by cases z) (fun v z => by cases z)
  · intro i d' σ₁ μ₁ hd'
    refine ⟨_, .name (.inl rfl), fun h₆ t₆ E' F₆ I₆ => ?_⟩
    obtain ⟨hi, T₆, rfl, l1, l2⟩ := I₆
    have l1 : (("turn", .d d') :: σ₁ : List (Str × Bd)).lookup ("tape" : Str) = some (.r (.ref I)) := l1
    have l2 : (("turn", .d d') :: σ₁ : List (Str × Bd)).lookup ("numbers" : Str) = some (.r (.ref N)) := l2
    refine x_seq ?_
    refine wpAny_Try_except ?_
    refine x_seq ?_
    by_cases hi2 : i < 2
    · obtain ⟨a', b', c', ha', hb', hc', e0, e1, e2, hg⟩ := key i hi2
      refine s_appendP (x := "numbers") (d := .int (((a' : Int) * 64 + b') * 64 + c')) F₆ (fun h => Tape h I l₂ xs (3 * i + 3) ∧ ∀ p o, p ≠ I → p ≠ N → h₆.get? p = some o → h.get? p = some o) (fun h h' k x => ⟨x.1.only (fun o e => k _ _ hIN e) (fun o e => k _ _ hlN e), fun p o n1 n2 e => k _ _ n2 (x.2 p o n1 n2 e)⟩)
        (fun Q' q' => ?_) rfl l2 (by decide +kernel) (fun _ => rfl) rfl rfl rfl (gl i) fun h₇ t₇ F₇ P₇ => ?_
      · refine call_raw F₆ fP rfl (by decide +kernel) rfl l1 (by decide +kernel) ?_
        refine PV_val G fP (m'.mono (by omega)) F₆.tp T₆ htI ha' hb' hc' e0 e1 e2 fun v h₇ t₇ k₇ T₇ r₇ => ?_
        obtain ⟨o', _, e', _⟩ := T₇.fd
        obtain ⟨tv, rfl⟩ := r₇.intVal
        exact q' _ h₇ t₇ (F₆.fld T₆.fd (fun b o n g => k₇ b o n g) ⟨o', e'⟩ hhI hhI htI) ⟨T₇, fun p o n _ e => k₇ p o n e⟩ (.int ..)
      · rw [hg] at F₇
        refine wpAny_execs_nil ?_
        refine wpAny_execs_nil ?_
        refine wpAny_execs_nil ?_
        exact ⟨_, _, h₇, t₇, rfl, F₇, fun p o e n1 n2 _ _ => P₇.2 p o (by simpa using n1) (by simpa using n2) e, by omega, P₇.1, rfl, l1, l2⟩
    · have hi' : i = 2 := by omega
      subst hi'
      have fdI := T₆.fd
      have nk : ∀ p o, h₆.get? p = some o → (∀ es n, o.data ≠ .dict es n) → (∀ vs, o.data ≠ .fields vs) → p ∉ [I, L, LL] := fun p o e n1 n2 z => by
        rcases List.mem_cons.mp z with z | z
        · obtain ⟨o', vs, e', d'⟩ := fdI
          rw [z, e'] at e; cases e; exact n2 _ d'
        rcases List.mem_cons.mp z with z | z
        · obtain ⟨mm, o', es, ep, e', d', _⟩ := F₆.en.ns
          have e' : h₆.get? L = some o' := e'
          rw [z, e'] at e; cases e; exact n1 _ _ d'
        · have z := List.mem_singleton.mp z
          obtain ⟨o', es, ep, e', d', _⟩ := hN₀
          have e' := F₆.ef LL o' List.not_mem_nil e'
          rw [z, e'] at e; cases e; exact n1 _ _ d'
      have hfr₂ : A'.frames = some [envOfC (dN 34) (dS 34) L fr cd, lenv] := by rw [hfr', hfr]; rfl
      obtain ⟨mm, hns⟩ := F₆.en.ns
      have hns : h₆.Ns L mm := hns
      have hNL : h₆.Ns LL mL := by
        obtain ⟨o, es, ep, e1, d1, r1⟩ := hN₀
        exact ⟨o, es, ep, F₆.ef LL o List.not_mem_nil e1, d1, r1⟩
      refine s_appendP (x := "numbers") (d := .none) F₆ (fun _ => False) (fun _ _ _ x => x) (fun Q' q' => ?_) rfl l2 (by decide +kernel) (fun _ => rfl) rfl rfl rfl (gl 2) fun h₇ t₇ F₇ P₇ => P₇.elim
      refine call_raw F₆ fP rfl (by decide +kernel) rfl l1 (by decide +kernel) ?_
      refine PV_end (base₀ := offL h₆ [I, L, LL]) G fP (m'.mono (by omega)) F₆.tp T₆ hend hfr₂ (fun p o e => ⟨fun z => (offL_some e).1 (by rw [z]; exact .head _), (offL_some e).2⟩)
        (Heap.FunFrames.cons (show (dS 34).kind ≠ .module by decide +kernel) rfl hns (offL_none (.tail _ (.head _))) (Heap.FunFrames.cons hk hLf hNL (offL_none (.tail _ (.tail _ (.head _)))) trivial)) fun e a0 h₇ t₇ fl eh up => ?_
      refine wpAny_looks_onW (s := ⟨h₇, g, dr, t₇, os⟩) hfr₂ rfl fl fun h₈ held up₈ => ?_
      refine wpAny_landsW (s := ⟨h₈, g, dr, t₇, os⟩) held fun h₉ fl₉ up₉ => ?_
      have u₉ : h₆.UpToSlots h₉ := (up.trans up₈).trans up₉
      have en₉ := F₆.en.slots F₆.sm (h' := h₉) (fun p o e n1 n2 => fl₉.1 p o (offL_get (nk p o e n1 n2) e)) u₉
      refine wpAny_handleBy_builtin (s := ⟨h₉, g, dr, t₇, os⟩) (X := "StopIteration") (T := "StopIteration") (b := true) (isSubtype_of_subB (by decide +kernel)) (isSubtype_of_subB (by decide +kernel)) (isSubtype_of_subB (by decide +kernel)) ?_
      refine en₉.blt (s := ⟨h₉, g, dr, t₇, os⟩) (.refl _) rfl G.stop.1 G.stop.2 (by decide +kernel) ⟨rfl, fl₉.there, ?_⟩
      rw [if_pos rfl]
      refine wpAny_setFlight_noneW (s := ⟨h₉, g, dr, t₇, os⟩) fl₉.1 fl₉.2.2.1 fl₉.2.2.2.at fun h₁₀ k1 k2 k3 k4 => ?_
      have u₁₀ : h₆.UpToSlots h₁₀ := u₉.trans fun p o e n => ⟨o.slots, k4 p o e n⟩
      have en₁₀ := F₆.en.slots F₆.sm (h' := h₁₀) (fun p o e n1 n2 => k1 p o (offL_get (nk p o e n1 n2) e)) u₁₀
      obtain ⟨u, nm, o⟩ := en₁₀.loc ("numbers" : Str) (.r (.ref N)) rfl l2
      have o : u = .ref N := o
      subst o
      refine x_seq ?_
      refine wpAny_Return_some (nm.load (s := ⟨h₁₀, g, dr, t₇, os⟩) en₁₀.fn (by decide +kernel) (by decide +kernel) ?_)
      obtain ⟨_, ⟨vsN, ⟨nN, gN⟩, rN⟩, _⟩ := F₆.mu _ (.head _)
      have gN' := k1 N _ (offL_get (nk N _ gN (fun es n z => by cases z) (fun vs z => by cases z)) gN)
      have hhN : h.get? N = none := none_of (Eff.stay F₄.ef) hN₄
      refine q (.ref N) h₁₀ t₇ (fun p o ne e => k1 p o (offL_get (fun z => ?_) (F₆.ef p o List.not_mem_nil e))) (fun p o e n => u₁₀ p o (F₆.ef p o List.not_mem_nil e) n) fun M hM => ?_
      · rcases List.mem_cons.mp z with z | z
        · rw [z, hhI] at e; cases e
        rcases List.mem_cons.mp z with z | z
        · rw [z, hL] at e; cases e
        · exact ne (List.mem_singleton.mp z)
      · refine .list gN' (fun z => ?_) ?_
        · obtain ⟨o, e⟩ := hM N z; rw [hhN] at e; cases e
        · rw [← g2]
          have : ∀ (vs : List Value) (ds : List PyData), (∀ d ∈ ds, ∃ i, d = .int i) → RdAll [N] h₆ vs ds → RdAll M h₁₀ vs ds := by
            intro vs
            induction vs with
            | nil => intro ds _ r; cases r; exact .nil
            | cons v vs ih => intro ds hd r; cases r with
              | cons a r =>
                obtain ⟨i, rfl⟩ := hd _ (.head _)
                obtain ⟨t, rfl⟩ := a.intVal
                exact .cons (.int ..) (ih _ (fun d m => hd d (.tail _ m)) r)
          exact this _ _ (by
            rw [g2]; intro d m
            rcases List.mem_cons.mp m with rfl | m
            · exact ⟨_, rfl⟩
            · rw [List.mem_singleton.mp m]; exact ⟨_, rfl⟩) rN
  · rintro σ' μ' h' tk' E' ⟨x0, _⟩
    exact absurd x0 (by decide)
end Mine
namespace Mine
open PySem PySem.Calls PyProof.Rows

def ORD : NN := [[0, 1, 2], [0, 2, 1], [1, 0, 2], [1, 2, 0], [2, 0, 1], [2, 1, 0]]
def ord (d : Nat) : List Nat := ORD.getD d []
def may (x j : Nat) : Bool := x / 2 ^ (8 - j) % 2 == 1
theorem ord_ok : ∀ d, d < 6 → (ord d).Nodup ∧ (∀ t ∈ ord d, t < 3) ∧ (ord d).length = 3 ∧ ∀ t, t < 3 → t ∈ ord d := by decide +kernel
def WL (ds : List Nat) (x : Nat) : NN := (List.range 3).map fun a => (ord (ds.getD a 0)).filter fun r => may x (3 * a + r)
def LL (ds : List Nat) : NN := (List.range 3).map fun r => ord (ds.getD (3 + r) 0)
def WT (ds : List Nat) (x : Nat) : NN := (List.range 3).map fun r => (ord (ds.getD (3 + r) 0)).filter fun a => may x (3 * a + r)
def LT (ds : List Nat) : NN := (List.range 3).map fun a => ord (ds.getD a 0)
theorem row3 {f : Nat → List Nat} {k : Nat} (h : k < 3) : row ((List.range 3).map f) k = f k := by
  unfold row
  rw [List.getD_eq_getElem?_getD, List.getElem?_map, List.getElem?_range h]; rfl
theorem idx_filter {p : Nat → Bool} : ∀ {l : List Nat} {t u : Nat}, t ∈ l.filter p → u ∈ l.filter p → (l.filter p).idxOf t < (l.filter p).idxOf u → l.idxOf t < l.idxOf u
  | [], _, _, h, _, _ => by cases h
  | x :: r, t, u, ht, hu, h => by
    by_cases px : p x = true
    · rw [List.filter_cons_of_pos px] at ht hu h
      by_cases h1 : x = t
      · subst h1
        by_cases h2 : x = u
        · subst h2; exact absurd h (Nat.lt_irrefl _)
        · have e1 : (x == x) = true := by simp
          have e2 : (x == u) = false := by simpa using h2
          simp [List.idxOf_cons, e1, e2]
      · by_cases h2 : x = u
        · subst h2
          simp [List.idxOf_cons] at h
        · have e1 : (x == t) = false := by simpa using h1
          have e2 : (x == u) = false := by simpa using h2
          simp only [List.idxOf_cons, e1, e2, cond_false] at h ⊢
          have := idx_filter (p := p) (l := r) (by rcases List.mem_cons.mp ht with z | z; exact absurd z.symm h1; exact z) (by rcases List.mem_cons.mp hu with z | z; exact absurd z.symm h2; exact z) (by omega)
          omega
    · rw [List.filter_cons_of_neg px] at ht hu h
      have h1 : x ≠ t := fun z => by have := (List.mem_filter.mp ht).2; rw [← z] at this; exact px this
      have h2 : x ≠ u := fun z => by have := (List.mem_filter.mp hu).2; rw [← z] at this; exact px this
      have e1 : (x == t) = false := by simpa using h1
      have e2 : (x == u) = false := by simpa using h2
      have := idx_filter (p := p) (l := r) ht hu h
      simp only [List.idxOf_cons, e1, e2, cond_false]
      omega
theorem two_of {ds : List Nat} (x : Nat) (hd : ∀ k, k < 6 → ds.getD k 0 < 6) : Two (WL ds x) (LL ds) (WT ds x) (LT ds) := by
  have o1 := fun k (h : k < 3) => ord_ok _ (hd k (by omega))
  have o2 := fun k (h : k < 3) => ord_ok _ (hd (3 + k) (by omega))
  have fl : ∀ (l : List Nat) (p : Nat → Bool), l.length = 3 → (l.filter p).length ≤ 3 := fun l p h => by have := List.length_filter_le p l; omega
  refine ⟨⟨by simp [WL], by simp [LL], fun k h => ?_, fun k h t m => ?_, fun k h => ?_, fun t h a ha => ?_, fun t h => ?_⟩, ⟨by simp [WT], by simp [LT], fun k h => ?_, fun k h t m => ?_, fun k h => ?_, fun t h a ha => ?_, fun t h => ?_⟩, fun a t ha ht => ?_, fun a ha t mt u mu h => ?_, fun t ht a ma b mb h => ?_⟩
  · rw [WL, row3 h]; exact (o1 k h).1.filter _
  · rw [WL, row3 h] at m; exact (o1 k h).2.1 t (List.mem_filter.mp m).1
  · rw [WL, row3 h]; exact fl _ _ (o1 k h).2.2.1
  · rw [LL, row3 h]; exact (o2 t h).2.2.2 a ha
  · rw [LL, row3 h]; exact Nat.le_of_eq (o2 t h).2.2.1
  · rw [WT, row3 h]; exact (o2 k h).1.filter _
  · rw [WT, row3 h] at m; exact (o2 k h).2.1 t (List.mem_filter.mp m).1
  · rw [WT, row3 h]; exact fl _ _ (o2 k h).2.2.1
  · rw [LT, row3 h]; exact (o1 t h).2.2.2 a ha
  · rw [LT, row3 h]; exact Nat.le_of_eq (o1 t h).2.2.1
  · rw [WL, WT, row3 ha, row3 ht, List.mem_filter, List.mem_filter]
    exact ⟨fun z => ⟨(o2 t ht).2.2.2 a ha, z.2⟩, fun z => ⟨(o1 a ha).2.2.2 t ht, z.2⟩⟩
  · rw [WL, row3 ha] at mt mu h
    rw [LT, row3 ha]
    exact idx_filter mt mu h
  · rw [WT, row3 ht] at ma mb h
    rw [LL, row3 ht]
    exact idx_filter ma mb h

/-- the row of a plain file's mode -/
def SG9 : List Str := ["r", "w", "x", "r", "w", "x", "r", "w", "x"]
def rowL (x : Nat) : List Str := (List.range 9).map fun k => if may x k then SG9.getD k "" else "-"
def rowX (x : Nat) : Str := Str.join "" (picks (32768 + (x : Nat)) 10)
def chX (x i : Nat) : Str := ⟨#[(rowX x).cps.toList.getD i 0]⟩
end Mine
namespace Mine
open PySem PySem.Calls PyProof.Rows

theorem join0_cons (x : Str) (l : List Str) : Str.join "" (x :: l) = x ++ Str.join "" l := by
  cases l with
  | nil => show x = x ++ Str.empty; rw [Str.append_empty]
  | cons y r =>
    show x ++ ("" : Str) ++ Str.join "" (y :: r) = _
    have : x ++ ("" : Str) = x := Str.append_empty x
    rw [this]
theorem join0_cps : ∀ l : List Str, (Str.join "" l).cps.toList = l.flatMap fun x => x.cps.toList
  | [] => rfl
  | x :: l => by
    rw [join0_cons, Str.cps_append, Array.toList_append, join0_cps l, List.flatMap_cons]
theorem pick_top : ∀ x : Nat, x < 512 → pick (32768 + (x : Int)) 0 (FTD.getD 0 []) = "-" := by decide +kernel
theorem pick_bit : ∀ j : Nat, j < 9 → ∀ x : Nat, x < 512 → pick (32768 + (x : Int)) (j + 1) (FTD.getD (j + 1) []) = if may x j then SG9.getD j "" else "-" := by decide +kernel
def chr9 (x j : Nat) : Nat := if may x j then [114, 119, 120, 114, 119, 120, 114, 119, 120].getD j 0 else 45
theorem rowX_eq {x : Nat} (h : x < 512) : rowX x = "-" ++ Str.join "" (rowL x) := by
  unfold rowX picks
  rw [List.range_succ_eq_map, List.map_cons, List.map_map, join0_cons, pick_top x h]
  congr 2
  refine List.map_congr_left fun j hj => ?_
  exact pick_bit j (List.mem_range.mp hj) x h
theorem chr9_ok (x : Nat) : ∀ j, j < 9 → (if may x j then SG9.getD j "" else "-" : Str).cps.toList = [chr9 x j] ∧ (chr9 x j = 45 ↔ may x j = false) := by
  intro j hj
  unfold chr9
  cases may x j with
  | false => exact ⟨rfl, by simp⟩
  | true =>
    match j, hj with
    | 0, _ | 1, _ | 2, _ | 3, _ | 4, _ | 5, _ | 6, _ | 7, _ | 8, _ => exact ⟨rfl, by simp⟩
theorem rowX_cps {x : Nat} (h : x < 512) : (rowX x).cps.toList = 45 :: (List.range 9).map (chr9 x) := by
  rw [rowX_eq h, Str.cps_append, Array.toList_append, join0_cps]
  show [45] ++ _ = _
  rw [List.singleton_append]
  congr 1
  unfold rowL
  have : ∀ l : List Nat, (∀ j ∈ l, j < 9) → (l.map fun k => if may x k then SG9.getD k "" else "-").flatMap (fun x => x.cps.toList) = l.map (chr9 x) := by
    intro l
    induction l with
    | nil => intro _; rfl
    | cons j r ih =>
      intro hl
      rw [List.map_cons, List.flatMap_cons, ih fun k m => hl k (.tail _ m), (chr9_ok x j (hl j (.head _))).1]; rfl
  exact this _ fun j m => List.mem_range.mp m
/-- the sign of a class and a right -/
theorem rowX_at {x j : Nat} (h : x < 512) (hj : j < 9) : (rowX x).cps.toList[1 + j]? = some (chr9 x j) := by
  rw [rowX_cps h, Nat.add_comm, List.getElem?_cons_succ, List.getElem?_map, List.getElem?_range hj]; rfl
theorem chr_may {x j : Nat} (hj : j < 9) : ((⟨#[chr9 x j]⟩ : Str) != "-") = may x j := by
  have e := (chr9_ok x j hj).2
  cases hm : may x j with
  | false => rw [e.mpr hm]; rfl
  | true =>
    have : chr9 x j ≠ 45 := fun z => by rw [e.mp z] at hm; cases hm
    rw [bne_iff_ne]
    intro z
    apply this
    have := congrArg (fun s : Str => s.cps.toList) z
    have this : [chr9 x j] = [45] := this
    injection this
theorem rowL_len (x : Nat) : (rowL x).length = 9 ∧ ∀ s ∈ rowL x, s.length ≤ 1 := by
  refine ⟨by simp [rowL], fun s hs => ?_⟩
  obtain ⟨j, hj, rfl⟩ := List.mem_map.mp hs
  have := (chr9_ok x j (List.mem_range.mp hj)).1
  have this := congrArg List.length this
  rw [Array.length_toList] at this
  exact Nat.le_of_eq this
end Mine
namespace Mine
open PySem PySem.Calls PyProof.Rows

/-- six digits to the base 6 -/
def num6 (ds : List Nat) : Nat := ds.getD 0 0 + ds.getD 1 0 * 6 + ds.getD 2 0 * 36 + ds.getD 3 0 * 216 + ds.getD 4 0 * 1296 + ds.getD 5 0 * 7776
/-- the lowest digit and the rest -/
def numF (f : Nat → Nat) : Nat → Nat
  | 0 => 0
  | n + 1 => f 0 + 6 * numF (fun k => f (k + 1)) n
theorem numF_digit : ∀ (n : Nat) (f : Nat → Nat), (∀ k, k < n → f k < 6) → numF f n < 6 ^ n ∧ ∀ k, k < n → numF f n / 6 ^ k % 6 = f k
  | 0, f, _ => ⟨Nat.one_pos, fun k h => absurd h (Nat.not_lt_zero k)⟩
  | n + 1, f, hf => by
    obtain ⟨a, b⟩ := numF_digit n (fun k => f (k + 1)) fun k hk => hf (k + 1) (Nat.succ_lt_succ hk)
    have h0 := hf 0 (Nat.succ_pos n)
    show f 0 + 6 * numF (fun k => f (k + 1)) n < 6 ^ n * 6 ∧ ∀ k, k < n + 1 → (f 0 + 6 * numF (fun k => f (k + 1)) n) / 6 ^ k % 6 = f k
    generalize numF (fun k => f (k + 1)) n = N at *
    refine ⟨by omega, fun k hk => ?_⟩
    cases k with
    | zero => rw [Nat.pow_zero, Nat.div_one, Nat.add_mul_mod_self_left, Nat.mod_eq_of_lt h0]
    | succ k => rw [Nat.pow_succ, Nat.mul_comm (6 ^ k) 6, ← Nat.div_div_eq_div_mul, Nat.add_mul_div_left _ _ (by decide), Nat.div_eq_of_lt h0, Nat.zero_add]; exact b k (Nat.lt_of_succ_lt_succ hk)
theorem digit {ds : List Nat} (hd : ∀ k, k < 6 → ds.getD k 0 < 6) : num6 ds < 46656 ∧ ∀ k, k < 6 → num6 ds / 6 ^ k % 6 = ds.getD k 0 := by
  have e : num6 ds = numF (fun k => ds.getD k 0) 6 := by
    show ds.getD 0 0 + ds.getD 1 0 * 6 + ds.getD 2 0 * 36 + ds.getD 3 0 * 216 + ds.getD 4 0 * 1296 + ds.getD 5 0 * 7776 = ds.getD 0 0 + 6 * (ds.getD 1 0 + 6 * (ds.getD 2 0 + 6 * (ds.getD 3 0 + 6 * (ds.getD 4 0 + 6 * (ds.getD 5 0 + 6 * 0)))))
    omega
  rw [e]
  exact numF_digit 6 (fun k => ds.getD k 0) hd

/-- a bit of any int, by its lowest nine -/
theorem bit_may (v : Int) (k : Nat) (hk : k < 9) : (Builtin.bitAnd (v.fdiv (2 ^ (8 - (k : Int)).toNat)) 1 != 0) = may (v % 512).toNat k := by
  obtain ⟨j, hj, e⟩ : ∃ j, j ≤ 8 ∧ (8 - (k : Int)).toNat = j ∧ 8 - k = j := ⟨8 - k, by omega, by omega, rfl⟩
  rw [e.1, bitAnd_m1, Int.fdiv_eq_ediv_of_nonneg _ (Int.pow_nonneg (by decide))]
  have h0 : 0 ≤ v % 512 := Int.emod_nonneg _ (by decide)
  have key : (v / 2 ^ j) % 2 = (((v % 512).toNat / 2 ^ j % 2 : Nat) : Int) := by
    have c : ((v % 512).toNat : Int) = v % 512 := Int.toNat_of_nonneg h0
    have p : (512 : Int) = 2 ^ j * (2 * 2 ^ (8 - j)) := by
      rw [Int.mul_comm 2, ← Int.pow_succ, ← Int.pow_add, show j + (8 - j + 1) = 9 by omega]; rfl
    have d : v = v % 512 + 2 ^ j * (2 * 2 ^ (8 - j) * (v / 512)) := by
      have := Int.emod_add_mul_ediv v 512
      rw [← Int.mul_assoc, ← p, this]
    have q : (2 : Int) ^ j ≠ 0 := Int.pow_ne_zero (by decide)
    have t : v / 2 ^ j % 2 = v % 512 / 2 ^ j % 2 := by
      conv => lhs; rw [d]
      rw [Int.add_mul_ediv_left _ _ q, Int.mul_assoc, Int.add_mul_emod_self_left]
    rw [t, ← c]
    push_cast
    rfl
  rw [key]
  unfold may
  rw [e.2]
  have h2 : (v % 512).toNat / 2 ^ j % 2 < 2 := Nat.mod_lt _ (by decide)
  generalize (v % 512).toNat / 2 ^ j % 2 = n at h2
  have : n = 0 ∨ n = 1 := by omega
  rcases this with rfl | rfl
  · rfl
  · rfl
end Mine
namespace Mine
open PySem PySem.Calls PyProof.Rows
variable {prog : Program} {w : World} {k : Nat} {M : List Addr} {env : Env} {h : Heap} {mg mb : Str → Option Value} {nm : List (Str × NameKind)} {W : List Addr} {σ : List (Str × Bd)}

/-- a slice from the start, that may ask for more than there is -/
theorem ev_uptoA {value u : Expr} {p pos : Pos} {ds : List PyData} {j : Nat} (H : EN mg mb env nm W σ M h) (a : EV prog w k M env h value (.list ds)) (b : EV prog w k M env h u (.int (j : Int))) (hn : ds.length ≤ 1000000) : EV prog w k M env h (.Subscript value (.Slice none (some u) none p) pos) (.list (ds.take j)) := ⟨fun {A s Q E} m t q => by
  refine sub_slice (a.run m t fun u₁ h₁ t₁ s₁ r₁ => evalPart_none_step (evalPart_some_step (b.run (s := ⟨h₁, s.gens, s.drawn, t₁, s.os⟩) m (t.trans s₁) fun v h₂ t₂ s₂ r₂ => ?_)))
  obtain ⟨tk, rfl⟩ := r₂.intVal
  obtain ⟨ad, vs, n, rfl, g, lm, r⟩ := (r₁.stay s₂).listRef
  have e1 := r.length
  simp at e1
  refine ⟨ad, vs, none, some (j : Int), rfl, ⟨_, g, rfl, _, rfl⟩, small_line (by omega), .none, .int _ _, ?_⟩
  rw [slicePick_upto' vs j]
  have mk := H.mok.stay (t.trans (s₁.trans s₂))
  have st : Stay h₂ (h₂.push { cls := .type "slice", data := .fields #[.none, .int j tk, .none] }) := Stay.push _ _
  have nw := (mk.stay st).newList ((r.stay st).take j)
  rw [Heap.size_push] at nw
  exact q _ _ _ (s₁.trans (s₂.trans (st.trans (Stay.push _ _)))) nw⟩

theorem own_of {σ : List (Str × Bd)} {names : List (Str × NameKind)} (h : (names.all fun x => !(x.2 == .local || x.2 == .cell) || (σ.lookup x.1).isNone) = true) : ∀ x ∈ names, x.2 = .local ∨ x.2 = .cell → σ.lookup x.1 = none := by
  intro x mx hx
  have := List.all_eq_true.mp h x mx
  rcases hx with e | e <;> rw [e] at this <;> simpa using this

/-- what a turn over numbers gives -/
def natOut (g : Nat → List PyData) : PyData → List PyData
  | .int i => g i.toNat
  | _ => []
theorem natOut_at {g : Nat → List PyData} {i : Nat} : natOut g (.int (i : Int)) = g i := by unfold natOut; simp only [Int.toNat_natCast]
theorem rng_nl {n : Nat} : rng n = nl (List.range n) := by
  unfold rng nl il cs
  rw [List.map_map]; rfl
theorem nl_mem {l : List Nat} {d : PyData} (h : d ∈ nl l) : ∃ i, i ∈ l ∧ d = .int (i : Int) := by
  unfold nl il cs at h
  rw [List.map_map] at h
  obtain ⟨i, hi, rfl⟩ := List.mem_map.mp h
  exact ⟨i, hi, rfl⟩
theorem nat_outs {g : Nat → List PyData} : ∀ {l : List Nat}, (nl l).flatMap (natOut g) = l.flatMap g
  | [] => rfl
  | i :: l => by
    show (PyData.int (i : Int) :: nl l).flatMap (natOut g) = _
    rw [List.flatMap_cons, List.flatMap_cons, nat_outs, natOut_at]
theorem rng_outs {g : Nat → List PyData} {n : Nat} : (rng n).flatMap (natOut g) = (List.range n).flatMap g := by rw [rng_nl, nat_outs]
theorem one_outs {α β : Type} {f : α → β} : ∀ {l : List α}, l.flatMap (fun i => [f i]) = l.map f
  | [] => rfl
  | i :: l => by rw [List.flatMap_cons, List.map_cons, one_outs]; rfl
theorem if_outs {α β : Type} {p : α → Bool} {f : α → β} : ∀ {l : List α}, l.flatMap (fun i => if p i then [f i] else []) = (l.filter p).map f
  | [] => rfl
  | i :: l => by
    rw [List.flatMap_cons, if_outs]
    cases h : p i with
    | true => rw [List.filter_cons_of_pos h, List.map_cons]; rfl
    | false => rw [List.filter_cons_of_neg (by rw [h]; intro z; cases z)]; rfl

/-- what a turn over lists of numbers gives -/
def unN : PyData → Nat
  | .int i => i.toNat
  | _ => 0
def unL (ds : List PyData) : List Nat := ds.map unN
theorem unL_nl {l : List Nat} : unL (nl l) = l := by
  unfold unL nl il cs
  rw [List.map_map, List.map_map]
  conv => rhs; rw [← List.map_id l]
  refine List.map_congr_left fun i _ => ?_
  show (i : Int).toNat = i
  rw [Int.toNat_natCast]
def wayOut (g : List Nat → List PyData) : PyData → List PyData
  | .list xs => g (unL xs)
  | _ => []
theorem wayOut_at {g : List Nat → List PyData} {l : List Nat} : wayOut g (.list (nl l)) = g l := by unfold wayOut; simp only [unL_nl]
theorem way_outs {g : List Nat → List PyData} : ∀ {W : NN}, (nn W).flatMap (wayOut g) = W.flatMap g
  | [] => rfl
  | l :: W => by
    show (PyData.list (nl l) :: nn W).flatMap (wayOut g) = _
    rw [List.flatMap_cons, List.flatMap_cons, way_outs, wayOut_at]
theorem nn_mem {W : NN} {d : PyData} (h : d ∈ nn W) : ∃ l, l ∈ W ∧ d = .list (nl l) := by
  obtain ⟨l, hl, rfl⟩ := List.mem_map.mp h
  exact ⟨l, hl, rfl⟩
end Mine
namespace Mine
open PySem PySem.Calls PyProof.Rows

/-- the flags' names, by their places -/
def goI : List Nat → Nat → List Nat × Option Nat
  | [], fl => ([], some fl)
  | i :: r, fl => if Builtin.bitAnd (fl : Int) ((2 ^ i : Nat) : Int) != 0 then (if fl - 2 ^ i = 0 then ([i], none) else (i :: (goI r (fl - 2 ^ i)).1, (goI r (fl - 2 ^ i)).2)) else goI r fl
def hexO : Option Nat → List Str
  | none => []
  | some f => [baseText "0x" 16 (f : Int)]
theorem goN_goI : ∀ (r : List Nat) (fl : Nat) (ns : List Str), goN r fl ns = ns ++ (goI r fl).1.map nmF ++ hexO (goI r fl).2
  | [], fl, ns => by simp [goN, goI, hexO]
  | i :: r, fl, ns => by
    rw [goN, goI]
    split
    · split
      · simp [hexO]
      · rw [goN_goI r]
        simp
    · exact goN_goI r fl ns
/-- what is seen of a way: its mode's bits, and the places of its flags -/
def okBits (way : List Nat) : Bool := decide ((modeL way).sum < 512) && decide ((modeL way).length ≤ 3) && ((List.range 3).all fun k => (List.range 3).all fun r => may (modeL way).sum (3 * k + r) == (way.getD k 0 == r)) &&
  (goI (List.range' 0 32) (modeL way).sum == if (modeL way).sum = 0 then ([], some 0) else ((List.range 9).filter fun k => may (modeL way).sum (8 - k), none)) &&
  ((modeL way).sum == 0 || ((List.range 9).any fun k => may (modeL way).sum (8 - k)))
theorem okBits_all : ∀ a, a < 4 → ∀ b, b < 4 → ∀ c, c < 4 → okBits [a, b, c] = true := by decide +kernel
theorem may_zero : ∀ k, k < 9 → may 0 k = false := by decide +kernel
theorem hex0 : baseText "0x" 16 ((0 : Nat) : Int) = "0x0" := by decide +kernel

theorem join_hex : Str.join ", " ((([], some 0) : List Nat × Option Nat).1.map nmF ++ hexO (([], some 0) : List Nat × Option Nat).2) = if ((Str.join ", " []).length : Int) != 0 then Str.join ", " [] else "0x0" := by
  show Str.join ", " [baseText "0x" 16 ((0 : Nat) : Int)] = _
  rw [hex0]
  rfl
theorem flat_congr {α β : Type} {f g : α → List β} : ∀ {l : List α}, (∀ k ∈ l, f k = g k) → l.flatMap f = l.flatMap g
  | [], _ => by rw [List.flatMap_nil, List.flatMap_nil]
  | k :: r, h => by rw [List.flatMap_cons, List.flatMap_cons, h k (.head _), flat_congr fun j m => h j (.tail _ m)]
theorem nmF_pos : ∀ k, k < 9 → 0 < (nmF k).length := by decide +kernel
theorem join_pos {sep y : Str} : ∀ {l : List Str}, y ∈ l → 0 < y.length → 0 < (Str.join sep l).length
  | [x], m, h => by rw [List.mem_singleton.mp m] at h; exact h
  | x :: z :: r, m, h => by
    show 0 < (x ++ sep ++ Str.join sep (z :: r)).length
    rw [Str.length_append, Str.length_append]
    rcases List.mem_cons.mp m with rfl | m
    · omega
    · have := join_pos (sep := sep) m h
      omega

theorem way_ok {way : List Nat} (hl : way.length = 3) (h : ∀ a, a < 3 → way.getD a 0 ≤ 3) : (modeL way).sum < 512 ∧ (modeL way).length ≤ 3 ∧ (rowT way).cps.toList.length = 9 ∧ (rowS way).length ≤ 9 ∧ (∀ x ∈ rowS way, x.length ≤ 20) ∧ (wordsT way).length ≤ 9 ∧ (∀ x ∈ wordsT way, x.length ≤ 20) ∧
    Str.join "" (picks (32768 + ((modeL way).sum : Nat)) 10) = "-" ++ rowT way ∧ Str.join ", " (PN (modeL way).sum) = if ((Str.join ", " (wordsT way)).length : Int) != 0 then Str.join ", " (wordsT way) else "0x0" := by
  have ok : okBits way = true := by
    match way, hl with
    | [a, b, c], _ => exact okBits_all a (Nat.lt_succ_of_le (h 0 (by decide))) b (Nat.lt_succ_of_le (h 1 (by decide))) c (Nat.lt_succ_of_le (h 2 (by decide)))
  simp only [okBits, Bool.and_eq_true, decide_eq_true_eq, beq_iff_eq, List.all_eq_true, List.mem_range] at ok
  obtain ⟨⟨⟨⟨k1, k2⟩, kb⟩, kg⟩, kz⟩ := ok
  generalize (modeL way).sum = x at *
  -- the row
  have sg : ∀ k, k < 3 → ∀ r, r < 3 → (if way.getD k 0 = r then SG.getD r "" else "-") = (if may x (3 * k + r) then SG9.getD (3 * k + r) "" else "-" : Str) := fun k hk r hr => by
    rw [kb k hk r hr]
    have e : SG9.getD (3 * k + r) "" = SG.getD r "" := by
      match k, hk, r, hr with
      | 0, _, 0, _ | 0, _, 1, _ | 0, _, 2, _ | 1, _, 0, _ | 1, _, 1, _ | 1, _, 2, _ | 2, _, 0, _ | 2, _, 1, _ | 2, _, 2, _ => rfl
    rw [e]
    simp only [beq_iff_eq]
  have er : rowS way = rowL x := by
    show [if way.getD 0 0 = 0 then SG.getD 0 "" else "-", if way.getD 0 0 = 1 then SG.getD 1 "" else "-", if way.getD 0 0 = 2 then SG.getD 2 "" else "-", if way.getD 1 0 = 0 then SG.getD 0 "" else "-", if way.getD 1 0 = 1 then SG.getD 1 "" else "-", if way.getD 1 0 = 2 then SG.getD 2 "" else "-", if way.getD 2 0 = 0 then SG.getD 0 "" else "-", if way.getD 2 0 = 1 then SG.getD 1 "" else "-", if way.getD 2 0 = 2 then SG.getD 2 "" else "-"] = rowL x
    rw [sg 0 (by decide) 0 (by decide), sg 0 (by decide) 1 (by decide), sg 0 (by decide) 2 (by decide), sg 1 (by decide) 0 (by decide), sg 1 (by decide) 1 (by decide), sg 1 (by decide) 2 (by decide), sg 2 (by decide) 0 (by decide), sg 2 (by decide) 1 (by decide), sg 2 (by decide) 2 (by decide)]
    rfl
  have et : rowX x = "-" ++ rowT way := by rw [rowX_eq k1, ← er]; rfl
  have ec : (rowT way).cps.toList = (List.range 9).map (chr9 x) := by
    have := rowX_cps k1
    rw [et, Str.cps_append, Array.toList_append] at this
    exact List.tail_eq_of_cons_eq (show 45 :: (rowT way).cps.toList = _ from this)
  obtain ⟨l9, l1⟩ := rowL_len x
  have ew : wordsT way = ((List.range 9).filter fun k => may x (8 - k)).map nmF := by
    rw [← if_outs]
    unfold wordsT
    have ck : ∀ k ∈ List.range 9, (if ckT way k != "-" then [nmF k] else []) = (if may x (8 - k) then [nmF k] else []) := fun k hk => by
      have hk := List.mem_range.mp hk
      have e : ckT way k = ⟨#[chr9 x (8 - k)]⟩ := by
        unfold ckT
        rw [ec, List.getD_eq_getElem?_getD, List.getElem?_map, List.getElem?_range (by omega)]; rfl
      rw [e, chr_may (by omega)]
    exact flat_congr ck
  have wl : (wordsT way).length ≤ 9 := by
    rw [ew, List.length_map]
    have := List.length_filter_le (fun k => may x (8 - k)) (List.range 9)
    rw [List.length_range] at this; exact this
  have w20 : ∀ y ∈ wordsT way, y.length ≤ 20 := fun y hy => by
    rw [ew] at hy
    obtain ⟨k, hk, rfl⟩ := List.mem_map.mp hy
    exact nmF_len k (List.mem_range.mp (List.mem_filter.mp hk).1)
  refine ⟨k1, k2, by rw [ec]; simp, by rw [er, l9]; decide, fun y hy => ?_, wl, w20, et, ?_⟩
  · rw [er] at hy; exact Nat.le_trans (l1 y hy) (by decide)
  · unfold PN
    rw [goN_goI, kg, List.nil_append]
    by_cases hx : x = 0
    · have e0 : wordsT way = [] := by
        rw [ew]
        have : ((List.range 9).filter fun k => may x (8 - k)) = [] := List.filter_eq_nil_iff.mpr fun k hk => by
          have e := may_zero (8 - k) (by omega)
          rw [← hx] at e
          rw [e]; intro z; cases z
        rw [this]; rfl
      rw [e0, if_pos hx]
      exact join_hex
    · rw [if_neg hx]
      have hz : ∃ k, k < 9 ∧ may x (8 - k) = true := by
        rw [Bool.or_eq_true, List.any_eq_true] at kz
        rcases kz with z | ⟨k, hk, z⟩
        · exact absurd (eq_of_beq z) hx
        · exact ⟨k, List.mem_range.mp hk, z⟩
      obtain ⟨k, hk, hm⟩ := hz
      have mw : nmF k ∈ wordsT way := by
        rw [ew]
        exact List.mem_map.mpr ⟨k, List.mem_filter.mpr ⟨List.mem_range.mpr hk, hm⟩, rfl⟩
      rw [show (((List.range 9).filter fun k => may x (8 - k)).map nmF ++ hexO none) = wordsT way by rw [ew]; exact List.append_nil _]
      have pos := join_pos (sep := ", ") mw (nmF_pos k hk)
      rw [if_pos (by simpa using Nat.ne_of_gt pos)]
end Mine
namespace Mine
open PySem PySem.Calls PyProof.Rows
variable {w : World} {top : Heap} {mg mb : Str → Option Value}

abbrev lC (top h₀ : Heap) (mg mb : Str → Option Value) (L fa : Addr) (cd : Value) (W : List Addr) : Cx := ⟨top, h₀, [], mg, mb, envOfC (dN 39) (dS 39) L fa cd, (dS 39).names, W⟩

theorem dep_nl {l : List Nat} : depAll (nl l) ≤ 0 := by
  induction l with
  | nil => exact Nat.le_refl _
  | cons i r ih =>
    show depAll (.int (i : Int) :: nl r) ≤ 0
    rw [depAll]
    exact Nat.max_le.mpr ⟨Nat.le_refl _, ih⟩
theorem show_tell {way ak : List Nat} (hl : way.length = 3) (h : ∀ a, a < 3 → way.getD a 0 ≤ 3) : ∃ xs, depAll xs ≤ 20 ∧ shownSpec [.list (nl way), .list (nl ak)] (.list xs) ∧ toldSpec [.list (nl way), .list (nl ak)] (.list xs) := by
  obtain ⟨k1, k2, k3, k4, k5, k6, k7, k8, k9⟩ := way_ok hl h
  refine ⟨_, ?_, ⟨way, ak, hl, k1, k2, rfl, rfl⟩, ⟨way, ak, hl, k3, k4, k5, k6, k7, rfl, ?_⟩⟩
  · have := @dep_nl ak
    simp only [depAll, dep]
    omega
  · rw [k8, k9]
theorem opt_out {hold : List Nat} (h : hold.length = 3) (k : Nat) : (if (cs hold).contains (k : Int) then hold.idxOf k else 3) = hold.idxOf k := by
  by_cases m : k ∈ hold
  · rw [if_pos (by simpa using cs_mem.mpr m)]
  · rw [if_neg (by intro z; exact m (cs_mem.mp (by simpa using z)))]
    rw [List.idxOf_eq_length m, h]
def runD (hold pos hold' pos' : List Nat) : PyData := .list [.tuple [.list (nl hold), .list (nl pos)], .tuple [.list (nl hold'), .list (nl pos')]]

set_option maxHeartbeats 2000000 in
theorem SE {fs ft : Addr} (G : PG top mg mb) (fS : FnI top mg 36 fs) (fT : FnI top mg 37 ft) (PS : PF pw w 3 top fs shownSpec) (PT : PF pw w 1 top ft toldSpec) {hold pos hold' pos' : List Nat} (hh : hold.length = 3) (hh' : hold'.length = 3) (hb : ∀ a, a < 3 → (optW hold).getD a 0 ≤ 3) (hb' : ∀ a, a < 3 → hold'.getD a 0 ≤ 3)
    {A : Around} {h₀ org h : Heap} {L fa : Addr} {cd : Value} {W M : List Addr} {μ : List (Addr × List PyData)} {g : Array GenState} {dr : Drawn} {tk : Nat} {os : OsState} {E : Value → Shared → Prop} {Q : Flow → Shared → Prop} (m : Rm 4 A)
    (F : FS (lC top h₀ mg mb L fa cd W) org [("runs", .d (.list (List.replicate 6 (runD hold pos hold' pos')))), ("called", .d (.list (nl pos'))), ("asked", .d (.list (nl pos))), ("worst", .d (.list (nl hold'))), ("best", .d (.list (nl (optW hold))))] M μ h)
    (q : ∀ h' tk', Stay h₀ h' → Q (.ret (.bool true)) ⟨h', g, dr, tk', os⟩) :
    wpAny (model pw w) A (execs ((dB 39).drop 23) (envOfC (dN 39) (dS 39) L fa cd)) Q E ⟨h, g, dr, tk, os⟩ := by
  -- having, times = runs[0][0]
  refine x_seq ?_
  apply s_assign2 F m (d := .list (nl hold)) (d' := .list (nl pos))
  · exact ev_item (xs := [.tuple [.list (nl hold), .list (nl pos)], .tuple [.list (nl hold'), .list (nl pos')]]) (ev_item (xs := List.replicate 6 (runD hold pos hold' pos')) (ev_name F.en rfl rfl (by decide +kernel)) ev_int (by decide) (by decide) rfl (fun _ _ => rfl)) ev_int (by decide) (by decide) rfl (fun _ _ => rfl)
  · rfl
  · rfl
  · rfl
  · rfl
  intro h₁ t₁ F₁
  -- way = [..]
  refine x_seq ?_
  apply s_comp (ds := rng 3) (natOut fun k => [.int ((hold.idxOf k : Nat) : Int)]) F₁ m (sr_range (n := 3) F₁.en rfl G.range.1 G.range.2 (by decide +kernel) ev_int (by decide) rfl (fun _ => rfl)) ?_ (by rw [rng_outs, one_outs, List.length_map, List.length_range]; decide) rfl rfl (own_of rfl) (fun h₂ t₂ F₂ => ?_) rfl rfl (by decide +kernel) rfl
  · intro cenv W' D hW hD d hd
    rw [rng_nl] at hd
    obtain ⟨k, hk, rfl⟩ := nl_mem hd
    refine .intro ⟨[("k", .d (.int (k : Nat)))], true, .name (.inl rfl), fun x c e => fresh1 e rfl, fun h' st H sq => .nil, fun _ => ?_, fun z => nomatch z⟩
    rw [natOut_at]
    refine cb_emit rfl hW hD fun h' st H sq => ev_ite (tv_cmp (M₁ := D :: M) (M₂ := D :: M) (ev_name H rfl rfl (by decide +kernel)) (ev_name H (d := .list (il (cs hold))) rfl rfl (by decide +kernel)) cm_in rfl) (fun hb => ?_) (fun hb => ?_)
    · exact (ev_index (M₁ := D :: M) (M₂ := D :: M) (l := cs hold) (i := (k : Int)) (ev_name H rfl rfl (by decide +kernel)) (ev_name H rfl rfl (by decide +kernel)) (by simpa using hb) (by simp [cs]; omega)).cast (by rw [cs_idx])
    · refine ev_int.cast ?_
      have := opt_out hh k
      rw [hb] at this
      rw [← this]; rfl
  rw [rng_outs, one_outs] at F₂
  have ew : (List.range 3).map (fun k => PyData.int ((hold.idxOf k : Nat) : Int)) = nl (optW hold) := rfl
  rw [ew] at F₂
  -- given, tries = runs[0][1]
  refine x_seq ?_
  apply s_assign2 F₂ m (d := .list (nl hold')) (d' := .list (nl pos'))
  · exact ev_item (xs := [.tuple [.list (nl hold), .list (nl pos)], .tuple [.list (nl hold'), .list (nl pos')]]) (ev_item (xs := List.replicate 6 (runD hold pos hold' pos')) (ev_name F₂.en rfl rfl (by decide +kernel)) ev_int (by decide) (by decide) rfl (fun _ _ => rfl)) ev_int (by decide) (by decide) rfl (fun _ _ => rfl)
  · rfl
  · rfl
  · rfl
  · rfl
  intro h₃ t₃ F₃
  obtain ⟨xs, dx, sx, tx⟩ := show_tell (ak := pos) (by rfl : (optW hold).length = 3) hb
  obtain ⟨ys, dy, sy, ty⟩ := show_tell (ak := pos') hh' hb'
  refine x_seq ?_
  apply s_return F₃ m (d := .bool (true && true))
  · refine ev_and (ev_cmp (M₁ := M) (M₂ := M) (ev_call F₃.en F₃.sm F₃.tp fS PS (by decide) rfl (by decide +kernel) (.cons (ev_name F₃.en (d := .list (nl (optW hold))) rfl rfl (by decide +kernel)) (.cons (ev_name F₃.en rfl rfl (by decide +kernel)) .nil (fun _ => rfl)) (fun _ => rfl)) sx)
      (ev_call F₃.en F₃.sm F₃.tp fT PT (by decide) rfl (by decide +kernel) (.cons (ev_name F₃.en (d := .list (nl (optW hold))) rfl rfl (by decide +kernel)) (.cons (ev_name F₃.en rfl rfl (by decide +kernel)) .nil (fun _ => rfl)) (fun _ => rfl)) tx) (cm_leq dx) rfl) (fun _ => ?_)
    exact ev_cmp (M₁ := M) (M₂ := M) (ev_call F₃.en F₃.sm F₃.tp fS PS (by decide) rfl (by decide +kernel) (.cons (ev_name F₃.en (d := .list (nl hold')) rfl rfl (by decide +kernel)) (.cons (ev_name F₃.en rfl rfl (by decide +kernel)) .nil (fun _ => rfl)) (fun _ => rfl)) sy)
      (ev_call F₃.en F₃.sm F₃.tp fT PT (by decide) rfl (by decide +kernel) (.cons (ev_name F₃.en (d := .list (nl hold')) rfl rfl (by decide +kernel)) (.cons (ev_name F₃.en rfl rfl (by decide +kernel)) .nil (fun _ => rfl)) (fun _ => rfl)) ty) (cm_leq dy) rfl
  intro v h₄ t₄ F₄ r₄
  have := r₄.boolVal
  subst this
  exact q h₄ t₄ (Eff.stay F₄.ef)
end Mine
namespace Mine
open PySem PySem.Calls PyProof.Rows
variable {w : World} {top : Heap} {mg mb : Str → Option Value}

theorem nn_app {a b : NN} : nn a ++ nn b = nn (a ++ b) := by unfold nn; rw [List.map_append]
theorem nn_len {a : NN} : (nn a).length = a.length := by simp [nn]
theorem nn_drop {a : NN} {n : Nat} : (nn a).drop n = nn (a.drop n) := by unfold nn; rw [List.map_drop]
theorem nn_take {a : NN} {n : Nat} : (nn a).take n = nn (a.take n) := by unfold nn; rw [List.map_take]
theorem ORD_len {T : List Nat} (h : T ∈ ORD) : T.length = 3 := by
  simp only [ORD, List.mem_cons, List.not_mem_nil, or_false] at h
  rcases h with rfl | rfl | rfl | rfl | rfl | rfl <;> rfl
theorem dep_nn {W : NN} : depAll (nn W) ≤ 1 := by
  induction W with
  | nil => exact Nat.zero_le _
  | cons l r ih =>
    show depAll (.list (nl l) :: nn r) ≤ 1
    rw [depAll, dep]
    have := @dep_nl l
    omega

set_option maxHeartbeats 2000000 in
theorem SD {fs ft fp : Addr} (G : PG top mg mb) (fS : FnI top mg 36 fs) (fT : FnI top mg 37 ft) (fP : FnI top mg 35 fp) (PS : PF pw w 3 top fs shownSpec) (PT : PF pw w 1 top ft toldSpec) (PP : PF pw w 4 top fp pairedSpec) {Wl Ll W' L' : NN} {hold pos hold' pos' : List Nat} (T : Two Wl Ll W' L') (I : Inv Wl Ll [] pos hold) (I' : Inv W' L' [] pos' hold')
    {A : Around} {h₀ org h : Heap} {L fa : Addr} {cd : Value} {W M : List Addr} {μ : List (Addr × List PyData)} {g : Array GenState} {dr : Drawn} {tk : Nat} {os : OsState} {E : Value → Shared → Prop} {Q : Flow → Shared → Prop} (m : Rm 4 A)
    (F : FS (lC top h₀ mg mb L fa cd W) org [("worst", .d (.list (nl hold'))), ("best", .d (.list (nl (optW hold)))), ("wanted", .d (.list (nn W'))), ("wishes", .d (.list (nn Wl))), ("likings", .d (.list (nn (L' ++ Ll)))), ("orders", .d (.list (nn ORD)))] M μ h)
    (q : ∀ h' tk', Stay h₀ h' → Q (.ret (.bool true)) ⟨h', g, dr, tk', os⟩) :
    wpAny (model pw w) A (execs ((dB 39).drop 19) (envOfC (dN 39) (dS 39) L fa cd)) Q E ⟨h, g, dr, tk, os⟩ := by
  have wl := T.g.wl
  have wl' := T.g'.wl
  -- asked
  refine x_seq ?_
  apply s_comp (ds := rng 3) (natOut fun k => [.int ((pos.getD k 0 : Nat) : Int)]) F m (sr_range (n := 3) F.en rfl G.range.1 G.range.2 (by decide +kernel) ev_int (by decide) rfl (fun _ => rfl)) ?_ (by rw [rng_outs, one_outs, List.length_map, List.length_range]; decide) rfl rfl (own_of rfl) (fun h₁ t₁ F₁ => ?_) rfl rfl (by decide +kernel) rfl
  · intro cenv W' D hW hD d hd
    rw [rng_nl] at hd
    obtain ⟨k, hk, rfl⟩ := nl_mem hd
    have hk := List.mem_range.mp hk
    have ask := asked_opt T.g I hk
    have wz := T.g.wz k hk
    refine .intro ⟨[("k", .d (.int (k : Nat)))], true, .name (.inl rfl), fun x c e => fresh1 e rfl, fun h' st H sq => .nil, fun _ => ?_, fun z => nomatch z⟩
    rw [natOut_at]
    have bk : (nl (optW hold))[(k : Int).toNat]? = some (.int ((hold.idxOf k : Nat) : Int)) := by
      rw [Int.toNat_natCast]
      have := nl_getD (l := optW hold) (i := k) (by exact hk)
      rw [optW_at hk] at this
      exact this
    have wk : (nn Wl)[(k : Int).toNat]? = some (.list (nl (row Wl k))) := by rw [Int.toNat_natCast]; exact nn_at (by omega)
    refine cb_emit rfl hW hD fun h' st H sq => ev_ite (tv_cmp (M₁ := D :: M) (M₂ := D :: M) (ev_item (ev_name H rfl rfl (by decide +kernel)) (ev_name H rfl rfl (by decide +kernel)) (by omega) (by omega) bk (fun _ _ => rfl)) ev_int cm_lt rfl) (fun hb => ?_) (fun hb => ?_)
    · have hb : hold.idxOf k < 3 := by have := of_decide_eq_true hb; omega
      have hm : hold.idxOf k ∈ row Wl k := (I.last T.g hk hb).1
      rw [if_pos hb] at ask
      refine (ev_bin H (ev_index (M₁ := D :: M) (M₂ := D :: M) (l := cs (row Wl k)) (i := ((hold.idxOf k : Nat) : Int)) (ev_item (ev_name H rfl rfl (by decide +kernel)) (ev_name H rfl rfl (by decide +kernel)) (by omega) (by omega) wk (fun _ _ => rfl)) (ev_item (ev_name H rfl rfl (by decide +kernel)) (ev_name H rfl rfl (by decide +kernel)) (by omega) (by omega) bk (fun _ _ => rfl)) (cs_mem.mpr hm) (by simp [cs]; omega)) ev_int bo_add).cast ?_
      rw [cs_idx, ← ask]; rfl
    · have hb : ¬ hold.idxOf k < 3 := by have := of_decide_eq_false hb; omega
      rw [if_neg hb] at ask
      refine (ev_len (M₁ := D :: M) (ds := nl (row Wl k)) H rfl G.len.1 G.len.2 (ev_item (ev_name H rfl rfl (by decide +kernel)) (ev_name H rfl rfl (by decide +kernel)) (by omega) (by omega) wk (fun _ _ => rfl)) (fun _ => rfl) (by rw [nl_len]; omega)).cast ?_
      rw [nl_len, ask]
  rw [rng_outs, one_outs, show (List.range 3).map (fun k => PyData.int ((pos.getD k 0 : Nat) : Int)) = nl pos from (congrArg nl (pos3 I.pl)).symm ▸ rfl] at F₁
  -- called
  refine x_seq ?_
  apply s_comp (ds := rng 3) (natOut fun k => [.int ((pos'.getD k 0 : Nat) : Int)]) F₁ m (sr_range (n := 3) F₁.en rfl G.range.1 G.range.2 (by decide +kernel) ev_int (by decide) rfl (fun _ => rfl)) ?_ (by rw [rng_outs, one_outs, List.length_map, List.length_range]; decide) rfl rfl (own_of rfl) (fun h₂ t₂ F₂ => ?_) rfl rfl (by decide +kernel) rfl
  · intro cenv W'' D hW hD d hd
    rw [rng_nl] at hd
    obtain ⟨k, hk, rfl⟩ := nl_mem hd
    have hk := List.mem_range.mp hk
    have ask := asked_opt T.g' I' hk
    have wz := T.g'.wz k hk
    refine .intro ⟨[("right", .d (.int (k : Nat)))], true, .name (.inl rfl), fun x c e => fresh1 e rfl, fun h' st H sq => .nil, fun _ => ?_, fun z => nomatch z⟩
    rw [natOut_at]
    have wk : (nn W')[(k : Int).toNat]? = some (.list (nl (row W' k))) := by rw [Int.toNat_natCast]; exact nn_at (by omega)
    refine cb_emit rfl hW hD fun h' st H sq => ev_ite (tv_cmp (M₁ := D :: M) (M₂ := D :: M) (ev_name H rfl rfl (by decide +kernel)) (ev_name H (d := .list (il (cs hold'))) rfl rfl (by decide +kernel)) cm_in rfl) (fun hb => ?_) (fun hb => ?_)
    · have hmem : k ∈ hold' := cs_mem.mp (by simpa using hb)
      have hb := (mem_hold I').mp hmem
      have hm : hold'.idxOf k ∈ row W' k := (I'.last T.g' hk hb).1
      rw [if_pos hb] at ask
      refine (ev_bin H (ev_index (M₁ := D :: M) (M₂ := D :: M) (l := cs (row W' k)) (i := ((hold'.idxOf k : Nat) : Int)) (ev_item (ev_name H rfl rfl (by decide +kernel)) (ev_name H rfl rfl (by decide +kernel)) (by omega) (by omega) wk (fun _ _ => rfl))
        ((ev_index (M₁ := D :: M) (M₂ := D :: M) (l := cs hold') (i := (k : Int)) (ev_name H rfl rfl (by decide +kernel)) (ev_name H rfl rfl (by decide +kernel)) (cs_mem.mpr hmem) (by have := I'.hl; simp [cs]; omega)).cast (by rw [cs_idx])) (cs_mem.mpr hm) (by simp [cs]; omega)) ev_int bo_add).cast ?_
      rw [cs_idx, ← ask]; rfl
    · have hb : ¬ hold'.idxOf k < 3 := fun z => by
        have := (mem_hold I').mpr z
        rw [List.contains_iff_mem.mpr (cs_mem.mpr this)] at hb
        cases hb
      rw [if_neg hb] at ask
      refine (ev_len (M₁ := D :: M) (ds := nl (row W' k)) H rfl G.len.1 G.len.2 (ev_item (ev_name H rfl rfl (by decide +kernel)) (ev_name H rfl rfl (by decide +kernel)) (by omega) (by omega) wk (fun _ _ => rfl)) (fun _ => rfl) (by rw [nl_len]; omega)).cast ?_
      rw [nl_len, ask]
  rw [rng_outs, one_outs, show (List.range 3).map (fun k => PyData.int ((pos'.getD k 0 : Nat) : Int)) = nl pos' from (congrArg nl (pos3 I'.pl)).symm ▸ rfl] at F₂
  -- runs
  have wl1 : L'.length = 3 := T.g'.ll
  have wl2 : Ll.length = 3 := T.g.ll
  refine x_seq ?_
  apply s_assign F₂ m (d := .list (List.replicate 6 (runD hold pos hold' pos')))
  · refine (ev_comp (ds := nn ORD) (wayOut fun _ => [runD hold pos hold' pos']) F₂.en F₂.sm (sr_list F₂.en (ev_name F₂.en rfl rfl (by decide +kernel)) (fun z => by cases z)) ?_ (by rw [way_outs]; exact (show 6 ≤ 1000000 by decide)) rfl rfl (by decide +kernel) rfl (own_of rfl)).cast (by rw [way_outs]; rfl)
    intro cenv W'' D hW hD d hd
    obtain ⟨tn, htn, rfl⟩ := nn_mem hd
    refine .intro ⟨[("turns", .d (.list (nl tn)))], true, .name (.inl rfl), fun x c e => fresh1 e rfl, fun h' st H sq => .nil, fun _ => ?_, fun z => nomatch z⟩
    rw [wayOut_at]
    refine cb_emit rfl hW hD fun h' st H sq => ev_list H (.cons ?_ (.cons ?_ .nil (fun _ => rfl)) (fun _ => rfl)) (show 2 ≤ 1000000 by decide)
    · exact ev_call H sq (F₂.tp.trans st) fP PP (by decide) rfl (by decide +kernel) (.cons (ev_name H rfl rfl (by decide +kernel)) (.cons ((ev_from (j := 3) (ds := nn (L' ++ Ll)) H (ev_name H rfl rfl (by decide +kernel)) ev_int (by rw [nn_len, List.length_append]; omega) (by rw [nn_len, List.length_append]; omega)).cast (d' := .list (nn Ll)) (by rw [nn_drop, ← wl1, List.drop_left]))
        (.cons (ev_name H rfl rfl (by decide +kernel)) .nil (fun _ => rfl)) (fun _ => rfl)) (fun _ => rfl)) ⟨Wl, Ll, tn, pos, hold, T.g, ORD_len htn, I, rfl, rfl⟩
    · exact ev_call H sq (F₂.tp.trans st) fP PP (by decide) rfl (by decide +kernel) (.cons (ev_name H rfl rfl (by decide +kernel)) (.cons ((ev_upto (j := 3) (ds := nn (L' ++ Ll)) H (ev_name H rfl rfl (by decide +kernel)) ev_int (by rw [nn_len, List.length_append]; omega) (by rw [nn_len, List.length_append]; omega)).cast (d' := .list (nn L')) (by rw [nn_take, ← wl1, List.take_left]))
        (.cons (ev_name H rfl rfl (by decide +kernel)) .nil (fun _ => rfl)) (fun _ => rfl)) (fun _ => rfl)) ⟨W', L', tn, pos', hold', T.g', ORD_len htn, I', rfl, rfl⟩
  · rfl
  · rfl
  intro h₃ t₃ F₃
  -- if [..] != []
  refine x_seq ?_
  apply s_if F₃ m (b := false)
  · refine tv_cmp (M₁ := M) (M₂ := M) (x := .list []) (y := .list []) ((ev_comp (ds := List.replicate 6 (runD hold pos hold' pos')) (fun _ => []) F₃.en F₃.sm (sr_list F₃.en (ev_name F₃.en rfl rfl (by decide +kernel)) (fun z => by cases z)) ?_ (show 0 ≤ 1000000 by decide) rfl rfl (by decide +kernel) rfl (own_of rfl)).cast rfl) (ev_list F₃.en .nil (by decide)) (cm_lneq (by decide)) rfl
    intro cenv W'' D hW hD d hd
    obtain rfl := List.eq_of_mem_replicate hd
    refine .intro ⟨[("run", .d (runD hold pos hold' pos'))], _, .name (.inl rfl), fun x c e => fresh1 e rfl, fun h' st H sq => .cons (tv_cmp (M₁ := D :: M) (M₂ := D :: M) (ev_name H (d := runD hold pos hold' pos') rfl rfl (by decide +kernel)) (ev_item (d := runD hold pos hold' pos') (ev_name H rfl rfl (by decide +kernel)) ev_int (by decide) (by decide) rfl (fun _ _ => rfl)) (cm_lneq (by
      have h1 := @dep_nl hold
      have h2 := @dep_nl pos
      have h3 := @dep_nl hold'
      have h4 := @dep_nl pos'
      simp only [depAll, dep]
      omega)) rfl) fun _ => .nil, fun z => (by cases z), fun _ => rfl⟩
  · intro z; cases z
  intro _ h₄ t₄ _ F₄
  refine wpAny_execs_nil ?_
  have F₅ := F₄.norm (c := [("runs", .d (.list (List.replicate 6 (runD hold pos hold' pos')))), ("called", .d (.list (nl pos'))), ("asked", .d (.list (nl pos))), ("worst", .d (.list (nl hold'))), ("best", .d (.list (nl (optW hold))))]) (.cons rfl (.cons rfl (.cons rfl (.cons rfl (.cons rfl .nil)))))
  exact SE G fS fT PS PT I.hl I'.hl (fun a ha => by rw [optW_at ha]; exact I.way3 a) (fun a ha => I'.ob a ha) m F₅ q
end Mine
namespace Mine
open PySem PySem.Calls PyProof.Rows
variable {w : World} {top : Heap} {mg mb : Str → Option Value}

theorem if_outs2 {α β : Type} {p : α → Bool} {f : α → List β} : ∀ {l : List α}, l.flatMap (fun i => if p i then f i else []) = (l.filter p).flatMap f
  | [] => rfl
  | i :: l => by
    rw [List.flatMap_cons, if_outs2]
    cases h : p i with
    | true => rw [List.filter_cons_of_pos h, List.flatMap_cons]; rfl
    | false => rw [List.filter_cons_of_neg (by rw [h]; intro z; cases z)]; rfl
theorem flat_len {α β : Type} {f : α → List β} {n : Nat} : ∀ {l : List α}, (∀ x ∈ l, (f x).length ≤ n) → (l.flatMap f).length ≤ n * l.length
  | [], _ => Nat.zero_le _
  | i :: l, h => by
    rw [List.flatMap_cons, List.length_append, List.length_cons, Nat.mul_succ]
    have h1 := h i (.head _)
    have h2 := flat_len (l := l) fun x m => h x (.tail _ m)
    omega
def wayC (Wl : NN) (a b : Nat) : Nat → List PyData := fun c => if c == 3 || !([a, b].contains c) then [.list (nl [a, b, c])] else []
def wayB (Wl : NN) (a : Nat) : Nat → List PyData := fun b => if b == 3 || b != a then (nl (row Wl 2 ++ [3])).flatMap (natOut (wayC Wl a b)) else []
def wayA (Wl : NN) : Nat → List PyData := fun a => (nl (row Wl 1 ++ [3])).flatMap (natOut (wayB Wl a))
theorem way_all {Wl : NN} : (nl (row Wl 0 ++ [3])).flatMap (natOut (wayA Wl)) = nn (waysL Wl) := by
  rw [nat_outs]
  unfold waysL nn
  rw [List.map_flatMap]
  congr 1
  funext a
  unfold wayA
  rw [nat_outs]
  unfold wayB
  rw [if_outs2, List.map_flatMap]
  congr 1
  funext b
  rw [nat_outs]
  unfold wayC
  rw [if_outs, List.map_map]
  rfl
theorem ways_len {Wl Ll : NN} (G : Good Wl Ll) : (waysL Wl).length ≤ 64 := by
  have h0 := G.wz 0 (by decide)
  have h1 := G.wz 1 (by decide)
  have h2 := G.wz 2 (by decide)
  unfold waysL
  refine Nat.le_trans (flat_len (n := 16) fun a _ => ?_) (by rw [List.length_append]; simp; omega)
  refine Nat.le_trans (flat_len (n := 4) fun b _ => ?_) ?_
  · rw [List.length_map]
    refine Nat.le_trans (List.length_filter_le _ _) (by rw [List.length_append]; simp; omega)
  · have := List.length_filter_le (fun b => b == 3 || b != a) (row Wl 1 ++ [3])
    rw [List.length_append] at this
    simp at this ⊢
    omega
noncomputable def keptL (Wl Ll : NN) : NN := (waysL Wl).filter (keptB Wl Ll)
theorem kept_mem {Wl Ll : NN} (G : Good Wl Ll) {way : List Nat} : way ∈ keptL Wl Ll ↔ Way Wl way ∧ Kept Wl Ll way := by
  unfold keptL
  rw [List.mem_filter, mem_ways G, keptB_iff]

theorem ieq3 (b : Nat) : ((b : Int) == 3) = (b == 3) := by rw [Bool.eq_iff_iff]; simp; omega
theorem ine (a b : Nat) : ((b : Int) != (a : Int)) = (b != a) := by rw [Bool.eq_iff_iff]; simp; omega
theorem inot (l : List Nat) (c : Nat) : (cs l).contains (c : Int) = l.contains c := by
  rw [Bool.eq_iff_iff, List.contains_iff_mem, List.contains_iff_mem, cs_mem]
/-- x ++ [3], for a row -/
theorem ev_row3 {M₁ : List Addr} {k : Nat} {env : Env} {h : Heap} {nm : List (Str × NameKind)} {W M : List Addr} {σ : List (Str × Bd)} {e : Expr} {p q r : Pos} {kk : Nat} {l : List Nat} (H : EN mg mb env nm W σ M h) (a : EV pw w k M env h e (.list (nl l))) (hl : l.length ≤ 100) :
    EV pw w k M env h (.BinOp e .Add (.List [.Constant (.int 3) kk p] q) r) (.list (nl (l ++ [3]))) :=
  (ev_bin H a (ev_list H (.cons ev_int .nil (fun _ => rfl)) (by decide)) (bo_list (by rw [nl_len]; simp; omega))).cast (congrArg PyData.list (nl_app (a := l) (b := [3])))

set_option maxHeartbeats 2000000 in
theorem SC {fs ft fp fk : Addr} (G : PG top mg mb) (fS : FnI top mg 36 fs) (fT : FnI top mg 37 ft) (fP : FnI top mg 35 fp) (fK : FnI top mg 38 fk) (PS : PF pw w 3 top fs shownSpec) (PT : PF pw w 1 top ft toldSpec) (PP : PF pw w 4 top fp pairedSpec) (PK : PF pw w 1 top fk keptSpec) {Wl Ll W' L' : NN} {hold pos hold' pos' : List Nat} (T : Two Wl Ll W' L') (I : Inv Wl Ll [] pos hold) (I' : Inv W' L' [] pos' hold')
    {A : Around} {h₀ org h : Heap} {L fa : Addr} {cd : Value} {W M : List Addr} {μ : List (Addr × List PyData)} {g : Array GenState} {dr : Drawn} {tk : Nat} {os : OsState} {E : Value → Shared → Prop} {Q : Flow → Shared → Prop} (m : Rm 4 A)
    (F : FS (lC top h₀ mg mb L fa cd W) org [("wanted", .d (.list (nn W'))), ("wishes", .d (.list (nn Wl))), ("likings", .d (.list (nn (L' ++ Ll)))), ("orders", .d (.list (nn ORD)))] M μ h)
    (q : ∀ h' tk', Stay h₀ h' → Q (.ret (.bool true)) ⟨h', g, dr, tk', os⟩) :
    wpAny (model pw w) A (execs ((dB 39).drop 13) (envOfC (dN 39) (dS 39) L fa cd)) Q E ⟨h, g, dr, tk, os⟩ := by
  have wl := T.g.wl
  have z0 := T.g.wz 0 (by decide)
  have z1 := T.g.wz 1 (by decide)
  have z2 := T.g.wz 2 (by decide)
  have wl1 : L'.length = 3 := T.g'.ll
  have wl2 : Ll.length = 3 := T.g.ll
  have wk : ∀ k : Nat, k < 3 → (nn Wl)[(k : Int).toNat]? = some (.list (nl (row Wl k))) := fun k hk => by rw [Int.toNat_natCast]; exact nn_at (by omega)
  have wlen := ways_len T.g
  -- ways
  refine x_seq ?_
  apply s_comp (ds := nl (row Wl 0 ++ [3])) (natOut (wayA Wl)) F m (sr_list F.en (ev_row3 (M₁ := M) F.en (ev_item (ev_name F.en rfl rfl (by decide +kernel)) ev_int (by decide) (by decide) (wk 0 (by decide)) (fun _ _ => rfl)) (by omega)) (fun z => by cases z)) ?_ (by rw [way_all, nn_len]; omega) rfl rfl (own_of rfl) (fun h₁ t₁ F₁ => ?_) rfl rfl (by decide +kernel) rfl
  · intro cenv W'' D hW hD d hd
    obtain ⟨a, ha, rfl⟩ := nl_mem hd
    refine .intro ⟨[("a", .d (.int (a : Nat)))], true, .name (.inl rfl), fun x c e => fresh1 e rfl, fun h' st H sq => .nil, fun _ => ?_, fun z => nomatch z⟩
    rw [natOut_at]
    refine cb_for rfl hW hD (natOut (wayB Wl a)) (fun h' st H sq => sr_list H (ev_row3 (M₁ := M) H (ev_item (ev_name H rfl rfl (by decide +kernel)) ev_int (by decide) (by decide) (wk 1 (by decide)) (fun _ _ => rfl)) (by omega)) (fun z => by cases z)) (fun d hd => ?_) (fun _ => rfl)
    obtain ⟨b, hb, rfl⟩ := nl_mem hd
    refine CI.intro ⟨[("b", .d (.int (b : Nat)))], ((b == 3 || b != a) && true), .name (.inl rfl), fun x c e => fresh1 e rfl, fun h' st H sq => ?_, fun z => ?_, fun z => ?_⟩
    · refine .cons (TV.cast (tv_or2 (b := ((b : Int) != (a : Int))) (tv_cmp (M₁ := D :: M) (M₂ := D :: M) (ev_name H rfl rfl (by decide +kernel)) ev_int cm_eq rfl) (fun _ => ?_)) ?_) fun _ => .nil
      · exact tv_cmp (M₁ := D :: M) (M₂ := D :: M) (ev_name H rfl rfl (by decide +kernel)) (ev_name H rfl rfl (by decide +kernel)) cm_ne rfl
      rw [ieq3, ine]
    · rw [Bool.and_true] at z
      rw [natOut_at, wayB, if_pos z]
      refine cb_for rfl hW hD (natOut (wayC Wl a b)) (fun h' st H sq => sr_list H (ev_row3 (M₁ := M) H (ev_item (ev_name H rfl rfl (by decide +kernel)) ev_int (by decide) (by decide) (wk 2 (by decide)) (fun _ _ => rfl)) (by omega)) (fun z => by cases z)) (fun d hd => ?_) (fun _ => rfl)
      obtain ⟨c, hc, rfl⟩ := nl_mem hd
      refine CI.intro ⟨[("c", .d (.int (c : Nat)))], ((c == 3 || !([a, b].contains c)) && true), .name (.inl rfl), fun x c e => fresh1 e rfl, fun h' st H sq => ?_, fun z => ?_, fun z => ?_⟩
      · refine .cons (TV.cast (tv_or2 (b := !((cs [a, b]).contains (c : Int))) (tv_cmp (M₁ := D :: M) (M₂ := D :: M) (ev_name H rfl rfl (by decide +kernel)) ev_int cm_eq rfl) (fun _ => ?_)) ?_) fun _ => .nil
        · exact tv_cmp (M₁ := D :: M) (M₂ := D :: M) (ev_name H rfl rfl (by decide +kernel)) (ev_list H (.cons (ev_name H rfl rfl (by decide +kernel)) (.cons (ev_name H rfl rfl (by decide +kernel)) .nil (fun _ => rfl)) (fun _ => rfl)) (show 2 ≤ 1000000 by decide)) (cm_nin (l := cs [a, b])) rfl
        rw [ieq3, inot]
      · rw [Bool.and_true] at z
        rw [natOut_at, wayC, if_pos z]
        exact cb_emit rfl hW hD fun h' st H sq => ev_list H (.cons (ev_name H rfl rfl (by decide +kernel)) (.cons (ev_name H rfl rfl (by decide +kernel)) (.cons (ev_name H rfl rfl (by decide +kernel)) .nil (fun _ => rfl)) (fun _ => rfl)) (fun _ => rfl)) (show 3 ≤ 1000000 by decide)
      · rw [Bool.and_true] at z
        rw [natOut_at, wayC, if_neg (by rw [z]; intro y; cases y)]
    · rw [Bool.and_true] at z
      rw [natOut_at, wayB, if_neg (by rw [z]; intro y; cases y)]
  rw [way_all] at F₁
  -- kept
  refine x_seq ?_
  apply s_assign F₁ m (d := .list (nn (keptL Wl Ll)))
  · refine (ev_comp (ds := nn (waysL Wl)) (wayOut fun way => if keptB Wl Ll way then [.list (nl way)] else []) F₁.en F₁.sm (sr_list F₁.en (ev_name F₁.en rfl rfl (by decide +kernel)) (fun z => by cases z)) ?_ (by rw [way_outs, if_outs, List.length_map]; have := List.length_filter_le (keptB Wl Ll) (waysL Wl); omega) rfl rfl (by decide +kernel) rfl (own_of rfl)).cast (by rw [way_outs, if_outs]; rfl)
    intro cenv W'' D hW hD d hd
    obtain ⟨way, hway, rfl⟩ := nn_mem hd
    have hw := (mem_ways T.g).mp hway
    refine .intro ⟨[("way", .d (.list (nl way)))], (keptB Wl Ll way && true), .name (.inl rfl), fun x c e => fresh1 e rfl, fun h' st H sq => ?_, fun z => ?_, fun z => ?_⟩
    · refine .cons (tv_bool (M₁ := D :: M) (ev_call H sq (F₁.tp.trans st) fK PK (by decide) rfl (by decide +kernel) (.cons (ev_name H rfl rfl (by decide +kernel)) (.cons (ev_name H rfl rfl (by decide +kernel)) (.cons ((ev_from (j := 3) (ds := nn (L' ++ Ll)) H (ev_name H rfl rfl (by decide +kernel)) ev_int (by rw [nn_len, List.length_append]; omega) (by rw [nn_len, List.length_append]; omega)).cast (d' := .list (nn Ll)) (by rw [nn_drop, ← wl1, List.drop_left])) .nil (fun _ => rfl)) (fun _ => rfl)) (fun _ => rfl))
        ⟨Wl, Ll, way, keptB Wl Ll way, T.g, hw.len, hw.mem, keptB_iff, rfl, rfl⟩)) fun _ => .nil
    · rw [Bool.and_true] at z
      rw [wayOut_at, if_pos z]
      exact cb_emit rfl hW hD fun h' st H sq => ev_name H rfl rfl (by decide +kernel)
    · rw [Bool.and_true] at z
      rw [wayOut_at, if_neg (by rw [z]; intro y; cases y)]
  · rfl
  · rfl
  intro h₂ t₂ F₂
  obtain ⟨b1, b2, b3⟩ := optimal T.g I
  obtain ⟨p1, p2, p3⟩ := pessimal T I'
  have hK : ∀ way ∈ keptL Wl Ll, Way Wl way ∧ Kept Wl Ll way := fun way m => (kept_mem T.g).mp m
  have mb' : optW hold ∈ keptL Wl Ll := (kept_mem T.g).mpr ⟨b1, b2⟩
  have mw' : hold' ∈ keptL Wl Ll := (kept_mem T.g).mpr ⟨p1, p2⟩
  have lK : (keptL Wl Ll).length ≤ 64 := Nat.le_trans (List.length_filter_le _ _) wlen
  generalize keptL Wl Ll = K at *
  have lK0 : K.length ≠ 0 := fun z => by rw [List.length_eq_zero_iff.mp z] at mb'; cases mb'
  -- if kept == []
  refine x_seq ?_
  apply s_if F₂ m (b := false)
  · exact tv_cmp (M₁ := M) (M₂ := M) (ev_name F₂.en rfl rfl (by decide +kernel)) (ev_list F₂.en .nil (by decide)) (cm_len_eq (by rw [nn_len]; exact lK0)) rfl
  · intro z; cases z
  intro _ h₃ t₃ _ F₃
  refine wpAny_execs_nil ?_
  -- places
  refine x_seq ?_
  apply s_assign F₃ m (d := .list (nn ((List.range 3).map fun k => K.map fun way => place Wl way k)))
  · refine (ev_comp (ds := rng 3) (natOut fun k => [.list (nl (K.map fun way => place Wl way k))]) F₃.en F₃.sm (sr_range (n := 3) F₃.en rfl G.range.1 G.range.2 (by decide +kernel) ev_int (by decide) rfl (fun _ => rfl)) ?_ (by rw [rng_outs, one_outs, List.length_map, List.length_range]; decide) rfl rfl (by decide +kernel) rfl (own_of rfl)).cast (by rw [rng_outs, one_outs]; rfl)
    intro cenv W'' D hW hD d hd
    rw [rng_nl] at hd
    obtain ⟨k, hk, rfl⟩ := nl_mem hd
    have hk := List.mem_range.mp hk
    have zk := T.g.wz k hk
    refine .intro ⟨[("k", .d (.int (k : Nat)))], true, .name (.inr rfl), fun x c e => fresh1 e rfl, fun h' st H sq => .nil, fun _ => ?_, fun z => nomatch z⟩
    rw [natOut_at]
    refine cb_emit rfl hW hD fun h' st H sq => (ev_comp (ds := nn K) (wayOut fun way => [.int ((place Wl way k : Nat) : Int)]) H sq (sr_list H (ev_name H rfl rfl (by decide +kernel)) (fun z => by cases z)) ?_ (by rw [way_outs, one_outs, List.length_map]; omega) rfl rfl (by decide +kernel) rfl (own_of rfl)).cast (by
      rw [way_outs, one_outs]
      unfold nl il cs
      rw [List.map_map, List.map_map]; rfl)
    intro cenv2 W2 D2 hW2 hD2 d hd
    obtain ⟨way, hway, rfl⟩ := nn_mem hd
    have hw := (hK way hway).1
    refine .intro ⟨[("way", .d (.list (nl way)))], true, .name (.inl rfl), fun x c e => fresh1 e rfl, fun h' st H sq => .nil, fun _ => ?_, fun z => nomatch z⟩
    rw [wayOut_at]
    exact cb_emit rfl hW2 hD2 fun h' st H sq => EV.cast (ev_index (M₁ := D2 :: D :: M) (M₂ := D2 :: D :: M) (l := cs (row Wl k ++ [3])) (i := ((way.getD k 0 : Nat) : Int)) (ev_row3 (M₁ := M) H (ev_item (ev_name H rfl rfl (by decide +kernel)) (ev_name H rfl rfl (by decide +kernel)) (by omega) (by omega) (wk k hk) (fun _ _ => rfl)) (by omega))
      (ev_item (ev_name H rfl rfl (by decide +kernel)) (ev_name H rfl rfl (by decide +kernel)) (by omega) (by omega) (by rw [Int.toNat_natCast]; exact nl_getD (by have := hw.len; omega)) (fun _ _ => rfl)) (cs_mem.mpr (hw.mem k hk)) (by simp [cs]; omega)) (by rw [cs_idx]; rfl)
  · rfl
  · rfl
  intro h₄ t₄ F₄
  have plt : ∀ way, Way Wl way → ∀ k, k < 3 → place Wl way k < 4 := fun way hw k hk => by
    have := List.idxOf_lt_length_iff.mpr (hw.mem k hk)
    have zk := T.g.wz k hk
    rw [List.length_append] at this
    unfold place
    have e : ([3] : List Nat).length = 1 := rfl
    omega
  have b1lt := plt _ b1
  have p1lt := plt _ p1
  -- best
  refine x_seq ?_
  apply s_assign F₄ m (d := .list (nl (optW hold)))
  · refine (ev_comp (ds := rng 3) (natOut fun k => [.int (((optW hold).getD k 0 : Nat) : Int)]) F₄.en F₄.sm (sr_range (n := 3) F₄.en rfl G.range.1 G.range.2 (by decide +kernel) ev_int (by decide) rfl (fun _ => rfl)) ?_ (by rw [rng_outs, one_outs, List.length_map, List.length_range]; decide) rfl rfl (by decide +kernel) rfl (own_of rfl)).cast (by rw [rng_outs, one_outs]; exact congrArg PyData.list (congrArg nl (pos3 (by rfl : (optW hold).length = 3))).symm)
    intro cenv W'' D hW hD d hd
    rw [rng_nl] at hd
    obtain ⟨k, hk, rfl⟩ := nl_mem hd
    have hk := List.mem_range.mp hk
    have zk := T.g.wz k hk
    have pl := b1lt k hk
    have pc : (cs (K.map fun way => place Wl way k)).length ≤ 64 := by simp [cs]; omega
    have pk : (nn ((List.range 3).map fun k => K.map fun way => place Wl way k))[(k : Int).toNat]? = some (.list (il (cs (K.map fun way => place Wl way k)))) := by
      rw [Int.toNat_natCast]
      have := nn_at (W := (List.range 3).map fun k => K.map fun way => place Wl way k) (i := k) (by simpa using hk)
      rw [row3 hk] at this
      exact this
    refine .intro ⟨[("k", .d (.int (k : Nat)))], true, .name (.inl rfl), fun x c e => fresh1 e rfl, fun h' st H sq => .nil, fun _ => ?_, fun z => nomatch z⟩
    rw [natOut_at]
    refine cb_emit rfl hW hD fun h' st H sq => ev_item (i := ((place Wl (optW hold) k : Nat) : Int)) (ev_row3 (M₁ := M) H (ev_item (ev_name H rfl rfl (by decide +kernel)) (ev_name H rfl rfl (by decide +kernel)) (by omega) (by omega) (wk k hk) (fun _ _ => rfl)) (by omega))
      (ev_min (l := cs (K.map fun way => place Wl way k)) (x := ((place Wl (optW hold) k : Nat) : Int)) H rfl G.min.1 G.min.2 (ev_item (ev_name H rfl rfl (by decide +kernel)) (ev_name H rfl rfl (by decide +kernel)) (by omega) (by omega) pk (fun _ _ => rfl)) (fun _ => rfl) (cs_mem.mpr (List.mem_map.mpr ⟨_, mb', rfl⟩)) (fun y hy => ?_)) (by omega) (by omega) (by rw [Int.toNat_natCast]; exact nl_at (place_at b1 hk)) (fun _ _ => rfl)
    obtain ⟨n, hn, rfl⟩ := List.mem_map.mp hy
    obtain ⟨way, hway, rfl⟩ := List.mem_map.mp hn
    have := b3 way (hK way hway).1 (hK way hway).2 k hk
    exact Int.ofNat_le.mpr this
  · rfl
  · rfl
  intro h₅ t₅ F₅
  -- worst
  refine x_seq ?_
  apply s_assign F₅ m (d := .list (nl hold'))
  · refine (ev_comp (ds := rng 3) (natOut fun k => [.int ((hold'.getD k 0 : Nat) : Int)]) F₅.en F₅.sm (sr_range (n := 3) F₅.en rfl G.range.1 G.range.2 (by decide +kernel) ev_int (by decide) rfl (fun _ => rfl)) ?_ (by rw [rng_outs, one_outs, List.length_map, List.length_range]; decide) rfl rfl (by decide +kernel) rfl (own_of rfl)).cast (by rw [rng_outs, one_outs]; exact congrArg PyData.list (congrArg nl (pos3 I'.hl)).symm)
    intro cenv W'' D hW hD d hd
    rw [rng_nl] at hd
    obtain ⟨k, hk, rfl⟩ := nl_mem hd
    have hk := List.mem_range.mp hk
    have zk := T.g.wz k hk
    have pl := p1lt k hk
    have pc : (cs (K.map fun way => place Wl way k)).length ≤ 64 := by simp [cs]; omega
    have pk : (nn ((List.range 3).map fun k => K.map fun way => place Wl way k))[(k : Int).toNat]? = some (.list (il (cs (K.map fun way => place Wl way k)))) := by
      rw [Int.toNat_natCast]
      have := nn_at (W := (List.range 3).map fun k => K.map fun way => place Wl way k) (i := k) (by simpa using hk)
      rw [row3 hk] at this
      exact this
    refine .intro ⟨[("k", .d (.int (k : Nat)))], true, .name (.inl rfl), fun x c e => fresh1 e rfl, fun h' st H sq => .nil, fun _ => ?_, fun z => nomatch z⟩
    rw [natOut_at]
    refine cb_emit rfl hW hD fun h' st H sq => ev_item (i := ((place Wl hold' k : Nat) : Int)) (ev_row3 (M₁ := M) H (ev_item (ev_name H rfl rfl (by decide +kernel)) (ev_name H rfl rfl (by decide +kernel)) (by omega) (by omega) (wk k hk) (fun _ _ => rfl)) (by omega))
      (ev_max (l := cs (K.map fun way => place Wl way k)) (x := ((place Wl hold' k : Nat) : Int)) H rfl G.max.1 G.max.2 (ev_item (ev_name H rfl rfl (by decide +kernel)) (ev_name H rfl rfl (by decide +kernel)) (by omega) (by omega) pk (fun _ _ => rfl)) (fun _ => rfl) (cs_mem.mpr (List.mem_map.mpr ⟨_, mw', rfl⟩)) (fun y hy => ?_)) (by omega) (by omega) (by rw [Int.toNat_natCast]; exact nl_at (place_at p1 hk)) (fun _ _ => rfl)
    obtain ⟨n, hn, rfl⟩ := List.mem_map.mp hy
    obtain ⟨way, hway, rfl⟩ := List.mem_map.mp hn
    have := p3 way (hK way hway).1 (hK way hway).2 k hk
    exact Int.ofNat_le.mpr this
  · rfl
  · rfl
  intro h₆ t₆ F₆
  have F₇ := F₆.norm (c := [("worst", .d (.list (nl hold'))), ("best", .d (.list (nl (optW hold)))), ("wanted", .d (.list (nn W'))), ("wishes", .d (.list (nn Wl))), ("likings", .d (.list (nn (L' ++ Ll)))), ("orders", .d (.list (nn ORD)))]) (.cons rfl (.cons rfl (.cons rfl (.cons rfl (.cons rfl (.cons rfl .nil))))))
  exact SD G fS fT fP PS PT PP T I I' m F₇ q
end Mine
namespace Mine
open PySem PySem.Calls PyProof.Rows
variable {w : World} {top : Heap} {mg mb : Str → Option Value}

theorem digitI {ds : List Nat} (hd : ∀ k, k < 6 → ds.getD k 0 < 6) {k : Nat} (hk : k < 6) : (((num6 ds : Nat) : Int).fdiv (6 ^ (k : Int).toNat)).fmod 6 = ((ds.getD k 0 : Nat) : Int) := by
  have e := (digit hd).2 k hk
  rw [Int.toNat_natCast, Int.fdiv_eq_ediv_of_nonneg _ (Int.pow_nonneg (by decide)), Int.fmod_eq_emod_of_nonneg _ (by decide)]
  have : ((6 : Int) ^ k) = ((6 ^ k : Nat) : Int) := by push_cast; rfl
  rw [this, ← e]
  push_cast
  rfl
theorem pow6 {k : Nat} (hk : k < 6) : (6 : Int) ^ (k : Int).toNat ≠ 0 ∧ ((6 : Int) ^ (k : Int).toNat).natAbs < 1073741824 := by
  rw [Int.toNat_natCast]
  match k, hk with
  | 0, _ | 1, _ | 2, _ | 3, _ | 4, _ | 5, _ => exact ⟨by decide, by decide⟩
theorem sg9 {k : Nat} (hk : k < 9) : ∃ c, ("rwxrwxrwx" : Str).cps.toList[(k : Int).toNat]? = some c ∧ (⟨#[c]⟩ : Str) = SG9.getD k "" := by
  rw [Int.toNat_natCast]
  match k, hk with
  | 0, _ | 1, _ | 2, _ | 3, _ | 4, _ | 5, _ | 6, _ | 7, _ | 8, _ => exact ⟨_, rfl, rfl⟩
theorem sl_map {α : Type} {f : α → Str} {l : List α} : sl (l.map f) = l.map fun i => .str (f i) := by unfold sl; rw [List.map_map]; rfl
theorem lik_eq (ds : List Nat) : (List.range 6).map (fun k => PyData.list (nl (ord (ds.getD k 0)))) = nn (LT ds ++ LL ds) := rfl
theorem lik_at (ds : List Nat) {k : Nat} (hk : k < 6) : (nn (LT ds ++ LL ds))[k]? = some (.list (nl (ord (ds.getD k 0)))) := by
  rw [← lik_eq, List.getElem?_map, List.getElem?_range hk]; rfl
theorem nl_map {l : List Nat} : nl l = l.map fun (i : Nat) => PyData.int (i : Int) := by unfold nl il cs; rw [List.map_map]; rfl

set_option maxHeartbeats 2000000 in
theorem SB {fs ft fp fk ff : Addr} (G : PG top mg mb) (fS : FnI top mg 36 fs) (fT : FnI top mg 37 ft) (fP : FnI top mg 35 fp) (fK : FnI top mg 38 fk) (fF : FnI top mg 22 ff) (PS : PF pw w 3 top fs shownSpec) (PT : PF pw w 1 top ft toldSpec) (PP : PF pw w 4 top fp pairedSpec) (PK : PF pw w 1 top fk keptSpec) (PM : PF pw w 2 top ff modeSpec)
    {nums : List Int} {v6 : Int} {ds : List Nat} {x : Nat} (h6 : nums[6]? = some v6) (hx : x = (v6 % 512).toNat) (hd : ∀ k, k < 6 → ds.getD k 0 < 6)
    {A : Around} {h₀ org h : Heap} {L fa : Addr} {cd : Value} {W M : List Addr} {μ : List (Addr × List PyData)} {g : Array GenState} {dr : Drawn} {tk : Nat} {os : OsState} {E : Value → Shared → Prop} {Q : Flow → Shared → Prop} (m : Rm 4 A)
    (F : FS (lC top h₀ mg mb L fa cd W) org [("read", .d (.list [.int ((num6 ds : Nat) : Int), .int (32768 + (x : Int))])), ("mode", .d (.int (32768 + (x : Int)))), ("number", .d (.int ((num6 ds : Nat) : Int))), ("numbers", .d (.list (il nums))), ("orders", .d (.list (nn ORD)))] M μ h)
    (q : ∀ h' tk', Stay h₀ h' → Q (.ret (.bool true)) ⟨h', g, dr, tk', os⟩) :
    wpAny (model pw w) A (execs ((dB 39).drop 7) (envOfC (dN 39) (dS 39) L fa cd)) Q E ⟨h, g, dr, tk, os⟩ := by
  have x5 : x < 512 := by
    have h0 : 0 ≤ v6 % 512 := Int.emod_nonneg _ (by decide)
    have h1 : v6 % 512 < 512 := Int.emod_lt_of_pos _ (by decide)
    omega
  have bits : ∀ k : Nat, k < 9 → (Builtin.bitAnd (v6.fdiv (2 ^ (8 - (k : Int)).toNat)) 1 != 0) = may x k := fun k hk => by rw [hx]; exact bit_may v6 k hk
  -- if read != [number, mode]
  refine x_seq ?_
  apply s_if F m (b := false)
  · exact tv_cmp (M₁ := M) (M₂ := M) (ev_name F.en rfl rfl (by decide +kernel)) (ev_list F.en (.cons (ev_name F.en rfl rfl (by decide +kernel)) (.cons (ev_name F.en rfl rfl (by decide +kernel)) .nil (fun _ => rfl)) (fun _ => rfl)) (show 2 ≤ 1000000 by decide)) (cm_lneq (by simp only [depAll, dep]; omega)) rfl
  · intro z; cases z
  intro _ h₁ t₁ _ F₁
  refine wpAny_execs_nil ?_
  -- row = filemode(read[1])
  refine x_seq ?_
  apply s_assign F₁ m (d := .str (rowX x))
  · exact ev_call F₁.en F₁.sm F₁.tp fF PM (by decide) rfl (by decide +kernel) (.cons (ev_item (d := .int (32768 + (x : Int))) (ev_name F₁.en rfl rfl (by decide +kernel)) ev_int (by decide) (by decide) rfl (fun _ _ => rfl)) .nil (fun _ => rfl)) ⟨_, rfl, rfl⟩
  · rfl
  · rfl
  intro h₂ t₂ F₂
  -- if row != ..
  obtain ⟨rl9, rl1⟩ := rowL_len x
  have hsum : ((rowL x).map (·.length)).sum ≤ 20 * 9 := by
    have := sum20 (l := rowL x) fun s hs => by have := rl1 s hs; omega
    rw [rl9] at this; exact this
  refine x_seq ?_
  apply s_if F₂ m (b := false)
  · refine TV.cast (tv_cmp (M₁ := M) (M₂ := M) (ev_name F₂.en rfl rfl (by decide +kernel)) (ev_bin F₂.en ev_str (ev_join (M₁ := M) (M₂ := M) (l := rowL x) ev_str (EV.cast (ev_comp (ds := rng 9) (natOut fun k => [.str (if may x k then SG9.getD k "" else "-")]) F₂.en F₂.sm (sr_range (n := 9) F₂.en rfl G.range.1 G.range.2 (by decide +kernel) ev_int (by decide) rfl (fun _ => rfl)) ?_ (by rw [rng_outs, one_outs, List.length_map, List.length_range]; decide) rfl rfl (by decide +kernel) rfl (own_of rfl)) (by rw [rng_outs, one_outs, rowL, sl_map])) (by rw [show ("" : Str).length = 0 from rfl]; omega)) (bo_str (by
      have := join_len20 (sep := "") (l := rowL x) fun s hs => by have := rl1 s hs; omega
      rw [rl9, show ("" : Str).length = 0 from rfl] at this
      rw [show ("-" : Str).length = 1 from rfl]
      exact Nat.le_trans (Nat.add_le_add_left this 1) (by decide)))) cm_sne rfl) (by rw [rowX_eq x5]; simp)
    intro cenv W'' D hW hD d hd'
    rw [rng_nl] at hd'
    obtain ⟨k, hk, rfl⟩ := nl_mem hd'
    have hk := List.mem_range.mp hk
    obtain ⟨c, hc, ec⟩ := sg9 hk
    refine .intro ⟨[("k", .d (.int (k : Nat)))], true, .name (.inl rfl), fun x c e => fresh1 e rfl, fun h' st H sq => .nil, fun _ => ?_, fun z => nomatch z⟩
    rw [natOut_at]
    refine cb_emit rfl hW hD fun h' st H sq => ev_ite (TV.cast (tv_int (M₁ := D :: M) (ev_bin H (ev_bin H (ev_item (ev_name H rfl rfl (by decide +kernel)) ev_int (by decide) (by decide) (by
      show (il nums)[6]? = _
      unfold il
      rw [List.getElem?_map, h6]; rfl) (fun _ _ => rfl)) (ev_bin H ev_int (ev_name H rfl rfl (by decide +kernel)) bo_sub) (bo_shr (by omega))) ev_int bo_and)) (bits k hk)) (fun hb => EV.cast (ev_itemS ev_str (ev_name H rfl rfl (by decide +kernel)) (by omega) (by omega) hc (fun _ _ => rfl)) ?_) (fun hb => EV.cast ev_str ?_)
    · rw [if_pos hb, ec]
    · rw [if_neg (by rw [hb]; intro z; cases z)]
  · intro z; cases z
  intro _ h₃ t₃ _ F₃
  refine wpAny_execs_nil ?_
  -- likings
  refine x_seq ?_
  apply s_assign F₃ m (d := .list (nn (LT ds ++ LL ds)))
  · refine EV.cast (ev_comp (ds := rng 6) (natOut fun k => [.list (nl (ord (ds.getD k 0)))]) F₃.en F₃.sm (sr_range (n := 6) F₃.en rfl G.range.1 G.range.2 (by decide +kernel) ev_int (by decide) rfl (fun _ => rfl)) ?_ (by rw [rng_outs, one_outs, List.length_map, List.length_range]; decide) rfl rfl (by decide +kernel) rfl (own_of rfl)) (by rw [rng_outs, one_outs, lik_eq])
    intro cenv W'' D hW hD d hd'
    rw [rng_nl] at hd'
    obtain ⟨k, hk, rfl⟩ := nl_mem hd'
    have hk := List.mem_range.mp hk
    have lt := hd k hk
    obtain ⟨p1, p2⟩ := pow6 hk
    have oa : (nn ORD)[ds.getD k 0]? = some (.list (nl (ord (ds.getD k 0)))) := nn_at (W := ORD) lt
    refine .intro ⟨[("k", .d (.int (k : Nat)))], true, .name (.inl rfl), fun x c e => fresh1 e rfl, fun h' st H sq => .nil, fun _ => ?_, fun z => nomatch z⟩
    rw [natOut_at]
    exact cb_emit rfl hW hD fun h' st H sq => ev_item (i := ((ds.getD k 0 : Nat) : Int)) (ev_name H rfl rfl (by decide +kernel)) (EV.cast (ev_bin H (ev_bin H (ev_item (d := .int ((num6 ds : Nat) : Int)) (ev_name H rfl rfl (by decide +kernel)) ev_int (by decide) (by decide) rfl (fun _ _ => rfl)) (ev_bin H ev_int (ev_name H rfl rfl (by decide +kernel)) (bo_pow (by omega) (by omega) (by decide))) (bo_div p1 p2)) ev_int (bo_mod (by decide))) (by rw [digitI hd hk])) (by omega) (by omega) (by rw [Int.toNat_natCast]; exact oa) (fun _ _ => rfl)
  · rfl
  · rfl
  intro h₄ t₄ F₄
  -- wishes
  refine x_seq ?_
  apply s_assign F₄ m (d := .list (nn (WL ds x)))
  · refine EV.cast (ev_comp (ds := rng 3) (natOut fun k => [.list (nl ((ord (ds.getD k 0)).filter fun r => may x (3 * k + r)))]) F₄.en F₄.sm (sr_range (n := 3) F₄.en rfl G.range.1 G.range.2 (by decide +kernel) ev_int (by decide) rfl (fun _ => rfl)) ?_ (by rw [rng_outs, one_outs, List.length_map, List.length_range]; decide) rfl rfl (by decide +kernel) rfl (own_of rfl)) (by rw [rng_outs, one_outs]; unfold WL nn; rw [List.map_map]; rfl)
    intro cenv W'' D hW hD d hd'
    rw [rng_nl] at hd'
    obtain ⟨k, hk, rfl⟩ := nl_mem hd'
    have hk := List.mem_range.mp hk
    obtain ⟨_, ob, ol, _⟩ := ord_ok _ (hd k (by omega))
    have la := lik_at ds (k := k) (by omega)
    refine .intro ⟨[("k", .d (.int (k : Nat)))], true, .name (.inr rfl), fun x c e => fresh1 e rfl, fun h' st H sq => .nil, fun _ => ?_, fun z => nomatch z⟩
    rw [natOut_at]
    refine cb_emit rfl hW hD fun h' st H sq => EV.cast (ev_comp (ds := nl (ord (ds.getD k 0))) (natOut fun r => if may x (3 * k + r) then [.int (r : Int)] else []) H sq (sr_list H (ev_item (ev_name H rfl rfl (by decide +kernel)) (ev_name H rfl rfl (by decide +kernel)) (by omega) (by omega) (by rw [Int.toNat_natCast]; exact la) (fun _ _ => rfl)) (fun z => by cases z)) ?_ (by
      rw [nat_outs, if_outs, List.length_map]
      have := List.length_filter_le (fun r => may x (3 * k + r)) (ord (ds.getD k 0))
      omega) rfl rfl (by decide +kernel) rfl (own_of rfl)) (by rw [nat_outs, if_outs, nl_map])
    intro cenv2 W2 D2 hW2 hD2 d hd2
    obtain ⟨r, hr, rfl⟩ := nl_mem hd2
    have hr := ob r hr
    refine .intro ⟨[("right", .d (.int (r : Nat)))], (may x (3 * k + r) && true), .name (.inl rfl), fun x c e => fresh1 e rfl, fun h' st H sq => ?_, fun z => ?_, fun z => ?_⟩
    · refine .cons (TV.cast (tv_cmp (M₁ := D2 :: D :: M) (M₂ := D2 :: D :: M) (ev_itemS (i := ((1 + (3 * k + r) : Nat) : Int)) (ev_name H rfl rfl (by decide +kernel)) (EV.cast (ev_bin H (ev_bin H ev_int (ev_bin H ev_int (ev_name H rfl rfl (by decide +kernel)) (bo_mul (by omega))) bo_add) (ev_name H rfl rfl (by decide +kernel)) bo_add) (congrArg PyData.int (by push_cast; omega))) (by omega) (by omega) (by rw [Int.toNat_natCast]; exact rowX_at x5 (by omega)) (fun _ _ => rfl)) ev_str cm_sne rfl) (chr_may (by omega))) fun _ => .nil
    · rw [Bool.and_true] at z
      rw [natOut_at, if_pos z]
      exact cb_emit rfl hW2 hD2 fun h' st H sq => ev_name H rfl rfl (by decide +kernel)
    · rw [Bool.and_true] at z
      rw [natOut_at, if_neg (by rw [z]; intro y; cases y)]
  · rfl
  · rfl
  intro h₅ t₅ F₅
  -- wanted
  refine x_seq ?_
  apply s_assign F₅ m (d := .list (nn (WT ds x)))
  · refine EV.cast (ev_comp (ds := rng 3) (natOut fun r => [.list (nl ((ord (ds.getD (3 + r) 0)).filter fun k => may x (3 * k + r)))]) F₅.en F₅.sm (sr_range (n := 3) F₅.en rfl G.range.1 G.range.2 (by decide +kernel) ev_int (by decide) rfl (fun _ => rfl)) ?_ (by rw [rng_outs, one_outs, List.length_map, List.length_range]; decide) rfl rfl (by decide +kernel) rfl (own_of rfl)) (by rw [rng_outs, one_outs]; unfold WT nn; rw [List.map_map]; rfl)
    intro cenv W'' D hW hD d hd'
    rw [rng_nl] at hd'
    obtain ⟨r, hr, rfl⟩ := nl_mem hd'
    have hr := List.mem_range.mp hr
    obtain ⟨_, ob, ol, _⟩ := ord_ok _ (hd (3 + r) (by omega))
    have la := lik_at ds (k := 3 + r) (by omega)
    refine .intro ⟨[("right", .d (.int (r : Nat)))], true, .name (.inr rfl), fun x c e => fresh1 e rfl, fun h' st H sq => .nil, fun _ => ?_, fun z => nomatch z⟩
    rw [natOut_at]
    refine cb_emit rfl hW hD fun h' st H sq => EV.cast (ev_comp (ds := nl (ord (ds.getD (3 + r) 0))) (natOut fun k => if may x (3 * k + r) then [.int (k : Int)] else []) H sq (sr_list H (ev_item (i := ((3 + r : Nat) : Int)) (ev_name H rfl rfl (by decide +kernel)) (EV.cast (ev_bin H ev_int (ev_name H rfl rfl (by decide +kernel)) bo_add) (congrArg PyData.int (by push_cast; omega))) (by omega) (by omega) (by rw [Int.toNat_natCast]; exact la) (fun _ _ => rfl)) (fun z => by cases z)) ?_ (by
      rw [nat_outs, if_outs, List.length_map]
      have := List.length_filter_le (fun k => may x (3 * k + r)) (ord (ds.getD (3 + r) 0))
      omega) rfl rfl (by decide +kernel) rfl (own_of rfl)) (by rw [nat_outs, if_outs, nl_map])
    intro cenv2 W2 D2 hW2 hD2 d hd2
    obtain ⟨k, hk, rfl⟩ := nl_mem hd2
    have hk := ob k hk
    refine .intro ⟨[("k", .d (.int (k : Nat)))], (may x (3 * k + r) && true), .name (.inl rfl), fun x c e => fresh1 e rfl, fun h' st H sq => ?_, fun z => ?_, fun z => ?_⟩
    · refine .cons (TV.cast (tv_cmp (M₁ := D2 :: D :: M) (M₂ := D2 :: D :: M) (ev_itemS (i := ((1 + (3 * k + r) : Nat) : Int)) (ev_name H rfl rfl (by decide +kernel)) (EV.cast (ev_bin H (ev_bin H ev_int (ev_bin H ev_int (ev_name H rfl rfl (by decide +kernel)) (bo_mul (by omega))) bo_add) (ev_name H rfl rfl (by decide +kernel)) bo_add) (congrArg PyData.int (by push_cast; omega))) (by omega) (by omega) (by rw [Int.toNat_natCast]; exact rowX_at x5 (by omega)) (fun _ _ => rfl)) ev_str cm_sne rfl) (chr_may (by omega))) fun _ => .nil
    · rw [Bool.and_true] at z
      rw [natOut_at, if_pos z]
      exact cb_emit rfl hW2 hD2 fun h' st H sq => ev_name H rfl rfl (by decide +kernel)
    · rw [Bool.and_true] at z
      rw [natOut_at, if_neg (by rw [z]; intro y; cases y)]
  · rfl
  · rfl
  intro h₆ t₆ F₆
  have T := two_of x hd
  obtain ⟨pos, hold, I⟩ := final T.g
  obtain ⟨pos', hold', I'⟩ := final T.g'
  have F₇ := F₆.norm (c := [("wanted", .d (.list (nn (WT ds x)))), ("wishes", .d (.list (nn (WL ds x)))), ("likings", .d (.list (nn (LT ds ++ LL ds)))), ("orders", .d (.list (nn ORD)))]) (.cons rfl (.cons rfl (.cons rfl (.cons rfl .nil))))
  exact SC G fS fT fP fK PS PT PP PK T I I' m F₇ q
end Mine
namespace Mine
open PySem PySem.Calls PyProof.Rows
variable {w : World} {top : Heap} {mg mb : Str → Option Value}

def DEF : List Int := [1, 2, 0, 5, 3, 4, 511]
def numsOf (script : List Int) : List Int := script.take 7 ++ DEF.drop (script.take 7).length
theorem nums_len (script : List Int) : (numsOf script).length = 7 := by
  unfold numsOf
  rw [List.length_append, List.length_drop, List.length_take]
  have : DEF.length = 7 := rfl
  omega
theorem il_take {l : List Int} {n : Nat} : (il l).take n = il (l.take n) := by unfold il; rw [List.map_take]
theorem il_drop {l : List Int} {n : Nat} : (il l).drop n = il (l.drop n) := by unfold il; rw [List.map_drop]
theorem il_len {l : List Int} : (il l).length = l.length := by simp [il]
theorem il_app {a b : List Int} : il a ++ il b = il (a ++ b) := by unfold il; rw [List.map_append]
def d6 (v : Int) : Nat := (v % 6).toNat
theorem d6_lt (v : Int) : d6 v < 6 := by
  have h0 : 0 ≤ v % 6 := Int.emod_nonneg _ (by decide)
  have h1 : v % 6 < 6 := Int.emod_lt_of_pos _ (by decide)
  unfold d6; omega
theorem d6_mod (v : Int) : v.fmod 6 = (d6 v : Int) := by
  rw [Int.fmod_eq_emod_of_nonneg _ (by decide)]
  exact (Int.toNat_of_nonneg (Int.emod_nonneg _ (by decide))).symm
def sumOut : PyData → List PyData
  | .tuple [.int k, .int v] => [.int ((d6 v : Int) * 6 ^ k.toNat)]
  | _ => []
def dsOf (v0 v1 v2 v3 v4 v5 : Int) : List Nat := [d6 v0, d6 v1, d6 v2, d6 v3, d6 v4, d6 v5]
theorem ds_lt (v0 v1 v2 v3 v4 v5 : Int) : ∀ k, k < 6 → (dsOf v0 v1 v2 v3 v4 v5).getD k 0 < 6 := by
  intro k hk
  match k, hk with
  | 0, _ | 1, _ | 2, _ | 3, _ | 4, _ | 5, _ => exact d6_lt _
def sumL (v0 v1 v2 v3 v4 v5 : Int) : List Int := [(d6 v0 : Int) * 6 ^ 0, (d6 v1 : Int) * 6 ^ 1, (d6 v2 : Int) * 6 ^ 2, (d6 v3 : Int) * 6 ^ 3, (d6 v4 : Int) * 6 ^ 4, (d6 v5 : Int) * 6 ^ 5]
theorem sumL_eq (v0 v1 v2 v3 v4 v5 : Int) : (sumL v0 v1 v2 v3 v4 v5).sum = ((num6 (dsOf v0 v1 v2 v3 v4 v5) : Nat) : Int) := by
  show (d6 v0 : Int) * 6 ^ 0 + ((d6 v1 : Int) * 6 ^ 1 + ((d6 v2 : Int) * 6 ^ 2 + ((d6 v3 : Int) * 6 ^ 3 + ((d6 v4 : Int) * 6 ^ 4 + ((d6 v5 : Int) * 6 ^ 5 + 0))))) = ((d6 v0 + d6 v1 * 6 + d6 v2 * 36 + d6 v3 * 216 + d6 v4 * 1296 + d6 v5 * 7776 : Nat) : Int)
  push_cast
  omega
theorem sumL_pos (v0 v1 v2 v3 v4 v5 : Int) : ∀ x ∈ sumL v0 v1 v2 v3 v4 v5, 0 ≤ x := by
  intro x hx
  simp only [sumL, List.mem_cons, List.not_mem_nil, or_false] at hx
  rcases hx with rfl | rfl | rfl | rfl | rfl | rfl <;> exact Int.mul_nonneg (Int.natCast_nonneg _) (by decide)
theorem sum_outs (v0 v1 v2 v3 v4 v5 v6 : Int) : (enumD ((il [v0, v1, v2, v3, v4, v5, v6]).take 6)).flatMap sumOut = il (sumL v0 v1 v2 v3 v4 v5) := rfl
/-- the octets of a number -/
def octN (v : Nat) : List Int := [64 + ((v / 4096 : Nat) : Int), 64 + ((v / 64 % 64 : Nat) : Int), ((v % 64 : Nat) : Int)]
theorem oct_eq (n m : Nat) : il (octN n) ++ il (octN m) = il (oct (n / 4096) (n / 64 % 64) (n % 64) (m / 4096) (m / 64 % 64) (m % 64)) := rfl
theorem num_eq (n : Nat) : num (n / 4096) (n / 64 % 64) (n % 64) = (n : Int) := by unfold num; omega

/-- three constants -/
theorem ev_c3 {k : Nat} {env : Env} {h : Heap} {nm : List (Str × NameKind)} {W M : List Addr} {σ : List (Str × Bd)} {a b c : Nat} {ka kb kc : Nat} {p1 p2 p3 p4 : Pos} (H : EN mg mb env nm W σ M h) :
    EV pw w k M env h (.List [.Constant (.int (a : Int)) ka p1, .Constant (.int (b : Int)) kb p2, .Constant (.int (c : Int)) kc p3] p4) (.list (nl [a, b, c])) :=
  ev_list H (.cons ev_int (.cons ev_int (.cons ev_int .nil (fun _ => rfl)) (fun _ => rfl)) (fun _ => rfl)) (show 3 ≤ 1000000 by decide)

theorem sw_list {es : List Expr} {p : Pos} {tg : Option Expr} {n : Nat} {env : Env} : swapsWith (.List es p) tg n env = pure false := by unfold swapsWith; rfl
theorem sw_call {f : Expr} {a : List Expr} {kw : List Keyword} {p : Pos} {tg : Option Expr} {n : Nat} {env : Env} : swapsWith (.Call f a kw p) tg n env = pure false := by unfold swapsWith; rfl
theorem list7 {α : Type} {l : List α} (h : l.length = 7) : ∃ a b c d e f g, l = [a, b, c, d, e, f, g] := by
  match l, h with
  | [a, b, c, d, e, f, g], _ => exact ⟨a, b, c, d, e, f, g, rfl⟩
theorem fdn (v k : Nat) : ((v : Nat) : Int).fdiv (k : Int) = ((v / k : Nat) : Int) := by rw [Int.fdiv_eq_ediv_of_nonneg _ (Int.natCast_nonneg _)]; rfl
theorem fmn (v k : Nat) : ((v : Nat) : Int).fmod (k : Int) = ((v % k : Nat) : Int) := by rw [Int.fmod_eq_emod_of_nonneg _ (Int.natCast_nonneg _)]; rfl
def ocs (n m : Nat) : Nat → List Int
  | 0 => []
  | 1 => octN n
  | _ => octN n ++ octN m

set_option maxHeartbeats 2000000 in
theorem SA {fr fv fs ft fp fk ff : Addr} (G : PG top mg mb) (rg : RG mg) (fS : FnI top mg 36 fs) (fT : FnI top mg 37 ft) (fP : FnI top mg 35 fp) (fK : FnI top mg 38 fk) (fF : FnI top mg 22 ff) (fR : FnI top mg 34 fr) (fV : FnI top mg 26 fv) (PS : PF pw w 3 top fs shownSpec) (PT : PF pw w 1 top ft toldSpec) (PP : PF pw w 4 top fp pairedSpec) (PK : PF pw w 1 top fk keptSpec) (PM : PF pw w 2 top ff modeSpec)
    {script : List Int} (hs : script.length ≤ 1000)
    {A : Around} {h₀ org h : Heap} {L fa : Addr} {cd : Value} {W : List Addr} {g : Array GenState} {dr : Drawn} {tk : Nat} {os : OsState} {E : Value → Shared → Prop} {Q : Flow → Shared → Prop} (m : Rm 4 A) (hfr : A.frames = some [envOfC (dN 39) (dS 39) L fa cd])
    (F : FS (lC top h₀ mg mb L fa cd W) org [("script", .d (.list (il script)))] [] [] h)
    (q : ∀ h' tk', Stay h₀ h' → Q (.ret (.bool true)) ⟨h', g, dr, tk', os⟩) :
    wpAny (model pw w) A (execs (dB 39) (envOfC (dN 39) (dS 39) L fa cd)) Q E ⟨h, g, dr, tk, os⟩ := by
  -- orders
  refine x_seq ?_
  with_reducible refine wpAny_Assign_Name ?_ sw_list
  have key : ∀ {e : Expr}, EV pw w 4 [] (envOfC (dN 39) (dS 39) L fa cd) h e (.list (nn ORD)) → ∀ {Q' : Value → Shared → Prop}, (∀ v h' t', Stay h h' → Rd [] h' v (.list (nn ORD)) → Q' v ⟨h', g, dr, t', os⟩) → wpAny (model pw w) A (eval e (envOfC (dN 39) (dS 39) L fa cd)) Q' E ⟨h, g, dr, tk, os⟩ := fun e Q' q' => e.run m (.refl _) q'
  with_reducible refine key ?_ ?_
  · refine ev_list (ds := nn ORD) F.en (.cons (ev_c3 F.en) (.cons (ev_c3 F.en) (.cons (ev_c3 F.en) (.cons (ev_c3 F.en) (.cons (ev_c3 F.en) (.cons (ev_c3 F.en) .nil (fun _ => rfl)) (fun _ => rfl)) (fun _ => rfl)) (fun _ => rfl)) (fun _ => rfl)) (fun _ => rfl)) (show 6 ≤ 1000000 by decide)
  intro v h' t' st r
  refine (F.stay st).en.store (s := ⟨h', g, dr, t', os⟩) (b := .d (.list (nn ORD))) (.inr rfl) r fun h₁ t₁ H₁ e₁ m₁ => ?_
  have F₁ := (F.stay st).chg H₁ ⟨e₁, m₁⟩
  show wpAny (model pw w) A (execs _ _) _ _ ⟨h₁, g, dr, t₁, os⟩
  clear H₁ e₁ m₁ r st key
  -- numbers
  have lt7 : (script.take 7).length ≤ 7 := by rw [List.length_take]; omega
  have up : ∀ {h : Heap} {σ}, FS (lC top h₀ mg mb L fa cd W) org σ [] [] h → σ.lookup ("script" : Str) = some (.d (.list (il script))) → ∀ {p1 p2 p3 p4 : Pos} {kk : Nat}, EV pw w 4 [] (envOfC (dN 39) (dS 39) L fa cd) h (.Subscript (.Name "script" p1) (.Slice none (some (.Constant (.int 7) kk p2)) none p3) p4) (.list (il (script.take 7))) := fun {h σ} F l {p1 p2 p3 p4 kk} =>
    EV.cast (ev_uptoA (j := 7) F.en (ev_name F.en rfl l (by decide +kernel)) ev_int (by rw [il_len]; omega)) (by rw [il_take])
  refine x_seq ?_
  apply s_assign F₁ m (d := .list (il (numsOf script)))
  · refine EV.cast (ev_bin F₁.en (up F₁ rfl) (EV.cast (ev_from (j := (script.take 7).length) (ds := il DEF) F₁.en (ev_list F₁.en (.cons ev_int (.cons ev_int (.cons ev_int (.cons ev_int (.cons ev_int (.cons ev_int (.cons ev_int .nil (fun _ => rfl)) (fun _ => rfl)) (fun _ => rfl)) (fun _ => rfl)) (fun _ => rfl)) (fun _ => rfl)) (fun _ => rfl)) (show 7 ≤ 1000000 by decide)) (EV.cast (ev_len (M₁ := []) F₁.en rfl G.len.1 G.len.2 (up F₁ rfl) (fun _ => rfl) (by rw [il_len]; omega)) (by rw [il_len])) (show 7 ≤ 1000000 by decide) lt7) (congrArg PyData.list il_drop)) (bo_list (by rw [il_len, il_len, List.length_drop, show DEF.length = 7 from rfl]; omega))) (congrArg PyData.list il_app)
  · rfl
  · rfl
  intro h₂ t₂ F₂
  obtain ⟨v0, v1, v2, v3, v4, v5, v6, en⟩ := list7 (nums_len script)
  rw [en] at F₂
  have hd := ds_lt v0 v1 v2 v3 v4 v5
  have dg := (digit hd).1
  have seq := sumL_eq v0 v1 v2 v3 v4 v5
  -- number
  refine x_seq ?_
  apply s_assign F₂ m (d := .int ((num6 (dsOf v0 v1 v2 v3 v4 v5) : Nat) : Int))
  · refine EV.cast (ev_sum (l := sumL v0 v1 v2 v3 v4 v5) F₂.en rfl G.sum.1 G.sum.2 (EV.cast (ev_comp (ds := enumD ((il [v0, v1, v2, v3, v4, v5, v6]).take 6)) sumOut F₂.en F₂.sm (sr_enum_list F₂.en rfl G.enumerate.1 G.enumerate.2 (by decide +kernel) (fun _ => rfl) (ev_uptoA (j := 6) F₂.en (ev_name F₂.en rfl rfl (by decide +kernel)) ev_int (show 7 ≤ 1000000 by decide))) ?_ (show 6 ≤ 1000000 by decide) rfl rfl (by decide +kernel) rfl (own_of rfl)) (congrArg PyData.list (sum_outs v0 v1 v2 v3 v4 v5 v6))) (fun _ => rfl) (sumL_pos v0 v1 v2 v3 v4 v5) (by rw [seq]; omega)) (congrArg PyData.int seq)
    intro cenv W'' D hW hD d hd'
    obtain ⟨i, hi⟩ := List.getElem?_of_mem hd'
    obtain ⟨y, ey, rfl⟩ := enum_at hi
    rw [il_take] at ey
    unfold il at ey
    rw [List.getElem?_map, Option.map_eq_some_iff] at ey
    obtain ⟨v, ev, rfl⟩ := ey
    have i6 : i < 6 := (List.getElem?_eq_some_iff.mp ev).1
    obtain ⟨p1, p2⟩ := pow6 i6
    refine .intro ⟨[("v", .d (.int v)), ("k", .d (.int (i : Nat)))], true, .pair (.inl rfl) (.inl rfl), fun x c e => fresh2 e rfl rfl, fun h' st H sq => .nil, fun _ => ?_, fun z => nomatch z⟩
    exact cb_emit rfl hW hD fun h' st H sq => EV.cast (ev_bin H (ev_bin H (ev_name H rfl rfl (by decide +kernel)) ev_int (bo_mod (by decide))) (ev_bin H ev_int (ev_name H rfl rfl (by decide +kernel)) (bo_pow (by omega) (by omega) (by decide))) (bo_mul (by omega))) (by rw [d6_mod])
  · rfl
  · rfl
  intro h₃ t₃ F₃
  generalize hN : num6 (dsOf v0 v1 v2 v3 v4 v5) = N at *
  -- mode
  obtain ⟨tr, hr⟩ := rg
  have x0 : 0 ≤ v6 % 512 := Int.emod_nonneg _ (by decide)
  have x1 : v6 % 512 < 512 := Int.emod_lt_of_pos _ (by decide)
  obtain ⟨x, hx⟩ : ∃ x, x = (v6 % 512).toNat := ⟨_, rfl⟩
  have xe : v6.fmod 512 = (x : Int) := by
    rw [Int.fmod_eq_emod_of_nonneg _ (by decide), hx, Int.toNat_of_nonneg x0]
  refine x_seq ?_
  apply s_assign F₃ m (d := .int (32768 + (x : Int)))
  · exact EV.cast (ev_bin F₃.en (ev_glob F₃.en rfl hr (.int ..) (by decide +kernel)) (ev_bin F₃.en (ev_item (d := .int v6) (ev_name F₃.en rfl rfl (by decide +kernel)) ev_int (by decide) (by decide) rfl (fun _ _ => rfl)) ev_int (bo_mod (by decide))) bo_add) (by rw [xe])
  · rfl
  · rfl
  intro h₄ t₄ F₄
  -- octets = []
  refine x_seq ?_
  apply s_newlist F₄ m (ds := []) .nil rfl rfl (by decide) rfl
  intro o h₅ t₅ ho hoo F₅
  -- for value in [number, mode]
  refine x_seq ?_
  refine s_for (ds := [.int (N : Int), .int (32768 + (x : Int))]) F₅ m (sr_list F₅.en (ev_list F₅.en (.cons (ev_name F₅.en rfl rfl (by decide +kernel)) (.cons (ev_name F₅.en rfl rfl (by decide +kernel)) .nil (fun _ => rfl)) (fun _ => rfl)) (show 2 ≤ 1000000 by decide)) (fun z => by cases z))
    (fun i σ μ => μ = [(o, il (ocs N (32768 + x) i))] ∧ Sub σ [("octets", .r (.ref o)), ("mode", .d (.int (32768 + (x : Int)))), ("number", .d (.int (N : Int))), ("numbers", .d (.list (il [v0, v1, v2, v3, v4, v5, v6]))), ("orders", .d (.list (nn ORD)))]) ⟨rfl, .cons rfl (.cons rfl (.cons rfl (.cons rfl (.cons rfl .nil))))⟩ ?_ ?_ (fun _ => rfl)
  · rintro i d σ₁ μ₁ hd' ⟨rfl, sb⟩
    obtain ⟨v, rfl, vl, vo⟩ : ∃ v : Nat, d = .int (v : Int) ∧ v < 262144 ∧ ocs N (32768 + x) i ++ octN v = ocs N (32768 + x) (i + 1) ∧ (ocs N (32768 + x) i).length ≤ 3 := by
      match i, hd' with
      | 0, e => exact ⟨N, (Option.some.inj e).symm, by omega, rfl, by simp [ocs]⟩
      | 1, e => exact ⟨32768 + x, by rw [← Option.some.inj e]; push_cast; rfl, by omega, rfl, by simp [ocs, octN]⟩
      | n + 2, e => simp at e
    obtain ⟨vo, vl3⟩ := vo
    refine ⟨_, .name (.inl rfl), fun h₆ h₇ t₇ E' up F₇ => ?_⟩
    have F₇ := F₇.norm (c := [("value", .d (.int (v : Int))), ("octets", .r (.ref o)), ("mode", .d (.int (32768 + (x : Int)))), ("number", .d (.int (N : Int))), ("numbers", .d (.list (il [v0, v1, v2, v3, v4, v5, v6]))), ("orders", .d (.list (nn ORD)))]) (.cons rfl (.cons (sb.look _ _ rfl) (.cons (sb.look _ _ rfl) (.cons (sb.look _ _ rfl) (.cons (sb.look _ _ rfl) (.cons (sb.look _ _ rfl) .nil))))))
    refine x_seq ?_
    apply s_extend F₇ m (xs := il (octN v))
    · exact EV.cast (ev_list F₇.en (.cons (ev_bin F₇.en ev_int (ev_bin F₇.en (ev_name F₇.en rfl rfl (by decide +kernel)) ev_int (bo_div (by decide) (by decide))) bo_add) (.cons (ev_bin F₇.en ev_int (ev_bin F₇.en (ev_bin F₇.en (ev_name F₇.en rfl rfl (by decide +kernel)) ev_int (bo_div (by decide) (by decide))) ev_int (bo_mod (by decide))) bo_add) (.cons (ev_bin F₇.en (ev_name F₇.en rfl rfl (by decide +kernel)) ev_int (bo_mod (by decide))) .nil (fun _ => rfl)) (fun _ => rfl)) (fun _ => rfl)) (show 3 ≤ 1000000 by decide)) (by
        have e1 : ((v : Nat) : Int).fdiv 4096 = ((v / 4096 : Nat) : Int) := fdn v 4096
        have e2 : ((v : Nat) : Int).fdiv 64 = ((v / 64 : Nat) : Int) := fdn v 64
        have e3 : ((v / 64 : Nat) : Int).fmod 64 = ((v / 64 % 64 : Nat) : Int) := fmn (v / 64) 64
        have e4 : ((v : Nat) : Int).fmod 64 = ((v % 64 : Nat) : Int) := fmn v 64
        rw [e1, e2, e3, e4]; rfl)
    · rfl
    · rfl
    · decide +kernel
    · intro _; rfl
    · rfl
    · rfl
    · rfl
    · rw [il_len, il_len]
      have : (octN v).length = 3 := rfl
      omega
    intro h₈ t₈ F₈
    rw [il_app, vo] at F₈
    refine wpAny_execs_nil ?_
    exact ⟨_, _, h₈, t₈, rfl, F₈, rfl, .cons rfl (.cons rfl (.cons rfl (.cons rfl (.cons rfl .nil))))⟩
  rintro σ' μ' h₆ t₆ E' ⟨rfl, sb⟩ F₆
  have F₆ := F₆.norm sb
  refine wpAny_execs_nil ?_
  -- read = _law_read(octets)
  refine x_seq ?_
  with_reducible refine wpAny_Assign_Name ?_ sw_call
  refine call_raw F₆ fR rfl (by decide +kernel) rfl rfl (by decide +kernel) ?_
  have ra : Rd [] h₆ (.ref o) (.list (il (oct (N / 4096) (N / 64 % 64) (N % 64) ((32768 + x) / 4096) ((32768 + x) / 64 % 64) ((32768 + x) % 64)))) := (F₆.mu _ (.head _)).2.1.rd
  obtain ⟨mL, hNs⟩ := F₆.en.ns
  have hNs : h₆.Ns L mL := hNs
  have hLW : L ∈ W := F₆.en.wl
  have isD : ∃ od es n, h₆.get? L = some od ∧ od.data = .dict es n := by
    obtain ⟨od, es, n, e1, d1, _⟩ := hNs
    exact ⟨od, es, n, e1, d1⟩
  refine RD G fR fV (m.mono (by omega)) F₆.tp ra (by omega) (by omega) (by omega) (by omega) (by omega) (by omega) hfr (show (dS 39).kind ≠ .module by decide +kernel) rfl hNs fun v h₇ t₇ k1 k2 k3 => ?_
  obtain ⟨od, es, n, eL, dL⟩ := isD
  have old : ∀ a ob, h₆.get? a = some ob → (∀ es n, ob.data ≠ .dict es n) → h₇.get? a = some ob := fun a ob e nd => k1 a ob (fun z => by rw [z, eL] at e; cases e; exact nd _ _ dL) e
  have H₇ := F₆.en.slots F₆.sm (h' := h₇) (fun a ob e nd _ => old a ob e nd) k2
  have F₇ := F₆.chg H₇ ⟨fun a ob nw e => k1 a ob (fun z => nw (z ▸ hLW)) e, fun a ob e nd _ => old a ob e nd⟩
  have rv := k3 [o] F₆.en.mok
  rw [num_eq, num_eq] at rv
  refine F₇.en.store (s := ⟨h₇, g, dr, t₇, os⟩) (b := .d (.list [.int (N : Int), .int ((32768 + x : Nat) : Int)])) (.inr rfl) rv fun h₈ t₈ H₈ e₈ m₈ => ?_
  have F₈ := F₇.chg H₈ ⟨e₈, m₈⟩
  show wpAny (model pw w) A (execs _ _) _ _ ⟨h₈, g, dr, t₈, os⟩
  have F₉ := F₈.norm (c := [("read", .d (.list [.int (N : Int), .int (32768 + (x : Int))])), ("mode", .d (.int (32768 + (x : Int)))), ("number", .d (.int (N : Int))), ("numbers", .d (.list (il [v0, v1, v2, v3, v4, v5, v6]))), ("orders", .d (.list (nn ORD)))]) (.cons (by
    rw [show (32768 + (x : Int)) = ((32768 + x : Nat) : Int) by push_cast; rfl]; rfl) (.cons rfl (.cons rfl (.cons rfl (.cons rfl .nil)))))
  rw [← hN] at F₉
  exact SB (nums := [v0, v1, v2, v3, v4, v5, v6]) (v6 := v6) G fS fT fP fK fF PS PT PP PK PM rfl hx hd m F₉ q
end Mine
namespace Mine
open PySem PySem.Calls PyProof.Rows
variable {w : World} {top : Heap} {mg mb : Str → Option Value}

set_option maxHeartbeats 2000000 in
/-- law gives True for every script -/
theorem law_true (G : PG top mg mb) (ft : FT top mg) (ct : CT w top mg) (rg : RG mg) (fn : ∀ i ∈ [1, 22, 25, 26, 28, 29, 30, 31, 32, 34, 35, 36, 37, 38], ∃ a, FnI top mg i a) {fl : Addr} (fL : FnI top mg 39 fl)
    {script : List Int} (hs : script.length ≤ 1000) {l : Addr} {A : Around} {h : Heap} {g : Array GenState} {dr : Drawn} {tk : Nat} {os : OsState} {E : Value → Shared → Prop} {Q : Value → Shared → Prop} (m : Rm 5 A) (hfr : A.frames = some []) (tp : Stay top h) (rv : Rd [] h (.ref l) (.list (il script)))
    (q : ∀ h' tk', Stay h h' → Q (.bool true) ⟨h', g, dr, tk', os⟩) : wpAny (model pw w) A (call (.ref fl) [.ref l]) Q E ⟨h, g, dr, tk, os⟩ := by
  obtain ⟨a1, f1⟩ := fn 1 (by decide)
  obtain ⟨a22, f22⟩ := fn 22 (by decide)
  obtain ⟨a25, f25⟩ := fn 25 (by decide)
  obtain ⟨a26, f26⟩ := fn 26 (by decide)
  obtain ⟨a28, f28⟩ := fn 28 (by decide)
  obtain ⟨a29, f29⟩ := fn 29 (by decide)
  obtain ⟨a30, f30⟩ := fn 30 (by decide)
  obtain ⟨a31, f31⟩ := fn 31 (by decide)
  obtain ⟨a32, f32⟩ := fn 32 (by decide)
  obtain ⟨a34, f34⟩ := fn 34 (by decide)
  obtain ⟨a35, f35⟩ := fn 35 (by decide)
  obtain ⟨a36, f36⟩ := fn 36 (by decide)
  obtain ⟨a37, f37⟩ := fn 37 (by decide)
  obtain ⟨a38, f38⟩ := fn 38 (by decide)
  refine def_callE (M := []) (μ := []) (V := []) (σ := [("script", .d (.list (il script)))]) (binds := [("script", .ref l)]) (ns := ["script"]) fL G.T tp m (fun _ m => nomatch m) (fun _ m => nomatch m) (.cons (b := .d _) rv .nil) (fun _ m => nomatch m) List.nodup_nil (fun _ m => nomatch m) (fun pm cd doc => rfl) rfl (by decide +kernel) fun L cd W h₁ tk₁ A' m' hL hfr' F => ?_
  have hfr₂ : A'.frames = some [envOfC (dN 39) (dS 39) L fl cd] := by rw [hfr', hfr]; rfl
  with_reducible refine SA G rg f36 f37 f35 f38 f22 f34 f26 (PF_shown G ft ct rg f36 f22 f25 f1) (PF_told G f37) (PF_paired G f35 f28 f29 f30 f32 f31) (PF_kept G f38) (PF_filemode G ft f22 f1) hs m' hfr₂ F ?_
  intro h' tk' st
  exact q h' tk' st
end Mine
namespace Mine
open PySem PySem.W PyProof.Rows

/-- a datum, read off a heap -/
def all2 (p : Value → PyData → Bool) : List Value → List PyData → Bool
  | [], ds => ds.isEmpty
  | v :: vs, ds => (match ds with
    | [] => false
    | d :: ds => p v d && all2 p vs ds)
def tupOk (o : Obj) (f : List Value → Bool) : Bool := match o with
  | ⟨.type t, none, .seq vs _, sl⟩ => t == "tuple" && sl.isEmpty && f vs.toList
  | _ => false
def atOk : PyData → Value → Bool
  | .int j, .int i _ => i == j
  | .str y, .str x _ => x == y
  | _, _ => false
def refOk (h : Heap) (p : List Value → List PyData → Bool) : PyData → Value → Bool
  | .tuple ds, .ref a => (h.get? a).any fun o => tupOk o fun vs => p vs ds
  | _, _ => false
def rdOk (h : Heap) : Nat → Value → PyData → Bool
  | 0, v, d => atOk d v
  | n + 1, v, d => atOk d v || refOk h (all2 (rdOk h n)) d v
theorem all2_rd {p : Value → PyData → Bool} {h : Heap} (hp : ∀ v d, p v d = true → Rd [] h v d) : ∀ {vs ds}, all2 p vs ds = true → RdAll [] h vs ds := by
  intro vs
  induction vs with
  | nil =>
    intro ds e
    cases ds with
    | nil => exact .nil
    | cons d ds => cases e
  | cons v vs ih =>
    intro ds e
    cases ds with
    | nil => cases e
    | cons d ds =>
      rw [all2, Bool.and_eq_true] at e
      exact .cons (hp _ _ e.1) (ih e.2)
theorem atOk_rd {h : Heap} {v : Value} {d : PyData} (e : atOk d v = true) : Rd [] h v d := by
  unfold atOk at e
  split at e
  · have := eq_of_beq e; subst this; exact .int ..
  · have := eq_of_beq e; subst this; exact .str ..
  · cases e
theorem tupOk_is {o : Obj} {f : List Value → Bool} (e : tupOk o f = true) : ∃ vs n, o = { cls := .type "tuple", data := .seq vs n } ∧ f vs.toList = true := by
  unfold tupOk at e
  split at e
  · rename_i t vs k sl
    simp only [Bool.and_eq_true, beq_iff_eq] at e
    obtain ⟨⟨rfl, e2⟩, e3⟩ := e
    have : sl = #[] := Array.isEmpty_iff.mp e2
    subst this
    exact ⟨vs, k, rfl, e3⟩
  · cases e
theorem rdOk_rd {h : Heap} : ∀ {n v d}, rdOk h n v d = true → Rd [] h v d := by
  intro n
  induction n with
  | zero => intro v d e; exact atOk_rd e
  | succ n ih =>
    intro v d e
    rw [rdOk, Bool.or_eq_true] at e
    rcases e with e | e
    · exact atOk_rd e
    · unfold refOk at e
      split at e
      · rename_i ds a
        rw [Option.any_eq_true] at e
        obtain ⟨o, g, e⟩ := e
        obtain ⟨vs, k, rfl, e3⟩ := tupOk_is e
        exact .tuple g List.not_mem_nil (all2_rd (fun v d z => ih z) e3)
      · cases e
def BN : List Str := ["len", "sum", "min", "max", "hex", "iter", "next", "range", "enumerate", "reversed", "StopIteration"]
/-- what is asked of the top: the built-ins' names are free, and the table is plain -/
def TopSays (h : Heap) : Prop := ∃ o es ep v, h.get? 3 = some o ∧ o.data = .dict es ep ∧ (∀ x ∈ BN, nsFind es x = none) ∧ nsFind es "_filemode_table" = some v ∧ Rd [] h v tabD
def esOk (h : Heap) (es : Array DictEntry) : Bool := (BN.all fun x => (nsFind es x).isNone) && ((nsFind es "_filemode_table").any fun v => rdOk h 3 v tabD)
def topOk (h : Heap) : Bool := (h.get? 3).any fun o => match o.data with
  | .dict es _ => esOk h es
  | _ => false
theorem topOk_says {h : Heap} (e : topOk h = true) : TopSays h := by
  unfold topOk at e
  rw [Option.any_eq_true] at e
  obtain ⟨o, ho, e⟩ := e
  split at e
  · rename_i es ep hd
    rw [esOk, Bool.and_eq_true, List.all_eq_true, Option.any_eq_true] at e
    obtain ⟨e1, v, hv, e2⟩ := e
    exact ⟨o, es, ep, v, ho, hd, fun x m => Option.isNone_iff_eq_none.mp (e1 x m), hv, rdOk_rd e2⟩
  · cases e
def topHook : Hook := ⟨Bool, fun s => topOk s.heap, fun _ => true, fun _ h => TopSays h, fun _ s e => topOk_says e, fun _ h h' x k =>
  let ⟨o, es, ep, v, a, b, c, d, e⟩ := x; ⟨o, es, ep, v, k _ _ a, b, c, d, e.stay k⟩⟩

theorem says_mg {h : Heap} {mg : Str → Option Value} (Y : TopSays h) (g : h.Ns mainGlobals mg) : (∀ x ∈ BN, mg x = none) ∧ FT h mg := by
  obtain ⟨o, es, ep, v, ho, hd, hn, hv, r⟩ := Y
  obtain ⟨o', es', ep', ho', hd', _, hf⟩ := g
  have ho' : h.get? 3 = some o' := ho'
  rw [ho] at ho'; cases ho'
  rw [hd] at hd'; cases hd'
  exact ⟨fun x m => by rw [← hf x]; exact hn x m, v, by rw [← hf]; exact hv, r⟩
theorem pairs_of {p p' : Program} {w : World} {es : List DictEntry} {kvs : List (Int × Value)} (x : Pairs (intKind p w) es kvs) : Pairs (intKind p' w) es kvs := by
  induction x with
  | nil => exact .nil
  | cons a b _ ih => exact .cons a b ih
theorem tab_of {p p' : Program} {w : World} {h : Heap} {d : Addr} {D : List (PyData × PyData)} (t : IntTab p w h d D) : IntTab p' w h d D := by
  obtain ⟨lo, kvs, ⟨o, es, ep, a, b, c, e, f, g⟩, hf⟩ := t
  exact ⟨lo, kvs, ⟨o, es, ep, a, b, c, e, pairs_of f, g⟩, hf⟩
theorem boots : BN.map bootBuiltins = [some (.builtin "len"), some (.builtin "sum"), some (.builtin "min"), some (.builtin "max"), some (.builtin "hex"), some (.builtin "iter"), some (.builtin "next"), some (.type "range"), some (.type "enumerate"), some (.type "reversed"), some (.type "StopIteration")] := by decide +kernel
theorem pg_of {p : Program} {loose mean mg mb h} (n : ∀ x ∈ BN, mg x = none) (T : Top p loose mean mg mb h) : PG h mg mb := by
  have b : ∀ x ∈ BN, mb x = bootBuiltins x := fun x m => T.builtins x (by
    intro z; rw [z] at m; exact absurd m (by decide +kernel))
  have key : ∀ (i : Nat) (x : Str) (v : Value), BN[i]? = some x → (BN.map bootBuiltins)[i]? = some (some v) → mg x = none ∧ mb x = some v := by
    intro i x v h1 h2
    have m := List.mem_of_getElem? h1
    rw [List.getElem?_map, h1] at h2
    exact ⟨n x m, (b x m).trans (Option.some.inj h2)⟩
  rw [boots] at key
  exact {
    T := ⟨T.g, T.b, T.nolimit, T.builtins⟩
    len := key 0 _ _ rfl rfl
    sum := key 1 _ _ rfl rfl
    min := key 2 _ _ rfl rfl
    max := key 3 _ _ rfl rfl
    hex := key 4 _ _ rfl rfl
    iter := key 5 _ _ rfl rfl
    next := key 6 _ _ rfl rfl
    range := key 7 _ _ rfl rfl
    enumerate := key 8 _ _ rfl rfl
    reversed := key 9 _ _ rfl rfl
    stop := key 10 _ _ rfl rfl }
def IX : List Nat := [1, 22, 25, 26, 28, 29, 30, 31, 32, 34, 35, 36, 37, 38, 39]
theorem fn_of {p : Program} {loose mean mg mb h} (R : ((recsOf p).map fun d => (d.name, d.params, d.body, d.scope)) = IX.map fun i => (dN i, dP i, dB i, dS i)) (T : Top p loose mean mg mb h) {i : Nat} (hi : i ∈ IX) : ∃ a, FnI h mg i a := by
  have m : (dN i, dP i, dB i, dS i) ∈ (recsOf p).map fun d => (d.name, d.params, d.body, d.scope) := by
    rw [R]; exact List.mem_map.mpr ⟨i, hi, rfl⟩
  obtain ⟨d, hd, e⟩ := List.mem_map.mp m
  injection e with e1 e
  injection e with e2 e
  injection e with e3 e4
  obtain ⟨fa, o, pm, code, doc, h1, h2, h3, h4⟩ := T.fn d hd
  rw [e1] at h1 h3 h4
  rw [e2, e3, e4] at h3
  exact ⟨fa, h1, o, pm, code, doc, h2, h3, h4⟩
theorem well_rd {P : Params} {h : Heap} {ns : List Int} : ∀ {vs}, WellAll P h vs (ofPys (ns.map .int)) → RdAll [] h vs (il ns) := by
  induction ns with
  | nil => intro vs x; cases x; exact .nil
  | cons n ns ih =>
    intro vs x
    cases x with
    | cons a r => cases a with | int i t => exact .cons (.int ..) (ih r)
theorem fin {p : Program} {w : World} {s₁ : Shared} {mg mb : Str → Option Value} {fa l : Addr} {loose mean} {xs : List Int} {Q E : Value → Shared → Prop} (R : ((recsOf p).map fun d => (d.name, d.params, d.body, d.scope)) = IX.map fun i => (dN i, dP i, dB i, dS i)) (hC : tabIntOf p "COMPILER_FLAG_NAMES" = some CFN) (hV : valOf p "S_IFREG" = some (.int 32768))
    (Y : TopSays s₁.heap) (T : Top p loose mean mg mb s₁.heap) (B : Tables p w mg s₁.heap)
    (hmg : mg "law" = some (.ref fa)) (wl : Well w.params s₁.heap (.ref l) (ofPy (.list (xs.map .int)))) (hc : xs.length ≤ 63) (q : ∀ h' tk', Stay s₁.heap h' → Q (.bool true) ⟨h', s₁.gens, s₁.drawn, tk', s₁.os⟩) :
    wpAny (model pw w) callerA (call (.ref fa) [.ref l]) Q E s₁ := by
  obtain ⟨fa', fL⟩ := fn_of R T (i := 39) (by decide)
  have e : fa' = fa := by
    have := fL.glob
    have n : dN 39 = "law" := by decide +kernel
    rw [n, hmg] at this
    injection this with this
    injection this with this
    exact this.symm
  subst e
  have rv : Rd [] s₁.heap (.ref l) (.list (il xs)) := by
    cases wl with
    | list a b => exact .list a List.not_mem_nil (by simpa using well_rd b)
  obtain ⟨n, ft⟩ := says_mg Y T.g
  obtain ⟨a, c1, c2⟩ := B.tabI _ _ hC
  obtain ⟨v, g1, g2⟩ := T.const _ _ hV
  have rg : RG mg := by
    have := g2 s₁.heap
    cases this with | int i t => exact ⟨t, g1⟩
  exact law_true (pg_of n T) ft ⟨a, c1, tab_of c2⟩ rg (fun i hi => fn_of R T (show i ∈ IX from List.mem_append_left [39] hi)) fL (by omega) ⟨rfl, by decide +kernel, by decide +kernel⟩ rfl (.refl _) rv q
theorem post_true {args ds : List WData} : (OpenRow.toRowW (OpenLaw.row PySem.Challenge.rw_un0015_01)).claim.post args (.bool true) ds = true := by
  show (WShape.has [] (WData.bool true) .bool && WTm.holds [] (.eq .res (.lit (.bool true))) { args := args, res := some (.bool true), after := ds }) = true
  rw [Bool.and_eq_true]
  refine ⟨by decide +kernel, ?_⟩
  unfold WTm.holds
  rw [w_eq_bool (w_res rfl) w_lit]
  rfl
end Mine
open PySem PySem.W PyProof.Rows
set_option maxHeartbeats 8000000 in
theorem PySem.Challenge.cw_un0015_01_holds : PySem.Challenge.rw_un0015_01.Holds := by
  w_on
  o_law
  o_head Mine.topHook
  case hw => w_witness2
  intro w s₀ s₁ mg mb G Y fa o pm cd doc dV kV ho hd' hcd hD hmg hg args vals as hpre hlay hrd hwl hlo
  have T := G.T
  have B := G.B
  clear hD hd' hcd G ho
  wrow_args hpre hlay hrd hwl hlo
  rename_i xs hs hlay0 hL1 hr1 hl2 as4 as3 l vs as0 hL ra wl r0 hI hr hc1 hc
  refine Mine.fin ?_ ?_ ?_ Y T B hmg wl (by omega) fun h' tk' st => GoodW.toG ⟨.inl ⟨_, .bool true, [], rfl, fun _ => ?_, .bool true, ?_, ?_⟩, st, rfl, hg⟩
  · kernel_rfl
  · kernel_rfl
  · kernel_rfl
  · rfl
  · exact Mine.post_true
  · exact fun _ => ⟨List.nodup_nil, fun _ m => nomatch m⟩
