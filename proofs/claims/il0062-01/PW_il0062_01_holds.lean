import PyProof.Rows.All
import Wide.All
import OpenK.AllK
import Wide.FinOn
import PySem.Challenge.RW_il0062_01
set_option Elab.async false

section
open PySem PySem.W PyProof.Rows
set_option Elab.async false
namespace Mine
section
local macro_rules | `(tactic| o_head $_) => `(tactic| assumption)
set_option maxRecDepth 100000 in
set_option maxHeartbeats 8000000 in
theorem hd (h : PySem.Challenge.rw_il0062_01.row.Holds) : PySem.Challenge.rw_il0062_01.row.Holds := by
  k_head
end
end Mine
end

section
open PySem PySem.W PyProof.Rows
set_option Elab.async false
set_option maxRecDepth 100000
namespace Mine

inductive D where
  | none
  | bool (b : Bool)
  | int (i : Int)
  | str (x : Str)
  | ty (T : String)
  | list (ds : List D)
  | tup (ds : List D)

mutual
inductive Rep (h : Heap) (ok : Addr → Prop) : Value → D → Prop
  | none : Rep h ok .none .none
  | bool (b : Bool) : Rep h ok (.bool b) (.bool b)
  | int (i : Int) (t : Tok) : Rep h ok (.int i t) (.int i)
  | str (x : Str) (t : Tok) : Rep h ok (.str x t) (.str x)
  | ty (T : String) : Rep h ok (.type T) (.ty T)
  | list {a : Addr} {vs : List Value} {ds : List D} : ok a → h.PlainList a vs.toArray → Reps h ok vs ds → Rep h ok (.ref a) (.list ds)
  | tup {a : Addr} {vs : List Value} {ds : List D} : ok a → h.IsTuple a vs.toArray → Reps h ok vs ds → Rep h ok (.ref a) (.tup ds)
inductive Reps (h : Heap) (ok : Addr → Prop) : List Value → List D → Prop
  | nil : Reps h ok [] []
  | cons {v : Value} {vs : List Value} {d : D} {ds : List D} : Rep h ok v d → Reps h ok vs ds → Reps h ok (v :: vs) (d :: ds)
end

mutual
theorem Rep.mono {h h' : Heap} {ok ok' : Addr → Prop} (hk : ∀ b o, ok b → h.get? b = some o → h'.get? b = some o) (ho : ∀ b o, ok b → h.get? b = some o → ok' b) : ∀ {v d}, Rep h ok v d → Rep h' ok' v d
  | _, _, .none => .none
  | _, _, .bool b => .bool b
  | _, _, .int i t => .int i t
  | _, _, .str x t => .str x t
  | _, _, .ty T => .ty T
  | _, _, .list oa hl r => .list (let ⟨_, e⟩ := hl; ho _ _ oa e) (hl.at fun o e => hk _ o oa e) (Reps.mono hk ho r)
  | _, _, .tup oa hl r => .tup (let ⟨o, e, _⟩ := hl; ho _ o oa e) (hl.at fun o e => hk _ o oa e) (Reps.mono hk ho r)
theorem Reps.mono {h h' : Heap} {ok ok' : Addr → Prop} (hk : ∀ b o, ok b → h.get? b = some o → h'.get? b = some o) (ho : ∀ b o, ok b → h.get? b = some o → ok' b) : ∀ {vs ds}, Reps h ok vs ds → Reps h' ok' vs ds
  | _, _, .nil => .nil
  | _, _, .cons x r => .cons (Rep.mono hk ho x) (Reps.mono hk ho r)
end

theorem Reps.length {h ok} : ∀ {vs ds}, Reps h ok vs ds → vs.length = ds.length
  | _, _, .nil => rfl
  | _, _, .cons _ r => by rw [List.length_cons, List.length_cons, Reps.length r]
theorem Reps.append {h ok} : ∀ {vs ds ws es}, Reps h ok vs ds → Reps h ok ws es → Reps h ok (vs ++ ws) (ds ++ es)
  | _, _, _, _, .nil, k => k
  | _, _, _, _, .cons x r, k => .cons x (Reps.append r k)
theorem Reps.get {h ok} : ∀ {vs ds}, Reps h ok vs ds → ∀ {i : Nat} {v : Value}, vs[i]? = some v → ∃ d, ds[i]? = some d ∧ Rep h ok v d
  | _, _, .nil, i, v, e => by simp at e
  | _, _, .cons x r, 0, v, e => by simp at e; subst e; exact ⟨_, rfl, x⟩
  | _, _, .cons x r, i + 1, v, e => by simp at e; simpa using Reps.get r e
theorem Reps.get' {h ok} : ∀ {vs ds}, Reps h ok vs ds → ∀ {i : Nat} {d : D}, ds[i]? = some d → ∃ v, vs[i]? = some v ∧ Rep h ok v d
  | _, _, .nil, i, v, e => by simp at e
  | _, _, .cons x r, 0, v, e => by simp at e; subst e; exact ⟨_, rfl, x⟩
  | _, _, .cons x r, i + 1, v, e => by simp at e; simpa using Reps.get' r e
theorem Reps.take {h ok} : ∀ {vs ds} (n : Nat), Reps h ok vs ds → Reps h ok (vs.take n) (ds.take n)
  | _, _, 0, _ => by simpa using Reps.nil
  | _, _, n + 1, .nil => by simpa using Reps.nil
  | _, _, n + 1, .cons x r => by simpa using Reps.cons x (Reps.take n r)
theorem Reps.drop {h ok} : ∀ {vs ds} (n : Nat), Reps h ok vs ds → Reps h ok (vs.drop n) (ds.drop n)
  | _, _, 0, r => by simpa using r
  | _, _, n + 1, .nil => by simpa using Reps.nil
  | _, _, n + 1, .cons x r => by simpa using Reps.drop n r

/-- a datum without an address -/
def D.atom : D → Prop
  | .list _ => False
  | .tup _ => False
  | _ => True
theorem Rep.atom {h h' ok ok'} : ∀ {v d}, d.atom → Rep h ok v d → Rep h' ok' v d
  | _, _, _, .none => .none
  | _, _, _, .bool b => .bool b
  | _, _, _, .int i t => .int i t
  | _, _, _, .str x t => .str x t
  | _, _, _, .ty T => .ty T
  | _, _, k, .list .. => k.elim
  | _, _, k, .tup .. => k.elim
theorem Reps.atoms {h h' ok ok'} : ∀ {vs ds}, (∀ d ∈ ds, d.atom) → Reps h ok vs ds → Reps h' ok' vs ds
  | _, _, _, .nil => .nil
  | _, _, k, .cons x r => .cons (x.atom (k _ (.head _))) (Reps.atoms (fun d m => k d (.tail _ m)) r)

structure Cx where
  prog : Program
  w : World
  A : Around
  env : Env
  fenv : Env
  L : Addr
  h₀ : Heap
  base : Heap
  outer : List Env
  A₀ : Around
  K : Frag
  p : Program
  loose : List Str
  mean : ExcName → Option Value
  mg : Str → Option Value
  mb : Str → Option Value
  lv : List (Str × WData)
  tz : Bool

structure Good (C : Cx) (n : Nat) : Prop where
  B : Below C.A₀ C.base C.outer C.h₀
  X : C.K.In C.h₀
  T : Top C.p C.loose C.mean C.mg C.mb C.h₀
  V : LooseAre C.lv C.mg C.h₀
  hA : C.A.frames = some (C.fenv :: C.outer)
  hf : C.fenv.frame = some C.L
  hke : C.fenv.scope.kind = .function
  hh : C.A.handled = none
  hgd : C.A.guards = some []
  room : C.A.depth + n < recursionLimit
  units : C.A.units + 20 * n + 100 < cLine
  gl : C.env.globals = mainGlobals
  bi : C.env.builtins = builtinsNs
  kd : C.env.scope.kind = .function

def VarAt (env : Env) (h : Heap) (m : Str → Option Value) (x : Str) (v : Value) : Prop :=
  (env.kindOf x = some .local ∧ m x = some v) ∨ ((env.kindOf x = some .cell ∨ (env.kindOf x = some .free ∧ (x == ("__classdict__" : Str)) = false)) ∧ ∃ c, env.cells.lookup x = some c ∧ h.IsCell c (some v))

structure Ok (C : Cx) (ρ : List (Str × D)) (s : Shared) : Prop where
  tk : C.tz = true → 0 < s.toks
  fr : ∃ m, Fr C.h₀ C.L s.heap m
  vars : ∃ m, s.heap.Ns C.env.locals m ∧ ∀ e ∈ ρ, ∃ v, VarAt C.env s.heap m e.1 v ∧ Rep s.heap (fun _ => True) v e.2

def Kp (s s' : Shared) : Prop := PySem.Keeps s s' ∧ s.toks ≤ s'.toks
theorem keeps_refl (s : Shared) : PySem.Keeps s s := ⟨s.heap, s.toks, rfl, fun _ _ e => e⟩
theorem keeps_tok {s : Shared} {tk : Tok} : PySem.Keeps s { s with toks := tk } := ⟨s.heap, tk, rfl, fun _ _ e => e⟩
theorem keeps_of {s : Shared} {h' : Heap} {tk : Tok} (k : ∀ b o, s.heap.get? b = some o → h'.get? b = some o) : PySem.Keeps s { s with heap := h', toks := tk } := ⟨h', tk, rfl, k⟩
theorem keeps_trans {a b c : Shared} (x : PySem.Keeps a b) (y : PySem.Keeps b c) : PySem.Keeps a c := by
  obtain ⟨h, t, rfl, k⟩ := x
  obtain ⟨h', t', rfl, k'⟩ := y
  exact ⟨h', t', rfl, fun b o e => k' b o (k b o e)⟩
theorem Kp.refl (s : Shared) : Kp s s := ⟨keeps_refl s, Nat.le_refl _⟩
theorem Kp.trans {a b c : Shared} (x : Kp a b) (y : Kp b c) : Kp a c := ⟨keeps_trans x.1 y.1, Nat.le_trans x.2 y.2⟩
theorem Kp.get {a b : Shared} (x : Kp a b) : ∀ p o, a.heap.get? p = some o → b.heap.get? p = some o := by
  obtain ⟨⟨h, t, rfl, k⟩, _⟩ := x; exact k
theorem Kp.none {a b : Shared} (x : Kp a b) {p : Addr} (e : b.heap.get? p = none) : a.heap.get? p = none := by
  cases q : a.heap.get? p with
  | none => rfl
  | some o => rw [x.get p o q] at e; cases e

theorem VarAt.keeps {env : Env} {h h' : Heap} {m : Str → Option Value} {x : Str} {v : Value} (k : ∀ b o, h.get? b = some o → h'.get? b = some o) (V : VarAt env h m x v) : VarAt env h' m x v := by
  rcases V with V | ⟨a, c, e, q⟩
  · exact .inl V
  · exact .inr ⟨a, c, e, q.keeps k⟩

theorem Rep.keeps {h h' : Heap} {v d} (k : ∀ b o, h.get? b = some o → h'.get? b = some o) (x : Rep h (fun _ => True) v d) : Rep h' (fun _ => True) v d := x.mono (fun b o _ e => k b o e) fun _ _ _ _ => trivial
theorem Rep.any {h ok v d} (x : Rep h ok v d) : Rep h (fun _ => True) v d := x.mono (fun _ _ _ e => e) fun _ _ _ _ => trivial
theorem Reps.any {h ok v d} (x : Reps h ok v d) : Reps h (fun _ => True) v d := x.mono (fun _ _ _ e => e) fun _ _ _ _ => trivial

theorem Ok.keeps {C ρ s s'} (x : Ok C ρ s) (k : Kp s s') : Ok C ρ s' := by
  obtain ⟨ht, ⟨m, F⟩, m', hn, hv⟩ := x
  refine ⟨fun e => Nat.lt_of_lt_of_le (ht e) k.2, ⟨m, F.keeps k.get⟩, m', hn.keeps k.get, fun e he => ?_⟩
  obtain ⟨v, V, R⟩ := hv e he
  exact ⟨v, V.keeps k.get, R.keeps k.get⟩

def okF (fr : Bool) (s : Shared) (a : Addr) : Prop := fr = true → s.heap.get? a = none

/-- what came of an evaluation from s -/
def Got (s : Shared) (fr : Bool) (d : D) (v : Value) (s' : Shared) : Prop := Kp s s' ∧ Rep s'.heap (okF fr s) v d

theorem Got.later {s s₁ : Shared} {fr d v s'} (k : Kp s s₁) (g : Got s₁ fr d v s') : Got s fr d v s' :=
  ⟨k.trans g.1, g.2.mono (fun _ _ _ e => e) fun _ _ h _ q => k.none (h q)⟩
theorem Got.read {s fr d v s'} (g : Got s fr d v s') : Got s false d v s' := ⟨g.1, g.2.mono (fun _ _ _ e => e) fun _ _ _ _ q => by cases q⟩
theorem Got.any {s fr d v s'} (g : Got s fr d v s') : Rep s'.heap (fun _ => True) v d := g.2.any

/-- the same, without the tokens: these only grow -/
def Got0 (s : Shared) (fr : Bool) (d : D) (v : Value) (s' : Shared) : Prop := PySem.Keeps s s' ∧ Rep s'.heap (okF fr s) v d
abbrev bot : Value → Shared → Prop := fun _ _ => False

theorem up {M : Model} {A : Around} {t : Sem Value} {s : Shared} {fr : Bool} {d : D} (h : wpAny M A t (Got0 s fr d) bot s) : wpAny M A t (Got s fr d) bot s :=
  wpAny_mono (wpAny_toks_of (Nat.le_refl _) h) (fun _ _ x => ⟨⟨x.2.1, x.1⟩, x.2.2⟩) fun _ _ x => x.2

def Ev (C : Cx) (ρ : List (Str × D)) (e : Expr) (d : D) (fr : Bool) : Prop := ∀ s, Ok C ρ s → wpAny (model C.prog C.w) C.A (eval e C.env) (Got s fr d) bot s
def Tr (C : Cx) (ρ : List (Str × D)) (e : Expr) (b : Bool) : Prop := ∀ s, Ok C ρ s → wpAny (model C.prog C.w) C.A (isTrue e C.env (eval e C.env)) (fun c s' => Kp s s' ∧ c = b) bot s

theorem Ev.read {C ρ e d fr} (h : Ev C ρ e d fr) : Ev C ρ e d false := fun s o => wpAny_mono (h s o) (fun _ _ g => g.read) fun _ _ x => x
theorem Ev.atom {C ρ e d fr fr'} (hd : d.atom) (h : Ev C ρ e d fr) : Ev C ρ e d fr' := fun s o => wpAny_mono (h s o) (fun _ _ g => ⟨g.1, g.2.atom hd⟩) fun _ _ x => x

section
variable {C : Cx} {ρ : List (Str × D)} {fr : Bool}

theorem Ev.int (i : Int) (k : Nat) (pos : Pos) : Ev C ρ (.Constant (.int i) k pos) (.int i) fr := fun _ _ => up (wpAny_Constant_int ⟨keeps_tok, .int _ _⟩)
theorem Ev.str (x : Str) (k : Nat) (pos : Pos) : Ev C ρ (.Constant (.str x) k pos) (.str x) fr := fun _ _ => up (wpAny_Constant_str ⟨keeps_tok, .str _ _⟩)
theorem Ev.bool (b : Bool) (k : Nat) (pos : Pos) : Ev C ρ (.Constant (.bool b) k pos) (.bool b) fr := fun s _ => wpAny_Constant_bool ⟨.refl s, .bool _⟩
theorem Ev.noneC (k : Nat) (pos : Pos) : Ev C ρ (.Constant .none k pos) .none fr := fun s _ => wpAny_Constant_none ⟨.refl s, .none⟩

theorem Ev.name {n : Nat} (G : Good C n) {x : Str} {d : D} {pos : Pos} (hm : (x, d) ∈ ρ) (hd : (x == ("__debug__" : Str)) = false := by decide) : Ev C ρ (.Name x pos) d false := fun s o => by
  obtain ⟨m, hn, hv⟩ := o.vars
  obtain ⟨v, V, R⟩ := hv _ hm
  have g : Got s false d v s := ⟨.refl s, R.mono (fun _ _ _ e => e) fun _ _ _ _ q => by cases q⟩
  rcases V with ⟨hx, hv⟩ | ⟨hx | ⟨hx, hcd⟩, c, hc, hv⟩
  · exact wpAny_Name (wpAny_loadName_local G.kd hx hn hv g) hd
  · exact wpAny_Name (wpAny_loadName_cell G.kd hx hc hv g) hd
  · exact wpAny_Name (wpAny_loadName_free G.kd hx hc hv g hcd) hd

/-- a name of the file's top -/
theorem top_name {n : Nat} (G : Good C n) {x : Str} {v : Value} {pos : Pos} (e : nsIn C.K mainGlobals x = some (some v)) (hx : C.env.kindOf x = some .globalImplicit) (hd : (x == ("__debug__" : Str)) = false := by decide)
    {s : Shared} (o : Ok C ρ s) {Q : Value → Shared → Prop} {E : Value → Shared → Prop} (h : Q v s) : wpAny (model C.prog C.w) C.A (eval (.Name x pos) C.env) Q E s := by
  obtain ⟨m, F⟩ := o.fr
  exact nameG_K F G.X (topRead_of G.T) e h G.gl G.kd hx hd
theorem built_name {n : Nat} (G : Good C n) {x : Str} {v : Value} {pos : Pos} (e : nsIn C.K mainGlobals x = some none) (hv : bootBuiltins x = some v) (hn : x ≠ "__name__") (hx : C.env.kindOf x = some .globalImplicit) (hd : (x == ("__debug__" : Str)) = false := by decide)
    {s : Shared} (o : Ok C ρ s) {Q : Value → Shared → Prop} {E : Value → Shared → Prop} (h : Q v s) : wpAny (model C.prog C.w) C.A (eval (.Name x pos) C.env) Q E s := by
  obtain ⟨m, F⟩ := o.fr
  have T := topRead_of G.T
  exact PySem.Calls.Name_function_global G.kd hx (PySem.Calls.loadGlobal_builtin (env := C.env) (by rw [G.gl]; exact T.g.keeps F.keep) (mg_none_of G.X T.g e) (by rw [G.bi]; exact T.b.keeps F.keep) ((T.builtins x hn).trans hv) h) hd
theorem Ev.topInt {n : Nat} (G : Good C n) {x : Str} {i : Int} {t : Tok} {pos : Pos} (e : nsIn C.K mainGlobals x = some (some (.int i t))) (hx : C.env.kindOf x = some .globalImplicit) (hd : (x == ("__debug__" : Str)) = false := by decide) :
    Ev C ρ (.Name x pos) (.int i) fr := fun s o => top_name G e hx hd o ⟨.refl s, .int _ _⟩

/-- two operands -/
theorem Ev.bin {l r : Expr} {op : Operator} {pos : Pos} {a b d : D} {f₁ f₂ : Bool} (hl : Ev C ρ l a f₁) (hr : Ev C ρ r b f₂)
    (h : ∀ v u s, Ok C ρ s → Rep s.heap (fun _ => True) v a → Rep s.heap (fun _ => True) u b → wpAny (model C.prog C.w) C.A (binaryOp op v u) (Got0 s fr d) bot s) : Ev C ρ (.BinOp l op r pos) d fr := fun s o =>
  wpAny_BinOp (wpAny_mono (hl s o) (fun v s₁ g₁ => wpAny_mono (hr s₁ (o.keeps g₁.1)) (fun u s₂ g₂ =>
    wpAny_mono (up (h v u s₂ ((o.keeps g₁.1).keeps g₂.1) (g₁.any.keeps g₂.1.get) g₂.any)) (fun _ _ g => g.later (g₁.1.trans g₂.1)) fun _ _ x => x) fun _ _ x => x) fun _ _ x => x)

theorem Ev.add {l r : Expr} {pos : Pos} {a b : Int} {f₁ f₂} (hl : Ev C ρ l (.int a) f₁) (hr : Ev C ρ r (.int b) f₂) : Ev C ρ (.BinOp l .Add r pos) (.int (a + b)) fr :=
  .bin hl hr fun v u s _ x y => by cases x; cases y; exact add_int ⟨keeps_tok, .int _ _⟩
theorem Ev.sub {l r : Expr} {pos : Pos} {a b : Int} {f₁ f₂} (hl : Ev C ρ l (.int a) f₁) (hr : Ev C ρ r (.int b) f₂) : Ev C ρ (.BinOp l .Sub r pos) (.int (a - b)) fr :=
  .bin hl hr fun v u s _ x y => by cases x; cases y; exact PyProof.Rows.sub_int ⟨keeps_tok, .int _ _⟩
theorem Ev.mul {l r : Expr} {pos : Pos} {a b : Int} {f₁ f₂} (hl : Ev C ρ l (.int a) f₁) (hr : Ev C ρ r (.int b) f₂) (hm : IntMulOk a b) : Ev C ρ (.BinOp l .Mult r pos) (.int (a * b)) fr :=
  .bin hl hr fun v u s _ x y => by cases x; cases y; exact PyProof.Rows.mul_int ⟨keeps_tok, .int _ _⟩ hm
theorem Ev.mod {l r : Expr} {pos : Pos} {a b : Int} {f₁ f₂} (hl : Ev C ρ l (.int a) f₁) (hr : Ev C ρ r (.int b) f₂) (hb : b ≠ 0) : Ev C ρ (.BinOp l .Mod r pos) (.int (a.fmod b)) fr :=
  .bin hl hr fun v u s _ x y => by cases x; cases y; exact mod_int' hb ⟨keeps_tok, .int _ _⟩
theorem Ev.band {l r : Expr} {pos : Pos} {a b : Int} {f₁ f₂} (hl : Ev C ρ l (.int a) f₁) (hr : Ev C ρ r (.int b) f₂) : Ev C ρ (.BinOp l .BitAnd r pos) (.int (Builtin.bitAnd a b)) fr :=
  .bin hl hr fun v u s _ x y => by cases x; cases y; exact and_int ⟨keeps_tok, .int _ _⟩
theorem Ev.fdiv {l r : Expr} {pos : Pos} {a b : Int} {f₁ f₂} (hl : Ev C ρ l (.int a) f₁) (hr : Ev C ρ r (.int b) f₂) (hb : b ≠ 0) (hp : Builtin.divisionGoesByPylong a b = false) : Ev C ρ (.BinOp l .FloorDiv r pos) (.int (a.fdiv b)) fr :=
  .bin hl hr fun v u s _ x y => by cases x; cases y; exact floordiv_int hb ⟨keeps_tok, .int _ _⟩ (.inl hp)
theorem Ev.cat {l r : Expr} {pos : Pos} {a b : Str} {f₁ f₂} (hl : Ev C ρ l (.str a) f₁) (hr : Ev C ρ r (.str b) f₂) (hs : a.length + b.length ≤ sizeLine) : Ev C ρ (.BinOp l .Add r pos) (.str (a ++ b)) fr :=
  .bin hl hr fun v u s _ x y => by cases x; cases y; exact add_str (fun _ _ => ⟨keeps_tok, .str _ _⟩) hs
end
end Mine
end

section
open PySem PySem.W PyProof.Rows
set_option Elab.async false
set_option maxRecDepth 100000
namespace Mine
section
variable {C : Cx} {ρ : List (Str × D)} {fr : Bool} {n : Nat}

theorem Good.uline (G : Good C n) : C.A.units < cLine := by have := G.units; omega

/-! comparisons -/
def Cmp (C : Cx) (op : CmpOp) (a b : D) (r : Bool) : Prop := ∀ v u s, Rep s.heap (fun _ => True) v a → Rep s.heap (fun _ => True) u b →
  ∀ Q : Value → Shared → Prop, (Q (.bool r) s) → wpAny (model C.prog C.w) C.A (compareOp op v u) Q bot s

theorem Ev.cmp {l r : Expr} {op : CmpOp} {pos : Pos} {a b : D} {f₁ f₂ k : Bool} (hl : Ev C ρ l a f₁) (hr : Ev C ρ r b f₂) (hc : Cmp C op a b k)
    (hm : behindInMarks op r = false := by with_unfolding_all rfl) : Ev C ρ (.Compare l [op] [r] pos) (.bool k) fr := fun s o =>
  wpAny_Compare1 (wpAny_mono (hl s o) (fun v s₁ g₁ => wpAny_mono (hr s₁ (o.keeps g₁.1)) (fun u s₂ g₂ =>
    hc v u s₂ (g₁.any.keeps g₂.1.get) g₂.any _ ⟨g₁.1.trans g₂.1, .bool _⟩) fun _ _ x => x) fun _ _ x => x) hm
theorem Tr.cmp {l r : Expr} {op : CmpOp} {pos : Pos} {a b : D} {f₁ f₂ k : Bool} (hl : Ev C ρ l a f₁) (hr : Ev C ρ r b f₂) (hc : Cmp C op a b k)
    (hm : behindInMarks op r = false := by with_unfolding_all rfl) : Tr C ρ (.Compare l [op] [r] pos) k := fun s o =>
  wpAny_isTrue_Compare1 (wpAny_mono (hl s o) (fun v s₁ g₁ => wpAny_mono (hr s₁ (o.keeps g₁.1)) (fun u s₂ g₂ =>
    hc v u s₂ (g₁.any.keeps g₂.1.get) g₂.any _ (wpAny_truthy_bool ⟨g₁.1.trans g₂.1, rfl⟩)) fun _ _ x => x) fun _ _ x => x) hm

theorem Cmp.eqInt (a b : Int) : Cmp C .Eq (.int a) (.int b) (a == b) := fun v u s x y Q h => by cases x; cases y; exact PyProof.Rows.eq_int h
theorem Cmp.neInt (a b : Int) : Cmp C .NotEq (.int a) (.int b) (a != b) := fun v u s x y Q h => by cases x; cases y; exact PyProof.Rows.ne_int h
theorem Cmp.leInt (a b : Int) : Cmp C .LtE (.int a) (.int b) (decide (a ≤ b)) := fun v u s x y Q h => by cases x; cases y; exact PyProof.Rows.le_int h
theorem Cmp.geInt (a b : Int) : Cmp C .GtE (.int a) (.int b) (decide (b ≤ a)) := fun v u s x y Q h => by cases x; cases y; exact PyProof.Rows.ge_int h
theorem Cmp.gtInt (a b : Int) : Cmp C .Gt (.int a) (.int b) (decide (b < a)) := fun v u s x y Q h => by cases x; cases y; exact PyProof.Rows.gt_int h
theorem Cmp.eqStr (a b : Str) : Cmp C .Eq (.str a) (.str b) (a == b) := fun v u s x y Q h => by cases x; cases y; exact PyProof.Rows.eq_str h
theorem Cmp.neStr (a b : Str) : Cmp C .NotEq (.str a) (.str b) (a != b) := fun v u s x y Q h => by cases x; cases y; exact PyProof.Rows.ne_str h
theorem Cmp.inStr (a b : Str) : Cmp C .In (.str a) (.str b) (Txt.contains b a) := fun v u s x y Q h => by cases x; cases y; exact SB.contains h
theorem Cmp.ninStr (a b : Str) : Cmp C .NotIn (.str a) (.str b) (!Txt.contains b a) := fun v u s x y Q h => by cases x; cases y; exact SB.notContains h

/-- the items of a list of ints, of texts -/
abbrev dI (ns : List Int) : List D := ns.map D.int
abbrev dS (xs : List Str) : List D := xs.map D.str
abbrev dB (xs : List Bool) : List D := xs.map D.bool

theorem Reps.ints {h ok} : ∀ {vs : List Value} {ns : List Int}, Reps h ok vs (dI ns) → IntsAre vs ns
  | [], [], .nil => .nil
  | v :: vs, m :: ns, .cons x r => by cases x; exact .cons _ _ (Reps.ints r)
theorem Reps.ofInts {h ok} : ∀ {vs : List Value} {ns : List Int}, IntsAre vs ns → Reps h ok vs (dI ns)
  | _, _, .nil => .nil
  | _, _, .cons i t r => .cons (.int i t) (Reps.ofInts r)
def tokS : Value → Str × Tok
  | .str x t => (x, t)
  | _ => (Str.empty, 0)
theorem Reps.strs {h ok} : ∀ {vs : List Value} {xs : List Str}, Reps h ok vs (dS xs) → ∃ l : List (Str × Tok), vs = strValues l ∧ l.map (·.1) = xs
  | [], [], .nil => ⟨[], rfl, rfl⟩
  | v :: vs, m :: xs, .cons x r => by
    obtain ⟨l, e1, e2⟩ := Reps.strs r
    cases x
    rename_i t
    exact ⟨(m, t) :: l, by rw [e1]; rfl, by rw [← e2]; rfl⟩
theorem Reps.ofStrs {h ok} : ∀ (l : List (Str × Tok)), Reps h ok (strValues l) (dS (l.map (·.1)))
  | [] => .nil
  | p :: r => .cons (.str p.1 p.2) (Reps.ofStrs r)

def eqI (i : Int) : Value → Bool
  | .int j _ => j == i
  | _ => false
def eqS (x : Str) : Value → Bool
  | .str y _ => y == x
  | _ => false
theorem any_eqI {h ok} (i : Int) : ∀ {vs : List Value} {ns : List Int}, Reps h ok vs (dI ns) → vs.any (eqI i) = ns.contains i
  | [], [], .nil => rfl
  | v :: vs, m :: ns, .cons x r => by
    cases x
    rw [List.any_cons, any_eqI i r, List.contains_cons]
    show ((m == i) || _) = _
    rw [Bool.beq_comm]
theorem any_eqS {h ok} (i : Str) : ∀ {vs : List Value} {ns : List Str}, Reps h ok vs (dS ns) → vs.any (eqS i) = ns.contains i
  | [], [], .nil => rfl
  | v :: vs, m :: ns, .cons x r => by
    cases x
    rw [List.any_cons, any_eqS i r, List.contains_cons]
    show ((m == i) || _) = _
    rw [Bool.beq_comm]
theorem eqAt_I {h ok} {A : Around} {s : Shared} (i : Int) (t : Tok) : ∀ {vs : List Value} {ns : List Int}, Reps h ok vs (dI ns) → ∀ y ∈ vs, SeqAt.EqAt A s y (.int i t) (eqI i y)
  | [], [], .nil => fun _ m => nomatch m
  | v :: vs, m :: ns, .cons x r => fun y hy => by
    cases hy with
    | head => cases x; exact SeqAt.EqAt.int_int _ _ _ _
    | tail _ hy => exact eqAt_I i t r y hy
theorem eqAt_S {h ok} {A : Around} {s : Shared} (i : Str) (t : Tok) : ∀ {vs : List Value} {ns : List Str}, Reps h ok vs (dS ns) → ∀ y ∈ vs, SeqAt.EqAt A s y (.str i t) (eqS i y)
  | [], [], .nil => fun _ m => nomatch m
  | v :: vs, m :: ns, .cons x r => fun y hy => by
    cases hy with
    | head => cases x; exact SeqAt.EqAt.str_str _ _ _ _
    | tail _ hy => exact eqAt_S i t r y hy

theorem Cmp.inInts (i : Int) (ns : List Int) : Cmp C .In (.int i) (.list (dI ns)) (ns.contains i) := fun v u s x y Q h => by
  cases x; cases y; rename_i t a vs _ hl r
  exact SeqAt.in_listAt (eqI i) hl.isList (fun y hy => eqAt_I i t r y (by simpa using hy)) (by rw [List.any_toArray, any_eqI i r]; exact h)
theorem Cmp.ninInts (i : Int) (ns : List Int) : Cmp C .NotIn (.int i) (.list (dI ns)) (!ns.contains i) := fun v u s x y Q h => by
  cases x; cases y; rename_i t a vs _ hl r
  exact SeqAt.notIn_listAt (eqI i) hl.isList (fun y hy => eqAt_I i t r y (by simpa using hy)) (by rw [List.any_toArray, any_eqI i r]; exact h)
theorem Cmp.inStrs (i : Str) (ns : List Str) : Cmp C .In (.str i) (.list (dS ns)) (ns.contains i) := fun v u s x y Q h => by
  cases x; cases y; rename_i t a vs _ hl r
  exact SeqAt.in_listAt (eqS i) hl.isList (fun y hy => eqAt_S i t r y (by simpa using hy)) (by rw [List.any_toArray, any_eqS i r]; exact h)
theorem Cmp.ninStrs (i : Str) (ns : List Str) : Cmp C .NotIn (.str i) (.list (dS ns)) (!ns.contains i) := fun v u s x y Q h => by
  cases x; cases y; rename_i t a vs _ hl r
  exact SeqAt.notIn_listAt (eqS i) hl.isList (fun y hy => eqAt_S i t r y (by simpa using hy)) (by rw [List.any_toArray, any_eqS i r]; exact h)

theorem eqAt_same {h ok} {A : Around} {s : Shared} : ∀ {v u : Value} {d : D}, d.atom → Rep h ok v d → Rep h ok u d → SeqAt.EqAt A s v u true
  | _, _, _, _, .none, .none => SeqAt.EqAt.same _
  | _, _, _, _, .bool b, .bool _ => SeqAt.EqAt.same _
  | _, _, _, _, .int i t, .int _ u => by simpa using SeqAt.EqAt.int_int (A := A) (s := s) i t i u
  | _, _, _, _, .str i t, .str _ u => by simpa using SeqAt.EqAt.str_str (A := A) (s := s) i t i u
  | _, _, _, _, .ty T, .ty _ => SeqAt.EqAt.same _
  | _, _, _, k, .list .., _ => k.elim
  | _, _, _, k, .tup .., _ => k.elim

theorem Cmp.eqSame (G : Good C n) (ds : List D) (ha : ∀ d ∈ ds, d.atom) : Cmp C .Eq (.list ds) (.list ds) true := fun v u s x y Q h => by
  cases x; cases y; rename_i a vs _ hl r b us _ hb q
  have e : vs.length = us.length := r.length.trans q.length.symm
  refine SeqAt.eq_listAt (e := fun _ => true) hl.isList hb.isList (by simpa using e) G.uline (fun j h1 h2 => ?_) ?e2
  have h1' : j < vs.length := by simpa using h1
  obtain ⟨d, hd, R⟩ := r.get (i := j) (v := vs[j]) (by simp [h1'])
  obtain ⟨d', hd', R'⟩ := q.get (i := j) (v := us[j]'(by omega)) (by simp)
  have : d = d' := by rw [hd] at hd'; exact Option.some.inj hd'
  subst this
  exact eqAt_same (ha d (List.mem_of_getElem? hd)) (by simpa using R) (by simpa using R')
  have e2 : ((List.range vs.toArray.size).all fun _ => true) = true := by simp
  rw [e2]; exact h
theorem Cmp.eqLen (G : Good C n) {ds es : List D} (hn : ds.length ≠ es.length) : Cmp C .Eq (.list ds) (.list es) false := fun v u s x y Q h => by
  cases x; cases y; rename_i a vs _ hl r b us _ hb q
  exact SeqAt.eq_list_lengthsAt hl.isList hb.isList (by simp [r.length, q.length, hn]) G.uline h

theorem Cmp.neSame (G : Good C n) (ds : List D) (ha : ∀ d ∈ ds, d.atom) : Cmp C .NotEq (.list ds) (.list ds) false := fun v u s x y Q h => by
  cases x; cases y; rename_i a vs _ hl r b us _ hb q
  have e : vs.length = us.length := r.length.trans q.length.symm
  refine cmp_ofNotEq (SeqAt.RcNeAt.lists (e := fun _ => true) hl.isList hb.isList (by simpa using e) G.uline (fun j h1 h2 => ?_) _ _ _ _ ?_)
  · have h1' : j < vs.length := by simpa using h1
    obtain ⟨d, hd, R⟩ := r.get (i := j) (v := vs[j]) (by simp [h1'])
    obtain ⟨d', hd', R'⟩ := q.get (i := j) (v := us[j]'(by omega)) (by simp)
    have : d = d' := by rw [hd] at hd'; exact Option.some.inj hd'
    subst this
    exact eqAt_same (ha d (List.mem_of_getElem? hd)) (by simpa using R) (by simpa using R')
  · have e2 : ((List.range vs.toArray.size).all fun _ => true) = true := by simp
    rw [e2]; exact h
theorem Cmp.neLen (G : Good C n) {ds es : List D} (hn : ds.length ≠ es.length) : Cmp C .NotEq (.list ds) (.list es) true := fun v u s x y Q h => by
  cases x; cases y; rename_i a vs _ hl r b us _ hb q
  exact cmp_ofNotEq (SeqAt.RcNeAt.lists_lengths hl.isList hb.isList (by simp [r.length, q.length, hn]) G.uline _ _ _ _ h)
end
end Mine
end

section
open PySem PySem.W PyProof.Rows
set_option Elab.async false
set_option maxRecDepth 100000
set_option linter.unusedVariables false
namespace Mine
section
variable {C : Cx} {ρ : List (Str × D)} {fr : Bool} {n : Nat}

theorem le_line {a : Nat} (h : a ≤ 16777216) : a ≤ sizeLine := by rw [sizeLine_eq]; exact h
theorem fresh_new (s : Shared) : s.heap.get? s.heap.objs.size = none := Heap.get?_none_of_le (Nat.le_refl _)

theorem up' {M : Model} {A : Around} {t : Sem Value} {s s' : Shared} {fr : Bool} {d : D} (k : Kp s s') (h : wpAny M A t (fun v s'' => PySem.Keeps s' s'' ∧ Rep s''.heap (okF fr s) v d) bot s') : wpAny M A t (Got s fr d) bot s' :=
  wpAny_mono (wpAny_toks_of (Nat.le_refl _) h) (fun _ _ x => ⟨k.trans ⟨x.2.1, x.1⟩, x.2.2⟩) fun _ _ x => x.2
theorem okF.later {s s₁ : Shared} (k : Kp s s₁) {a : Addr} (h : okF true s₁ a) : okF true s a := fun q => k.none (h q)

/-! list + list -/
theorem Ev.addL {l r : Expr} {pos : Pos} {a b : List D} {f₁ f₂ : Bool} (hl : Ev C ρ l (.list a) f₁) (hr : Ev C ρ r (.list b) f₂) (hs : a.length + b.length ≤ 16777216) (fl : ∀ d ∈ a ++ b, d.atom) :
    Ev C ρ (.BinOp l .Add r pos) (.list (a ++ b)) true := .bin hl hr fun v u s _ x y => by
  cases x; cases y; rename_i p vs _ hv R q us _ hu R'
  obtain ⟨⟨cls, dd, data, sl⟩, ho, hc, n, hd⟩ := hv.isList
  obtain ⟨⟨cls2, dd2, data2, sl2⟩, ho2, hc2, n2, hd2⟩ := hu.isList
  simp only at hc hd hc2 hd2
  subst hc hd hc2 hd2
  have e : vs.toArray ++ us.toArray = (vs ++ us).toArray := by simp
  refine PySem.concat_meets ⟨_, ho, rfl⟩ ⟨_, ho2, rfl⟩ noFill_list_add seq_list_add PySem.F.slot_list_add PySem.F.entry_list_add (PySem.F.args_list_add_2 _ _)
    (PyProof.Rows.list_addW p q vs.toArray us.toArray n n2 dd dd2 sl sl2 (by have := R.length; have := R'.length; simp only [List.size_toArray]; apply le_line; omega)) ⟨ho, ho2, ?_⟩
  rw [e]
  refine ⟨keeps_of fun b o e => Heap.get?_push_of_some _ e, .list (fun _ => fresh_new s) ⟨0, Heap.get?_push_size _ rfl⟩ ((R.append R').atoms fl)⟩

/-! displays -/
def Evs (C : Cx) (ρ : List (Str × D)) (es : List Expr) (ds : List D) (fr : Bool) : Prop := ∀ (pos : Pos) s, Ok C ρ s → ∀ Q : List Value → Shared → Prop,
  (∀ vs s', Kp s s' → Reps s'.heap (okF fr s) vs ds → Q vs s') → wpAny (model C.prog C.w) C.A (spliced (backTo pos (starEach es C.env))) Q bot s
theorem okF.laterF {s s₁ : Shared} {fr} (k : Kp s s₁) {a : Addr} (h : okF fr s₁ a) : okF fr s a := fun q => k.none (h q)
theorem Evs.nil : Evs C ρ [] [] fr := fun pos s _ Q h => args_nil (h [] s (.refl s) .nil)
theorem Evs.cons {e : Expr} {es : List Expr} {d : D} {ds : List D} (h : Ev C ρ e d fr) (r : Evs C ρ es ds fr) (he : starEach (e :: es) C.env = (false, eval e C.env) :: starEach es C.env := by rfl) : Evs C ρ (e :: es) (d :: ds) fr := fun pos s o Q hq =>
  args_cons (wpAny_mono (h s o) (fun v s₁ g => r pos s₁ (o.keeps g.1) _ fun vs s₂ k R => hq _ _ (g.1.trans k) (.cons (g.2.mono (fun b o _ e => k.get b o e) fun _ _ a _ => a) (R.mono (fun _ _ _ e => e) fun _ _ a _ => okF.laterF g.1 a))) fun _ _ x => x) he
theorem Ev.list {es : List Expr} {ds : List D} {pos : Pos} (h : Evs C ρ es ds true) (hs : ds.length ≤ 16777216 := by decide) : Ev C ρ (.List es pos) (.list ds) true := fun s o =>
  List_ (h pos s o _ fun vs s' k R => up' k (wpAny_newList ⟨keeps_of fun b o e => Heap.get?_push_of_some _ e, .list (fun _ => k.none (fresh_new s')) ⟨0, Heap.get?_push_size _ rfl⟩ (R.mono (fun b o _ e => Heap.get?_push_of_some _ e) fun b o a e => a)⟩ (by rw [R.length]; exact le_line hs)))
theorem Ev.tup {es : List Expr} {ds : List D} {k : Nat} {pos : Pos} (h : Evs C ρ es ds true) (hs : ds.length ≤ 16777216 := by decide) : Ev C ρ (.Tuple es k pos) (.tup ds) true := fun s o =>
  Tuple_ (h pos s o _ fun vs s' k R => up' k (wpAny_newObj_type ⟨keeps_of fun b o e => Heap.get?_push_of_some _ e, .tup (fun _ => k.none (fresh_new s')) ⟨_, Heap.get?_push_size _ rfl, rfl, 0, rfl⟩ (R.mono (fun b o _ e => Heap.get?_push_of_some _ e) fun b o a e => a)⟩ (by show vs.toArray.size ≤ sizeLine; rw [List.size_toArray, R.length]; exact le_line hs)))

theorem foldl_app (items : Array Value) : ∀ (k : Nat) (z : Array Value), List.foldl (fun x1 x2 => x1 ++ x2) z (List.replicate k items) = (z.toList ++ (List.replicate k items.toList).flatten).toArray
  | 0, z => by simp
  | k + 1, z => by
    rw [List.replicate_succ, List.foldl_cons, foldl_app items k]
    simp [List.replicate_succ]
theorem Reps.rep {h ok} {v : Value} {d : D} (x : Rep h ok v d) : ∀ k : Nat, Reps h ok (List.replicate k v) (List.replicate k d)
  | 0 => .nil
  | k + 1 => .cons x (Reps.rep x k)
theorem flat_one {α : Type} (v : α) : ∀ k : Nat, (List.replicate k [v]).flatten = List.replicate k v
  | 0 => rfl
  | k + 1 => by rw [List.replicate_succ, List.flatten_cons, flat_one v k]; rfl

/-- [a] * k -/
theorem Ev.rep {e r : Expr} {p pos : Pos} {a k : Int} {f₁ f₂ : Bool} (he : Ev C ρ e (.int a) f₁) (hr : Ev C ρ r (.int k) f₂) (h0 : 0 ≤ k) (h1 : k ≤ 16777216)
    (hse : starEach [e] C.env = [(false, eval e C.env)] := by rfl) : Ev C ρ (.BinOp (.List [e] p) .Mult r pos) (.list (List.replicate k.toNat (.int a))) true := fun s o => by
  refine wpAny_BinOp (List_ (args_cons (wpAny_mono (he s o) (fun v s₁ g => ?_) fun _ _ x => x) hse))
  refine args_nil (wpAny_newList ?_ (by apply le_line; simp))
  have k2 : Kp s₁ { s₁ with heap := s₁.heap.push { cls := .type "list", data := .seq [v].toArray } } := ⟨keeps_of fun b o e => Heap.get?_push_of_some _ e, Nat.le_refl _⟩
  refine wpAny_mono (hr _ ((o.keeps g.1).keeps k2)) (fun u s₃ g₃ => ?_) fun _ _ x => x
  have ho : s₃.heap.get? s₁.heap.objs.size = some { cls := .type "list", dict := none, data := .seq [v].toArray 0, slots := #[] } := g₃.1.get _ _ (Heap.get?_push_size _ rfl)
  have hu := g₃.2
  have kk := (g.1.trans k2).trans g₃.1
  refine up' kk ?_
  cases hu; rename_i u
  refine wpAny_binaryOp_repeat_ref (T := "list") (U := "int") (by decide) ⟨_, ho, rfl⟩ (fun s' => typeIs_int s' k u) noFill_list_mul PySem.F.fills_int_mul PySem.F.slot_int_rmul repeat_list PySem.F.slot_int_index.lookup
    (call_meets PySem.F.slot_int_rmul (typeIs_int s₃ k u) PySem.F.entry_int_rmul (PySem.F.args_int_rmul_2 _ _) (int___rmul___int_list k u s₁.heap.objs.size [v].toArray 0)
      ⟨ho, rfl, ⟨_, ho, rfl⟩, call_meets PySem.F.slot_list_mul ⟨_, ho, rfl⟩ PySem.F.entry_list_mul (PySem.F.args_list_mul_2 _ _)
        (AutoListH.list___mul___list_int_3 s₁.heap.objs.size [v].toArray 0 k u (by simp [Builtin.List.listFitsIndex]; omega) (by simp; omega) (by simp [Builtin.List.listTooLong, sizeLine]; omega))
        ⟨ho, ?_⟩⟩)
  refine ⟨keeps_of fun b o e => Heap.get?_push_of_some _ e, ?_⟩
  rw [foldl_app]
  simp only [List.nil_append, flat_one]
  refine .list (fun _ => kk.none (fresh_new s₃)) ⟨0, (Heap.get?_push_size _ rfl).trans ?_⟩ (Reps.rep (Rep.atom (d := .int a) trivial g.2) k.toNat)
  simp

theorem Ev.neg {e : Expr} {pos : Pos} {a : Int} {f₁ : Bool} (he : Ev C ρ e (.int a) f₁) : Ev C ρ (.UnaryOp .USub e pos) (.int (-a)) fr := fun s o =>
  wpAny_UnaryOp (wpAny_mono (he s o) (fun v s₁ g => by
    have x := g.2
    cases x
    exact up' g.1 (PyProof.Rows.neg_int ⟨keeps_tok, .int _ _⟩)) fun _ _ x => x)

/-! items -/
theorem Ev.idx {l i : Expr} {pos : Pos} {ds : List D} {k : Int} {d : D} {f₁ f₂ : Bool} (hl : Ev C ρ l (.list ds) f₁) (hi : Ev C ρ i (.int k) f₂) (h0 : 0 ≤ k) (hk : ds[k.toNat]? = some d) (hb : k < 2 ^ 63)
    (hs : ∀ o u, subscripted i false o u = operate [o, u] (getItem o u) := by intro _ _; rfl) : Ev C ρ (.Subscript l i pos) d false := fun s o =>
  Subscript_ (wpAny_mono (hl s o) (fun v s₁ g₁ => wpAny_mono (hi s₁ (o.keeps g₁.1)) (fun u s₂ g₂ => by
    have x := g₁.any.keeps g₂.1.get
    have y := g₂.2
    cases x; cases y; rename_i a vs _ hl R t
    obtain ⟨v, hv, Rv⟩ := R.get' hk
    exact tail_any hl.isList.typeIs slot_list_getitem.lookup (wpAny_getItem_list hl.isList h0 hb (by simpa using hv) ⟨g₁.1.trans g₂.1, Rv.mono (fun _ _ _ e => e) fun _ _ _ _ q => by cases q⟩) (hs _ _)) fun _ _ x => x) fun _ _ x => x)
theorem Ev.last {l i : Expr} {pos : Pos} {ds : List D} {d : D} {f₁ f₂ : Bool} (hl : Ev C ρ l (.list ds) f₁) (hi : Ev C ρ i (.int (-1)) f₂) (hk : ds.getLast? = some d)
    (hs : ∀ o u, subscripted i false o u = operate [o, u] (getItem o u) := by intro _ _; rfl) : Ev C ρ (.Subscript l i pos) d false := fun s o =>
  Subscript_ (wpAny_mono (hl s o) (fun v s₁ g₁ => wpAny_mono (hi s₁ (o.keeps g₁.1)) (fun u s₂ g₂ => by
    have x := g₁.any.keeps g₂.1.get
    have y := g₂.2
    cases x; cases y; rename_i a vs _ hl R t
    have hne : 0 < ds.length := by cases ds with
      | nil => simp at hk
      | cons => simp
    have hk' : ds[ds.length - 1]? = some d := by rw [← List.getLast?_eq_getElem?]; exact hk
    obtain ⟨v, hv, Rv⟩ := R.get' hk'
    have hn := R.length
    exact tail_any hl.isList.typeIs slot_list_getitem.lookup (wpAny_getItem_list_neg hl.isList (by decide) (by simp only [List.size_toArray]; omega) (by decide) (x := v) (by
      have e : (-1 + ((List.toArray vs).size : Int)).toNat = ds.length - 1 := by simp only [List.size_toArray]; omega
      rw [e]; simpa using hv) ⟨g₁.1.trans g₂.1, Rv.mono (fun _ _ _ e => e) fun _ _ _ _ q => by cases q⟩) (hs _ _)) fun _ _ x => x) fun _ _ x => x)

/-! slices of lists -/
theorem Ev.upto {l : Expr} {pos p : Pos} {u : Expr} {ds : List D} {k : Nat} {f₁ f₂ : Bool} (hl : Ev C ρ l (.list ds) f₁) (hu : Ev C ρ u (.int k) f₂) (fl : ∀ d ∈ ds, d.atom) (hsz : ds.length ≤ 16777216) :
    Ev C ρ (.Subscript l (.Slice none (some u) none p) pos) (.list (ds.take k)) true := fun s o =>
  Subscript_ (wpAny_mono (hl s o) (fun v s₁ g₁ => wpAny_Slice (wpAny_evalPart_none (wpAny_evalPart_some (wpAny_mono (hu s₁ (o.keeps g₁.1)) (fun w s₂ g₂ => wpAny_evalPart_none (by
    have x := g₁.any.keeps g₂.1.get
    have y := g₂.2
    cases x; cases y; rename_i a vs _ hl R t
    have k2 : Kp s₂ { s₂ with heap := s₂.heap.push { cls := .type "slice", data := .fields #[.none, .int k t, .none] } } := ⟨keeps_of fun b o e => Heap.get?_push_of_some _ e, Nat.le_refl _⟩
    have hn := R.length
    have kk := (g₁.1.trans g₂.1).trans k2
    refine up' kk (tail_any (ops := [.ref s₂.heap.objs.size, .ref a]) (Heap.IsList.typeIs (s := { s₂ with heap := s₂.heap.push { cls := .type "slice", data := .fields #[.none, .int k t, .none] } }) (hl.isList.push _)) slot_list_getitem.lookup
      (wpAny_getItem_list_slice (hl.isList.push _) (Heap.IsSliceOf.new ..) .none (.int k t) .none (by simp) ?_ (by apply le_line; simp only [List.size_toArray]; omega)) rfl)
    refine ⟨keeps_of fun b o e => Heap.get?_push_of_some _ e, ?_⟩
    rw [slicePick_upto']
    exact .list (fun _ => kk.none (fresh_new _)) ⟨0, Heap.get?_push_size _ rfl⟩ ((R.take k).atoms fun d m => fl d (List.mem_of_mem_take m)))) fun _ _ x => x)))) fun _ _ x => x)
theorem Ev.from {l : Expr} {pos p : Pos} {u : Expr} {ds : List D} {k : Nat} {f₁ f₂ : Bool} (hl : Ev C ρ l (.list ds) f₁) (hu : Ev C ρ u (.int k) f₂) (fl : ∀ d ∈ ds, d.atom) (hsz : ds.length ≤ 16777216) :
    Ev C ρ (.Subscript l (.Slice (some u) none none p) pos) (.list (ds.drop k)) true := fun s o =>
  Subscript_ (wpAny_mono (hl s o) (fun v s₁ g₁ => wpAny_Slice (wpAny_evalPart_some (wpAny_mono (hu s₁ (o.keeps g₁.1)) (fun w s₂ g₂ => wpAny_evalPart_none (wpAny_evalPart_none (by
    have x := g₁.any.keeps g₂.1.get
    have y := g₂.2
    cases x; cases y; rename_i a vs _ hl R t
    have k2 : Kp s₂ { s₂ with heap := s₂.heap.push { cls := .type "slice", data := .fields #[.int k t, .none, .none] } } := ⟨keeps_of fun b o e => Heap.get?_push_of_some _ e, Nat.le_refl _⟩
    have hn := R.length
    have kk := (g₁.1.trans g₂.1).trans k2
    refine up' kk (tail_any (ops := [.ref s₂.heap.objs.size, .ref a]) (Heap.IsList.typeIs (s := { s₂ with heap := s₂.heap.push { cls := .type "slice", data := .fields #[.int k t, .none, .none] } }) (hl.isList.push _)) slot_list_getitem.lookup
      (wpAny_getItem_list_slice (hl.isList.push _) (Heap.IsSliceOf.new ..) (.int k t) .none .none (by simp) ?_ (by apply le_line; simp only [List.size_toArray]; omega)) rfl)
    refine ⟨keeps_of fun b o e => Heap.get?_push_of_some _ e, ?_⟩
    rw [slicePick_from']
    exact .list (fun _ => kk.none (fresh_new _)) ⟨0, Heap.get?_push_size _ rfl⟩ ((R.drop k).atoms fun d m => fl d (List.mem_of_mem_drop m))))) fun _ _ x => x))) fun _ _ x => x)
end
end Mine
end

section
open PySem PySem.W PyProof.Rows
set_option Elab.async false
set_option maxRecDepth 100000
set_option linter.unusedVariables false
namespace Mine
section
variable {C : Cx} {ρ : List (Str × D)} {fr : Bool} {n : Nat}

/-! tests -/
theorem Tr.strT {e : Expr} {x : Str} {f : Bool} (he : Ev C ρ e (.str x) f) (hx : x.length ≤ 16777216) (ht : isTrue e C.env (eval e C.env) = (do let v ← eval e C.env; standAt e.pos; holding [v] (truthy v)) := by rfl) : Tr C ρ e ((x.length : Int) != 0) := fun s o =>
  wpAny_isTrue_value (wpAny_mono (he s o) (fun v s₁ g => by
    have y := g.2
    cases y
    exact PySem.P.truthy_str (by omega) ⟨⟨keeps_trans g.1.1 keeps_tok, Nat.le_trans g.1.2 (by show s₁.toks ≤ s₁.toks + 1 + 1; omega)⟩, rfl⟩) fun _ _ x => x) ht
theorem Tr.boolT {e : Expr} {b : Bool} {f : Bool} (he : Ev C ρ e (.bool b) f) (ht : isTrue e C.env (eval e C.env) = (do let v ← eval e C.env; standAt e.pos; holding [v] (truthy v)) := by rfl) : Tr C ρ e b := fun s o =>
  wpAny_isTrue_value (wpAny_mono (he s o) (fun v s₁ g => by
    have y := g.2
    cases y
    exact wpAny_truthy_bool ⟨g.1, rfl⟩) fun _ _ x => x) ht
theorem Tr.not {e : Expr} {pos : Pos} {b : Bool} (he : Tr C ρ e b) : Tr C ρ (.UnaryOp .Not e pos) (!b) := fun s o =>
  wpAny_isTrue_Not (wpAny_mono (he s o) (fun v s₁ g => ⟨g.1, by rw [g.2]⟩) fun _ _ x => x)
theorem Tr.andF {a b : Expr} {pos : Pos} (ha : Tr C ρ a false) : Tr C ρ (.BoolOp .And [a, b] pos) false := fun s o =>
  wpAny_isTrue_BoolOp (wpAny_allTrue_And_cons (wpAny_mono (ha s o) (fun v s₁ g => by obtain ⟨k, rfl⟩ := g; exact ⟨k, rfl⟩) fun _ _ x => x))
theorem Tr.andT {a b : Expr} {pos : Pos} {r : Bool} (ha : Tr C ρ a true) (hb : Tr C ρ b r) : Tr C ρ (.BoolOp .And [a, b] pos) r := fun s o =>
  wpAny_isTrue_BoolOp (wpAny_allTrue_And_cons (wpAny_mono (ha s o) (fun v s₁ g => by
    obtain ⟨k, rfl⟩ := g
    exact wpAny_allTrue_And_cons (wpAny_mono (hb s₁ (o.keeps k)) (fun v s₂ g₂ => by
      obtain ⟨k2, rfl⟩ := g₂
      cases v
      · exact ⟨k.trans k2, rfl⟩
      · exact wpAny_allTrue_And_nil ⟨k.trans k2, rfl⟩) fun _ _ x => x)) fun _ _ x => x))
theorem Tr.orT {a b : Expr} {pos : Pos} (ha : Tr C ρ a true) : Tr C ρ (.BoolOp .Or [a, b] pos) true := fun s o =>
  wpAny_isTrue_BoolOp (wpAny_allTrue_Or_cons (wpAny_mono (ha s o) (fun v s₁ g => by obtain ⟨k, rfl⟩ := g; exact ⟨k, rfl⟩) fun _ _ x => x))
theorem Tr.orF {a b : Expr} {pos : Pos} {r : Bool} (ha : Tr C ρ a false) (hb : Tr C ρ b r) : Tr C ρ (.BoolOp .Or [a, b] pos) r := fun s o =>
  wpAny_isTrue_BoolOp (wpAny_allTrue_Or_cons (wpAny_mono (ha s o) (fun v s₁ g => by
    obtain ⟨k, rfl⟩ := g
    exact wpAny_allTrue_Or_cons (wpAny_mono (hb s₁ (o.keeps k)) (fun v s₂ g₂ => by
      obtain ⟨k2, rfl⟩ := g₂
      cases v
      · exact wpAny_allTrue_Or_nil ⟨k.trans k2, rfl⟩
      · exact ⟨k.trans k2, rfl⟩) fun _ _ x => x)) fun _ _ x => x))

theorem Ev.ite {t b e : Expr} {pos : Pos} {c : Bool} {d : D} (ht : Tr C ρ t c) (hb : c = true → Ev C ρ b d fr) (he : c = false → Ev C ρ e d fr) : Ev C ρ (.IfExp t b e pos) d fr := fun s o =>
  wpAny_IfExp (wpAny_mono (ht s o) (fun v s₁ g => by
    obtain ⟨k, rfl⟩ := g
    cases v
    · exact wpAny_mono (he rfl s₁ (o.keeps k)) (fun _ _ g => g.later k) fun _ _ x => x
    · exact wpAny_mono (hb rfl s₁ (o.keeps k)) (fun _ _ g => g.later k) fun _ _ x => x) fun _ _ x => x)

/-! slices of texts -/
def KeptS (s : Shared) (h : Heap) : Prop := ∀ b o, s.heap.get? b = some o → h.get? b = some o
theorem keptS (s : Shared) : KeptH (KeptS s) := fun h ob k b o e => Heap.get?_push_of_some _ (k b o e)
theorem Ev.sSS {l a b : Expr} {pos p : Pos} {x : Str} {i j : Int} {f₁ f₂ f₃ : Bool} (hl : Ev C ρ l (.str x) f₁) (ha : Ev C ρ a (.int i) f₂) (hb : Ev C ρ b (.int j) f₃) (hx : x.length ≤ 16777216) :
    Ev C ρ (.Subscript l (.Slice (some a) (some b) none p) pos) (.str (Txt.slice x (some i) (some j))) fr := fun s o =>
  Subscript_ (wpAny_mono (hl s o) (fun v s₁ g₁ => wpAny_Slice (wpAny_evalPart_some (wpAny_mono (ha s₁ (o.keeps g₁.1)) (fun u s₂ g₂ => wpAny_evalPart_some (wpAny_mono (hb s₂ ((o.keeps g₁.1).keeps g₂.1)) (fun w s₃ g₃ => wpAny_evalPart_none (by
    have x1 := g₁.2; have x2 := g₂.2; have x3 := g₃.2
    cases x1; cases x2; cases x3
    rename_i t u w
    have kk := (g₁.1.trans g₂.1).trans g₃.1
    have k2 : Kp s₃ { s₃ with heap := s₃.heap.push { cls := .type "slice", data := .fields #[.int i u, .int j w, .none] } } := ⟨keeps_of fun b o e => Heap.get?_push_of_some _ e, Nat.le_refl _⟩
    obtain ⟨T, id, h1, h2, h3⟩ := SBH.sliceItem_ss (prog := C.prog) (w := C.w) (A := C.A) (E := bot) (P := KeptS s₃) (s := s₃) (x := x) (t := t) (i := i) (j := j) (ui := u) (uj := w) (Q := fun v s'' => PySem.Keeps s₃ s'' ∧ Rep s''.heap (okF fr s) v (.str (Txt.slice x (some i) (some j)))) (keptS _) (fun _ _ e => e) (fun h' t' k hk => ⟨keeps_of hk, .str _ _⟩) (le_line hx)
    have h4 := tail_any (value := l) (slice := .Slice (some a) (some b) none p) (ops := [.ref s₃.heap.objs.size, .str x t]) h2 h1 h3 rfl
    exact wpAny_mono (wpAny_toks_of (Nat.le_refl _) h4) (fun _ _ y => ⟨kk.trans ⟨y.2.1, y.1⟩, y.2.2⟩) fun _ _ y => y.2)) fun _ _ x => x)) fun _ _ x => x))) fun _ _ x => x)
theorem Ev.sFrom {l a : Expr} {pos p : Pos} {x : Str} {i : Int} {f₁ f₂ : Bool} (hl : Ev C ρ l (.str x) f₁) (ha : Ev C ρ a (.int i) f₂) (hx : x.length ≤ 16777216) :
    Ev C ρ (.Subscript l (.Slice (some a) none none p) pos) (.str (Txt.slice x (some i) none)) fr := fun s o =>
  Subscript_ (wpAny_mono (hl s o) (fun v s₁ g₁ => wpAny_Slice (wpAny_evalPart_some (wpAny_mono (ha s₁ (o.keeps g₁.1)) (fun u s₃ g₃ => wpAny_evalPart_none (wpAny_evalPart_none (by
    have x1 := g₁.2; have x3 := g₃.2
    cases x1; cases x3
    rename_i t u
    have kk := g₁.1.trans g₃.1
    obtain ⟨T, id, h1, h2, h3⟩ := SBH.sliceItem_sn (prog := C.prog) (w := C.w) (A := C.A) (E := bot) (P := KeptS s₃) (s := s₃) (x := x) (t := t) (i := i) (ui := u) (Q := fun v s'' => PySem.Keeps s₃ s'' ∧ Rep s''.heap (okF fr s) v (.str (Txt.slice x (some i) none))) (keptS _) (fun _ _ e => e) (fun h' t' k hk => ⟨keeps_of hk, .str _ _⟩) (le_line hx)
    have h4 := tail_any (value := l) (slice := .Slice (some a) none none p) (ops := [.ref s₃.heap.objs.size, .str x t]) h2 h1 h3 rfl
    exact wpAny_mono (wpAny_toks_of (Nat.le_refl _) h4) (fun _ _ y => ⟨kk.trans ⟨y.2.1, y.1⟩, y.2.2⟩) fun _ _ y => y.2))) fun _ _ x => x))) fun _ _ x => x)
theorem Ev.sUpto {l a : Expr} {pos p : Pos} {x : Str} {i : Int} {f₁ f₂ : Bool} (hl : Ev C ρ l (.str x) f₁) (ha : Ev C ρ a (.int i) f₂) (hx : x.length ≤ 16777216) :
    Ev C ρ (.Subscript l (.Slice none (some a) none p) pos) (.str (Txt.slice x none (some i))) fr := fun s o =>
  Subscript_ (wpAny_mono (hl s o) (fun v s₁ g₁ => wpAny_Slice (wpAny_evalPart_none (wpAny_evalPart_some (wpAny_mono (ha s₁ (o.keeps g₁.1)) (fun u s₃ g₃ => wpAny_evalPart_none (by
    have x1 := g₁.2; have x3 := g₃.2
    cases x1; cases x3
    rename_i t u
    have kk := g₁.1.trans g₃.1
    obtain ⟨T, id, h1, h2, h3⟩ := SBH.sliceItem_ns (prog := C.prog) (w := C.w) (A := C.A) (E := bot) (P := KeptS s₃) (s := s₃) (x := x) (t := t) (j := i) (uj := u) (Q := fun v s'' => PySem.Keeps s₃ s'' ∧ Rep s''.heap (okF fr s) v (.str (Txt.slice x none (some i)))) (keptS _) (fun _ _ e => e) (fun h' t' k hk => ⟨keeps_of hk, .str _ _⟩) (le_line hx)
    have h4 := tail_any (value := l) (slice := .Slice none (some a) none p) (ops := [.ref s₃.heap.objs.size, .str x t]) h2 h1 h3 rfl
    exact wpAny_mono (wpAny_toks_of (Nat.le_refl _) h4) (fun _ _ y => ⟨kk.trans ⟨y.2.1, y.1⟩, y.2.2⟩) fun _ _ y => y.2)) fun _ _ x => x)))) fun _ _ x => x)

/-! methods of texts -/
def MethEq (env : Env) (o : Expr) (name : Str) (apos : Pos) (args : List Expr) (pos : Pos) (pl : Sem Bool) : Prop := eval (.Call (.Attribute o name apos) args [] pos) env = (do
      let ov ← eval o env
      standAt apos.atName
      let (f, first) ← holding [ov] (getMethod ov name pl)
      callWith pos f first (backTo pos (starEach args env)) [])

theorem Ev.meth1 {o e : Expr} {name : Str} {apos pos : Pos} {id : String} {pl : Sem Bool} {x : Str} {a d : D} {f₁ f₂ : Bool} (ho : Ev C ρ o (.str x) f₁) (he : Ev C ρ e a f₂)
    (hg : ∀ t s (Q : Value × List Value → Shared → Prop), Q (.builtin id, [.str x t]) s → wpAny (model C.prog C.w) C.A (getMethod (.str x t) name pl) Q bot s)
    (hc : ∀ t v s, Ok C ρ s → Rep s.heap (fun _ => True) v a → wpAny (model C.prog C.w) C.A (call (.builtin id) [.str x t, v]) (Got0 s fr d) bot s)
    (hm : MethEq C.env o name apos [e] pos pl) (hse : starEach [e] C.env = [(false, eval e C.env)] := by rfl) : Ev C ρ (.Call (.Attribute o name apos) [e] [] pos) d fr := fun s k =>
  MethodCall_ (wpAny_mono (ho s k) (fun v s₁ g₁ => by
    have y := g₁.2
    cases y
    rename_i t
    refine hg t s₁ _ (callWith_method1 (args_cons (wpAny_mono (he s₁ (k.keeps g₁.1)) (fun u s₂ g₂ => args_nil ?_) fun _ _ x => x) hse) hse rfl)
    exact wpAny_mono (up (hc t u s₂ ((k.keeps g₁.1).keeps g₂.1) g₂.any)) (fun _ _ g => g.later (g₁.1.trans g₂.1)) fun _ _ x => x) fun _ _ x => x) hm

theorem Ev.startswith {o e : Expr} {apos pos : Pos} {pl : Sem Bool} {x y : Str} {f₁ f₂ : Bool} (ho : Ev C ρ o (.str x) f₁) (he : Ev C ρ e (.str y) f₂) (hm : MethEq C.env o "startswith" apos [e] pos pl) (hse : starEach [e] C.env = [(false, eval e C.env)] := by rfl) :
    Ev C ρ (.Call (.Attribute o "startswith" apos) [e] [] pos) (.bool (Txt.startswith x y)) fr :=
  .meth1 ho he (fun t s Q h => GM.startswith h) (fun t v s _ R => by cases R; exact SC.startswith ⟨keeps_refl s, .bool _⟩) hm hse
theorem Ev.endswith {o e : Expr} {apos pos : Pos} {pl : Sem Bool} {x y : Str} {f₁ f₂ : Bool} (ho : Ev C ρ o (.str x) f₁) (he : Ev C ρ e (.str y) f₂) (hm : MethEq C.env o "endswith" apos [e] pos pl) (hse : starEach [e] C.env = [(false, eval e C.env)] := by rfl) :
    Ev C ρ (.Call (.Attribute o "endswith" apos) [e] [] pos) (.bool (Txt.endswith x y)) fr :=
  .meth1 ho he (fun t s Q h => GM.endswith h) (fun t v s _ R => by cases R; exact SC.endswith ⟨keeps_refl s, .bool _⟩) hm hse
theorem Ev.rfind {o e : Expr} {apos pos : Pos} {pl : Sem Bool} {x y : Str} {f₁ f₂ : Bool} (ho : Ev C ρ o (.str x) f₁) (he : Ev C ρ e (.str y) f₂) (hm : MethEq C.env o "rfind" apos [e] pos pl) (hse : starEach [e] C.env = [(false, eval e C.env)] := by rfl) :
    Ev C ρ (.Call (.Attribute o "rfind" apos) [e] [] pos) (.int (Txt.rfind x y)) fr :=
  .meth1 ho he (fun t s Q h => GM.rfind h) (fun t v s _ R => by cases R; exact SC.rfind ⟨keeps_tok, .int _ _⟩) hm hse
theorem Ev.rstrip {o e : Expr} {apos pos : Pos} {pl : Sem Bool} {x y : Str} {f₁ f₂ : Bool} (ho : Ev C ρ o (.str x) f₁) (he : Ev C ρ e (.str y) f₂) (hx : x.length ≤ 16777216) (hm : MethEq C.env o "rstrip" apos [e] pos pl) (hse : starEach [e] C.env = [(false, eval e C.env)] := by rfl) :
    Ev C ρ (.Call (.Attribute o "rstrip" apos) [e] [] pos) (.str (Txt.rstripChars x y)) fr :=
  .meth1 ho he (fun t s Q h => GM.rstrip h) (fun t v s _ R => by cases R; exact SC.rstripChars (fun _ _ => ⟨keeps_tok, .str _ _⟩) (le_line hx)) hm hse
theorem split_at {prog : Program} {w : World} {A : Around} {x y : Str} {t u : Tok} {s : Shared} (hy : (y.length == 0) = false) (hsz : x.length + 2 ≤ sizeLine) {Q : Value → Shared → Prop} {E : Value → Shared → Prop}
    (h : ∀ l k, l.map (·.1) = Txt.split x y → Q (.ref s.heap.objs.size) { s with heap := s.heap.push { cls := .type "list", data := .seq (strValues l).toArray }, toks := k }) :
    wpAny (model prog w) A (call (.builtin "str.split") [.str x t, .str y u]) Q E s := by
  have hn : (Builtin.Str.partsBetween x (Builtin.Str.occurrences x y 0 x.length (x.length + 1)) y.length).length ≤ sizeLine := by
    have e1 := StrLaws.occ_length_le x y 0 x.length (x.length + 1)
    rw [length_partsBetween]; omega
  cases h1 : (decide (x.length < y.length) || decide (Builtin.Str.strKind x < Builtin.Str.strKind y))
  · cases hf : (Builtin.Str.occurrences x y 0 x.length (x.length + 1)).isEmpty
    · refine call_meets PySem.F.slot_str_split (typeIs_str _ _ _) PySem.F.entry_str_split (PySem.F.args_str_split_2 _ _) (meets_str_split_sep x y t u h1 hy hf (by omega) hn) ?_
      show wants Q E _ { s with toks := _, heap := s.heap.push { cls := .type "list", data := .seq (strsFrom s.toks (Builtin.Str.partsBetween x (Builtin.Str.occurrences x y 0 x.length (x.length + 1)) y.length)).toArray } }
      rw [strsFrom_eq]
      exact h (numbered s.toks _) _ ((numbered_texts _ _).trans ((if_neg (ne_true_of_eq_false h1)).trans (if_neg (ne_true_of_eq_false hf))).symm)
    · exact call_meets PySem.F.slot_str_split (typeIs_str _ _ _) PySem.F.entry_str_split (PySem.F.args_str_split_2 _ _) (meets_str_split_not_found x y t u h1 hy hf)
        (h [(x, t)] s.toks ((if_neg (ne_true_of_eq_false h1)).trans (if_pos hf)).symm)
  · exact call_meets PySem.F.slot_str_split (typeIs_str _ _ _) PySem.F.entry_str_split (PySem.F.args_str_split_2 _ _) (meets_str_split_cannot_occur x y t u h1)
      (h [(x, t)] s.toks (if_pos h1).symm)
theorem Ev.split {o e : Expr} {apos pos : Pos} {pl : Sem Bool} {x y : Str} {f₁ f₂ : Bool} (ho : Ev C ρ o (.str x) f₁) (he : Ev C ρ e (.str y) f₂) (hx : x.length + 2 ≤ 16777216) (hy : (y.length == 0) = false) (hm : MethEq C.env o "split" apos [e] pos pl) (hse : starEach [e] C.env = [(false, eval e C.env)] := by rfl) :
    Ev C ρ (.Call (.Attribute o "split" apos) [e] [] pos) (.list (dS (Txt.split x y))) true :=
  .meth1 ho he (fun t s Q h => GM.split h) (fun t v s _ R => by
    cases R
    refine split_at hy (le_line hx) fun l k e1 => ⟨keeps_of fun b o e => Heap.get?_push_of_some _ e, ?_⟩
    rw [← e1]
    exact .list (fun _ => fresh_new s) ⟨0, Heap.get?_push_size _ rfl⟩ (Reps.ofStrs l)) hm hse
theorem Ev.join {o e : Expr} {apos pos : Pos} {pl : Sem Bool} {x : Str} {xs : List Str} {f₁ f₂ : Bool} (ho : Ev C ρ o (.str x) f₁) (he : Ev C ρ e (.list (dS xs)) f₂) (hj : JoinOk x xs = true) (hm : MethEq C.env o "join" apos [e] pos pl) (hse : starEach [e] C.env = [(false, eval e C.env)] := by rfl) :
    Ev C ρ (.Call (.Attribute o "join" apos) [e] [] pos) (.str (Txt.join x xs)) fr :=
  .meth1 ho he (fun t s Q h => GM.join h) (fun t v s _ R => by
    cases R
    rename_i a vs _ hl R
    obtain ⟨l, rfl, e2⟩ := R.strs
    exact SC.join hl.isList e2 hj fun _ _ => ⟨keeps_tok, .str _ _⟩) hm hse
end
end Mine
end

section
open PySem PySem.W PyProof.Rows
set_option Elab.async false
set_option maxRecDepth 100000
set_option linter.unusedVariables false
namespace Mine
section
variable {C : Cx} {ρ : List (Str × D)} {fr : Bool} {n : Nat}

/-! replace: two written texts -/
theorem Ev.repl {o : Expr} {k₁ k₂ : Nat} {p₁ p₂ apos pos : Pos} {pl : Sem Bool} {x y z : Str} {f₁ : Bool} (htz : C.tz = true) (ho : Ev C ρ o (.str x) f₁) (hyz : (y == z) = false) (hb : x.length + (x.length + 1) * z.length ≤ 16777216)
    (hm : MethEq C.env o "replace" apos [.Constant (.str y) k₁ p₁, .Constant (.str z) k₂ p₂] pos pl) : Ev C ρ (.Call (.Attribute o "replace" apos) [.Constant (.str y) k₁ p₁, .Constant (.str z) k₂ p₂] [] pos) (.str (Txt.replace x y z)) fr := fun s k =>
  MethodCall_ (wpAny_mono (ho s k) (fun v s₁ g₁ => by
    have q := g₁.2
    cases q
    rename_i t
    have ht : 0 < s₁.toks := (k.keeps g₁.1).tk htz
    refine GM.replace (callWith_method1 (args_cons (wpAny_Constant_str (args_cons (wpAny_Constant_str (args_nil ?_))))))
    have h1 := SC.replace (prog := C.prog) (w := C.w) (A := C.A) (E := bot) (x := x) (y := y) (z := z) (t := t) (u := s₁.toks) (v := s₁.toks + 1) (s := { s₁ with toks := s₁.toks + 1 + 1 })
      (Q := fun v s'' => PySem.Keeps s₁ s'' ∧ Rep s''.heap (okF fr s) v (.str (Txt.replace x y z))) (Nat.ne_of_gt ht) (Nat.succ_ne_zero _) (Nat.ne_of_lt (Nat.lt_succ_self _)) hyz hb (fun _ _ => ⟨keeps_tok, .str _ _⟩)
    exact wpAny_mono (wpAny_toks_of (Nat.le_refl _) h1) (fun _ _ y => ⟨⟨keeps_trans g₁.1.1 y.2.1, Nat.le_trans g₁.1.2 (Nat.le_trans (Nat.le_add_right s₁.toks 2) y.1)⟩, y.2.2⟩) fun _ _ y => y.2) fun _ _ x => x) hm

/-! names of the interpreter's -/
structure Built (C : Cx) (x : Str) (v : Value) : Prop where
  no : nsIn C.K mainGlobals x = some none
  bo : bootBuiltins x = some v
  nn : x ≠ "__name__"
  kd : C.env.kindOf x = some .globalImplicit
  db : (x == ("__debug__" : Str)) = false

theorem Ev.callB1 {f : Str} {e : Expr} {fp pos : Pos} {id : String} {a d : D} {f₁ : Bool} (G : Good C n) (hf : Built C f (.builtin id)) (he : Ev C ρ e a f₁)
    (hc : ∀ v s, Ok C ρ s → Rep s.heap (fun _ => True) v a → wpAny (model C.prog C.w) C.A (call (.builtin id) [v]) (Got0 s fr d) bot s)
    (hse : starEach [e] C.env = [(false, eval e C.env)] := by rfl) : Ev C ρ (.Call (.Name f fp) [e] [] pos) d fr := fun s o =>
  Call_Name (trees := backTo pos (starEach [e] C.env)) rfl (built_name G hf.no hf.bo hf.nn hf.kd hf.db o (PyProof.Rows.callWith_builtin1 (args_cons (wpAny_mono (he s o) (fun v s₁ g => args_nil (wpAny_mono (up (hc v s₁ (o.keeps g.1) g.any)) (fun _ _ q => q.later g.1) fun _ _ x => x)) fun _ _ x => x) hse) hse rfl))
theorem Ev.callT1 {f : Str} {e : Expr} {fp pos : Pos} {T : String} {a d : D} {f₁ : Bool} (G : Good C n) (hf : Built C f (.type T)) (he : Ev C ρ e a f₁)
    (hc : ∀ v s, Ok C ρ s → Rep s.heap (fun _ => True) v a → wpAny (model C.prog C.w) C.A (call (.type T) [v]) (Got0 s fr d) bot s)
    (hse : starEach [e] C.env = [(false, eval e C.env)] := by rfl) : Ev C ρ (.Call (.Name f fp) [e] [] pos) d fr := fun s o =>
  Call_Name (trees := backTo pos (starEach [e] C.env)) rfl (built_name G hf.no hf.bo hf.nn hf.kd hf.db o (PyProof.Rows.callWith_type1 (args_cons (wpAny_mono (he s o) (fun v s₁ g => args_nil (wpAny_mono (up (hc v s₁ (o.keeps g.1) g.any)) (fun _ _ q => q.later g.1) fun _ _ x => x)) fun _ _ x => x) hse) hse rfl))

theorem Ev.lenL {e : Expr} {fp pos : Pos} {ds : List D} {f₁ : Bool} (G : Good C n) (hf : Built C "len" (.builtin "len")) (he : Ev C ρ e (.list ds) f₁) (hn : ds.length ≤ 16777216) (hse : starEach [e] C.env = [(false, eval e C.env)] := by rfl) :
    Ev C ρ (.Call (.Name "len" fp) [e] [] pos) (.int ds.length) fr :=
  .callB1 G hf he (fun v s _ R => by
    cases R; rename_i a vs _ hl R
    have e := R.length
    refine PySem.Calls.call_len_list hl.isList (by simp only [List.size_toArray]; omega) ?_
    rw [← e]
    exact ⟨keeps_tok, by simpa using Rep.int _ _⟩) hse
theorem Ev.lenS {e : Expr} {fp pos : Pos} {x : Str} {f₁ : Bool} (G : Good C n) (hf : Built C "len" (.builtin "len")) (he : Ev C ρ e (.str x) f₁) (hn : x.length ≤ 16777216) (hse : starEach [e] C.env = [(false, eval e C.env)] := by rfl) :
    Ev C ρ (.Call (.Name "len" fp) [e] [] pos) (.int x.length) fr :=
  .callB1 G hf he (fun v s _ R => by
    cases R
    exact PyProof.Rows.len_str (by omega) ⟨keeps_tok, .int _ _⟩) hse
theorem Ev.strI {e : Expr} {fp pos : Pos} {i : Int} {f₁ : Bool} (G : Good C n) (hf : Built C "str" (.type "str")) (he : Ev C ρ e (.int i) f₁) (hn : i.natAbs.log2 < 1920) (hse : starEach [e] C.env = [(false, eval e C.env)] := by rfl) :
    Ev C ρ (.Call (.Name "str" fp) [e] [] pos) (.str (Str.ofString (toString i))) fr :=
  .callT1 G hf he (fun v s _ R => by
    cases R
    exact P.str_of_int hn ⟨keeps_tok, .str _ _⟩) hse

/-! what a for walks along -/
theorem letGo_rangeiter {prog : Program} {w : World} {A : Around} {E : Value → Shared → Prop} {target : Expr} {I : Addr} {x l st : Int} {v : Value} {Q' : Unit → Shared → Prop} {s' : Shared} (hit : IsRangeIter s'.heap I x l st) (h : Q' () s') :
    wpAny (model prog w) A (letOwnedTupleGo target (.ref I) v) Q' E s' := by
  unfold letOwnedTupleGo
  cases target <;> first
    | exact wpAny_pure h
    | (cases v <;> first
        | exact wpAny_pure h
        | (refine wpAny_bind (wpAny_load hit ?_)
           exact wpAny_pure h))

def WalkAt (C : Cx) (N : Addr → Prop) (s s₂ : Shared) (it : Value) (ds : List D) : Prop :=
  ∃ I fp wr P St, it = .ref I ∧ Walks C.prog C.w C.A I fp wr ds.length P St ∧ St 0 s₂.heap ∧ (∀ b ∈ fp, ∃ o, s₂.heap.get? b = some o) ∧ (∀ b ∈ wr, s.heap.get? b = none) ∧ (∀ i h, St i h → ∀ b ∈ wr, ∃ o, h.get? b = some o ∧ ∀ xs c, o.data ≠ .seq xs c) ∧
    (∀ i v d, P i v → ds[i]? = some d → Rep s₂.heap (fun a => a ∉ wr ∧ N a) v d) ∧ (∀ b ∈ fp, N b) ∧
    (∀ x p v, letOwnedTupleGo (.Name x p) it v = pure ()) ∧ ∀ i tgt v (s' : Shared) (Q : Unit → Shared → Prop) (E : Value → Shared → Prop), St i s'.heap → Q () s' → wpAny (model C.prog C.w) C.A (letOwnedTupleGo tgt it v) Q E s'
def It (C : Cx) (ρ : List (Str × D)) (e : Expr) (ds : List D) : Prop := ∀ s, Ok C ρ s → ∀ Q : Value → Shared → Prop, (∀ it s₂ N, Kp s s₂ → WalkAt C N s s₂ it ds → Q it s₂) → wpAny (model C.prog C.w) C.A (eval e C.env) (fun xv s₁ => wpAny (model C.prog C.w) C.A (pyIter xv) Q bot s₁) bot s

theorem walk_list {s s₁ : Shared} {a : Addr} {vs : List Value} {ds : List D} {N : Addr → Prop} (G : Good C n) (k : Kp s s₁) (ha : N a) (hN : ∀ b, s₁.heap.get? b = none → N b) (hl : s₁.heap.IsList a vs.toArray) (R : Reps s₁.heap N vs ds) {Q : Value → Shared → Prop} (h : ∀ it s₂, Kp s s₂ → WalkAt C N s s₂ it ds → Q it s₂) :
    wpAny (model C.prog C.w) C.A (pyIter (.ref a)) Q bot s₁ := by
  refine wpAny_pyIter_list hl ?_
  have k2 : Kp s₁ { s₁ with heap := s₁.heap.push { cls := .type "list_iterator", data := .fields #[.ref a, .int 0 0] } } := ⟨keeps_of fun b o e => Heap.get?_push_of_some _ e, Nat.le_refl _⟩
  have hne : a ≠ s₁.heap.objs.size := by obtain ⟨_, e, _⟩ := hl; exact Nat.ne_of_lt (Heap.lt_size e)
  have W := Walks.list (prog := C.prog) (w := C.w) (A := C.A) G.hh s₁.heap.objs.size a hne vs.toArray
  have hn : vs.toArray.size = ds.length := by rw [List.size_toArray, R.length]
  rw [hn] at W
  refine h _ _ (k.trans k2) ⟨s₁.heap.objs.size, _, _, _, _, rfl, W, ⟨⟨_, Heap.get?_push_size _ rfl, rfl, rfl⟩, hl.push _⟩, ?_, ?_, ?_, ?_, ?_, fun _ _ _ => rfl, fun _ _ _ _ _ _ st q => letGo_listiter st.1 q⟩
  · intro b hb
    rcases List.mem_cons.mp hb with rfl | hb
    · exact ⟨_, Heap.get?_push_size _ rfl⟩
    · rw [List.mem_singleton.mp hb]; obtain ⟨o, e, _⟩ := hl; exact ⟨o, Heap.get?_push_of_some _ e⟩
  · intro b hb
    rw [List.mem_singleton.mp hb]
    exact k.none (fresh_new s₁)
  · intro i h hs b hb
    rw [List.mem_singleton.mp hb]
    obtain ⟨o, e, _, e2⟩ := hs.1
    exact ⟨o, e, fun xs c q => by rw [e2] at q; cases q⟩
  · intro i v d hv hd
    have hv' : vs[i]? = some v := by simpa using hv
    obtain ⟨d', hd', R'⟩ := R.get hv'
    rw [hd] at hd'
    cases hd'
    exact R'.mono (fun b o _ e => Heap.get?_push_of_some _ e) fun b o hb e => ⟨fun q => (by rw [List.mem_singleton.mp q, fresh_new s₁] at e; cases e), hb⟩
  · intro b hb
    rcases List.mem_cons.mp hb with rfl | hb
    · exact hN _ (fresh_new s₁)
    · rw [List.mem_singleton.mp hb]; exact ha
theorem walk_tup {s s₁ : Shared} {a : Addr} {vs : List Value} {ds : List D} {N : Addr → Prop} (G : Good C n) (k : Kp s s₁) (ha : N a) (hN : ∀ b, s₁.heap.get? b = none → N b) (hl : s₁.heap.IsTuple a vs.toArray) (R : Reps s₁.heap N vs ds) {Q : Value → Shared → Prop} (h : ∀ it s₂, Kp s s₂ → WalkAt C N s s₂ it ds → Q it s₂) :
    wpAny (model C.prog C.w) C.A (pyIter (.ref a)) Q bot s₁ := by
  refine wpAny_pyIter_tuple hl ?_
  have k2 : Kp s₁ { s₁ with heap := s₁.heap.push { cls := .type "tuple_iterator", data := .fields #[.ref a, .int 0 0] } } := ⟨keeps_of fun b o e => Heap.get?_push_of_some _ e, Nat.le_refl _⟩
  have hne : a ≠ s₁.heap.objs.size := by obtain ⟨_, e, _⟩ := hl; exact Nat.ne_of_lt (Heap.lt_size e)
  have W := Walks.tuple (prog := C.prog) (w := C.w) (A := C.A) G.hh s₁.heap.objs.size a hne vs.toArray
  have hn : vs.toArray.size = ds.length := by rw [List.size_toArray, R.length]
  rw [hn] at W
  refine h _ _ (k.trans k2) ⟨s₁.heap.objs.size, _, _, _, _, rfl, W, ⟨⟨_, Heap.get?_push_size _ rfl, rfl, rfl⟩, hl.at fun o e => Heap.get?_push_of_some _ e⟩, ?_, ?_, ?_, ?_, ?_, fun _ _ _ => rfl, fun _ _ _ _ _ _ st q => letGo_tupleiter st.1 q⟩
  · intro b hb
    rcases List.mem_cons.mp hb with rfl | hb
    · exact ⟨_, Heap.get?_push_size _ rfl⟩
    · rw [List.mem_singleton.mp hb]; obtain ⟨o, e, _⟩ := hl; exact ⟨o, Heap.get?_push_of_some _ e⟩
  · intro b hb
    rw [List.mem_singleton.mp hb]
    exact k.none (fresh_new s₁)
  · intro i h hs b hb
    rw [List.mem_singleton.mp hb]
    obtain ⟨o, e, _, e2⟩ := hs.1
    exact ⟨o, e, fun xs c q => by rw [e2] at q; cases q⟩
  · intro i v d hv hd
    have hv' : vs[i]? = some v := by simpa using hv
    obtain ⟨d', hd', R'⟩ := R.get hv'
    rw [hd] at hd'
    cases hd'
    exact R'.mono (fun b o _ e => Heap.get?_push_of_some _ e) fun b o hb e => ⟨fun q => (by rw [List.mem_singleton.mp q, fresh_new s₁] at e; cases e), hb⟩
  · intro b hb
    rcases List.mem_cons.mp hb with rfl | hb
    · exact hN _ (fresh_new s₁)
    · rw [List.mem_singleton.mp hb]; exact ha
theorem It.list {e : Expr} {ds : List D} {f : Bool} (G : Good C n) (he : Ev C ρ e (.list ds) f) : It C ρ e ds := fun s o Q h =>
  wpAny_mono (he s o) (fun v s₁ g => by
    have x := g.any
    have k := g.1
    cases x
    rename_i hl R
    exact walk_list (N := fun _ => True) G k trivial (fun _ _ => trivial) hl.isList R (fun it s₂ k w => h it s₂ _ k w)) fun _ _ x => x
theorem It.tup {e : Expr} {ds : List D} {f : Bool} (G : Good C n) (he : Ev C ρ e (.tup ds) f) : It C ρ e ds := fun s o Q h =>
  wpAny_mono (he s o) (fun v s₁ g => by
    have x := g.any
    have k := g.1
    cases x
    rename_i hl R
    exact walk_tup (N := fun _ => True) G k trivial (fun _ _ => trivial) hl R (fun it s₂ k w => h it s₂ _ k w)) fun _ _ x => x

/-- the ints from 0 on -/
def upto (n : Nat) : List Int := (List.range n).map fun (i : Nat) => (i : Int)
theorem upto_get {n i : Nat} {d : D} (h : (dI (upto n))[i]? = some d) : i < n ∧ d = .int i := by
  simp only [upto, dI, List.map_map, List.getElem?_map] at h
  by_cases hi : i < n
  · rw [List.getElem?_range hi] at h
    simp at h
    exact ⟨hi, h.symm⟩
  · rw [List.getElem?_eq_none (by simpa using hi)] at h
    cases h
theorem upto_len (n : Nat) : (dI (upto n)).length = n := by simp [upto]
theorem range_size (n : Nat) : Builtin.Range.rangeSize 0 n 1 = (n : Int) := by
  have := rangeSize_nat 0 n
  simpa using this

theorem range_at {prog : Program} {w : World} {A : Around} {m : Nat} {t : Tok} {s : Shared} {o : Shared → Prop} {h₀ : Heap} {L : Addr} {mm : Str → Option Value} (F : Fr h₀ L s.heap mm) {Q : Value → Shared → Prop} {E : Value → Shared → Prop}
    (h : ∀ h' tk t₁ u₁ v₁, IsRange h' s.heap.objs.size 0 m 1 t₁ u₁ v₁ → (∀ b o, s.heap.get? b = some o → h'.get? b = some o) → Q (.ref s.heap.objs.size) { s with heap := h', toks := tk }) :
    wpAny (model prog w) A (call (.type "range") [.int m t]) Q E s :=
  range1_rows F (news := []) (fun _ hp => nomatch hp) fun h' tk t₁ u₁ v₁ hr _ _ k => h h' tk t₁ u₁ v₁ hr k

theorem range_walk {e : Expr} {fp pos : Pos} {m : Nat} {f : Bool} {N : Addr → Prop} {s : Shared} (G : Good C n) (hf : Built C "range" (.type "range")) (he : Ev C ρ e (.int m) f) (hm : m ≤ 16777216) (o : Ok C ρ s) (hN : ∀ b, s.heap.get? b = none → N b) (hse : starEach [e] C.env = [(false, eval e C.env)] := by rfl)
    {Q : Value → Shared → Prop} (h : ∀ it s₂, Kp s s₂ → WalkAt C N s s₂ it (dI (upto m)) → Q it s₂) :
    wpAny (model C.prog C.w) C.A (eval (.Call (.Name "range" fp) [e] [] pos) C.env) (fun xv s₁ => wpAny (model C.prog C.w) C.A (pyIter xv) Q bot s₁) bot s :=
  Call_Name (trees := backTo pos (starEach [e] C.env)) rfl (built_name G hf.no hf.bo hf.nn hf.kd hf.db o (PyProof.Rows.callWith_type1 (args_cons (wpAny_mono (he s o) (fun v s₁ g => args_nil (by
    have x := g.2
    have k := g.1
    cases x
    rename_i t
    obtain ⟨mm, F⟩ := (o.keeps k).fr
    refine wpAny_mono (wpAny_toks_of (Nat.le_refl _) (range_at (o := fun _ => True) (E := bot) F (Q := fun v s₂ => ∃ h' tk t₁ u₁ v₁, s₂ = { s₁ with heap := h', toks := tk } ∧ v = .ref s₁.heap.objs.size ∧ IsRange h' s₁.heap.objs.size 0 m 1 t₁ u₁ v₁ ∧ (∀ b o, s₁.heap.get? b = some o → h'.get? b = some o)) (fun h' tk t₁ u₁ v₁ hr k => ⟨h', tk, t₁, u₁, v₁, rfl, rfl, hr, k⟩))) (fun v s₂ q => ?_) fun _ _ x => x.2
    obtain ⟨htk, h', tk, t₁, u₁, v₁, rfl, rfl, hr, hk⟩ := q
    have k2 : Kp s₁ { s₁ with heap := h', toks := tk } := ⟨keeps_of hk, htk⟩
    have hsm : Builtin.Range.small 0 m 1 = true := small_one (by omega) (by omega) (by omega) (by omega)
    refine wpAny_pyIter_range hr hsm ?_
    have k3 : Kp { s₁ with heap := h', toks := tk } { s₁ with heap := h'.push { cls := .type "range_iterator", data := .fields #[rawInt 0, rawInt (Builtin.Range.rangeSize 0 m 1), rawInt 1] }, toks := tk } := ⟨keeps_of fun b o e => Heap.get?_push_of_some _ e, Nat.le_refl _⟩
    have W := Walks.range (prog := C.prog) (w := C.w) (A := C.A) G.hh h'.objs.size 0 1 m
    refine h _ _ ((k.trans k2).trans k3) ⟨h'.objs.size, _, _, _, _, rfl, (by rw [upto_len]; exact W), ?_, ?_, ?_, ?_, ?_, ?_, fun _ _ _ => rfl, fun _ _ _ _ _ _ st q => letGo_rangeiter st q⟩
    · show IsRangeIter _ _ _ _ _
      have e0 : (0 : Int) + ((0 : Nat) : Int) * 1 = 0 := by omega
      have e1 : ((m : Nat) : Int) - ((0 : Nat) : Int) = m := by omega
      rw [e0, e1]
      show (h'.push _).get? h'.objs.size = _
      rw [range_size]
      exact Heap.get?_push_size _ rfl
    · intro b hb
      rw [List.mem_singleton.mp hb]
      exact ⟨_, Heap.get?_push_size _ rfl⟩
    · intro b hb
      rw [List.mem_singleton.mp hb]
      exact (k.trans k2).none (fresh_new _)
    · intro i h hs b hb
      rw [List.mem_singleton.mp hb]
      exact ⟨_, hs, fun xs c q => by cases q⟩
    · rintro i v d ⟨t', rfl⟩ hd
      obtain ⟨_, rfl⟩ := upto_get hd
      have e : (0 : Int) + (i : Int) * 1 = i := by omega
      rw [e]
      exact .int _ _
    · intro b hb
      rw [List.mem_singleton.mp hb]
      exact hN _ ((k.trans k2).none (fresh_new _)))) fun _ _ x => x) hse) hse rfl))
theorem It.range {e : Expr} {fp pos : Pos} {m : Nat} {f : Bool} (G : Good C n) (hf : Built C "range" (.type "range")) (he : Ev C ρ e (.int m) f) (hm : m ≤ 16777216) (hse : starEach [e] C.env = [(false, eval e C.env)] := by rfl) :
    It C ρ (.Call (.Name "range" fp) [e] [] pos) (dI (upto m)) := fun s o Q h => range_walk (N := fun _ => True) G hf he hm o (fun _ _ => trivial) hse fun it s₂ k w => h it s₂ _ k w
end
end Mine
end

section
open PySem PySem.W PyProof.Rows
set_option Elab.async false
set_option maxRecDepth 100000
set_option linter.unusedVariables false
namespace Mine
def Cx.comp (C : Cx) (scope : Scope) (cl : List (Str × Addr)) (Ca : Addr) : Cx := { C with env := compEnvC scope cl Ca C.env }
section
variable {C : Cx} {ρ ρ' : List (Str × D)} {fr : Bool} {n : Nat}

theorem Good.comp (G : Good C n) {scope : Scope} (hk : scope.kind = .function) (cl : List (Str × Addr)) (Ca : Addr) : Good (C.comp scope cl Ca) n :=
  ⟨G.B, G.X, G.T, G.V, G.hA, G.hf, G.hke, G.hh, G.hgd, G.room, G.units, G.gl, G.bi, hk⟩

structure CompOk (C : Cx) (scope : Scope) (cl : List (Str × Addr)) (x : Str) (ρ ρ' : List (Str × D)) : Prop where
  clos : closureFor scope C.env = pure cl
  cell : ∀ y ∈ scope.names, y.2 ≠ .cell
  kind : scope.kind = .function
  names : ∀ y ∈ scope.names, y.2 = .local → scope.names.lookup y.1 = some .local
  hx : scope.names.lookup x = some .local
  sub : ∀ e ∈ ρ', e ∈ ρ ∧ C.env.kindOf e.1 = some .cell ∧ (∀ Ca, (compEnvC scope cl Ca C.env).kindOf e.1 = some .cell) ∧ C.env.cells.lookup e.1 = cl.lookup e.1

def Tsts (C : Cx) (ρ : List (Str × D)) (ifs : List Expr) (b : Bool) : Prop := ∀ s, Ok C ρ s →
  wpAny (model C.prog C.w) C.A (forIn ifs true fun c r => if r = true then do let ok ← isTrue c C.env (eval c C.env); pure (ForInStep.yield ok) else pure (ForInStep.yield r)) (fun ok s' => Kp s s' ∧ ok = b) bot s
theorem Tsts.nil : Tsts C ρ [] true := fun s _ => wpAny_tests_nil ⟨.refl s, rfl⟩
theorem Tsts.one {e : Expr} {b : Bool} (h : Tr C ρ e b) : Tsts C ρ [e] b := fun s o => wpAny_tests_one (h s o)

theorem Ok.inComp {s s₃ : Shared} {scope : Scope} {cl : List (Str × Addr)} {x : Str} {Ca : Addr} {m : Str → Option Value} {v : Value} {d : D} (o : Ok C ρ s) (H : CompOk C scope cl x ρ ρ')
    (ht : s.toks ≤ s₃.toks) (hk : ∀ b o, s.heap.get? b = some o → s₃.heap.get? b = some o) (hn : s₃.heap.Ns Ca m) (hx : m x = some v) (hv : Rep s₃.heap (fun _ => True) v d) : Ok (C.comp scope cl Ca) ((x, d) :: ρ') s₃ := by
  obtain ⟨m₀, F⟩ := o.fr
  obtain ⟨mv, _, vars⟩ := o.vars
  refine ⟨fun q => Nat.lt_of_lt_of_le (o.tk q) ht, ⟨m₀, F.keeps hk⟩, m, hn, fun e he => ?_⟩
  rcases List.mem_cons.mp he with rfl | he
  · exact ⟨v, .inl ⟨lookup_relabel_local H.hx, hx⟩, hv⟩
  · obtain ⟨h1, h2, h3, h4⟩ := H.sub e he
    obtain ⟨u, V, R⟩ := vars e h1
    rcases V with ⟨q, _⟩ | ⟨_, c, hc, hcell⟩
    · rw [h2] at q; cases q
    · exact ⟨u, .inr ⟨.inl (h3 Ca), c, (h4 ▸ hc : cl.lookup e.1 = some c), hcell.keeps hk⟩, R.keeps hk⟩

theorem comp_core (G : Good C n) {elt iter : Expr} {x : Str} {px : Pos} {ifs : List Expr} {scope : Scope} {cl : List (Str × Addr)} {pos : Pos} {s s₂ : Shared} (o : Ok C ρ s) (k : Kp s s₂) {it : Value} {ds : List D} {N : Addr → Prop} (W : WalkAt C N s s₂ it ds)
    (hds : ds.length ≤ 16777216) (H : CompOk C scope cl x ρ ρ') (p : D → Bool) (g : D → D)
    (tests : ∀ Ca, ∀ d ∈ ds, Tsts (C.comp scope cl Ca) ((x, d) :: ρ') ifs (p d))
    (body : ∀ Ca, ∀ d ∈ ds, p d = true → Ev (C.comp scope cl Ca) ((x, d) :: ρ') elt (g d) true) {RR : Value → Addr → Result → Shared → Prop}
    (hRR : ∀ D Ca s', Kp s s' → s.heap.get? D = none → s.heap.get? Ca = none → D ≠ Ca → (∃ m, s'.heap.Ns Ca m) → Rep s'.heap (fun a => s.heap.get? a = none ∧ a ≠ Ca) (.ref D) (.list ((ds.filter p).map g)) → RR (.ref D) Ca (.ok .next) s') :
    wpAny (model C.prog C.w) C.A (newList []) (fun acc s₃ => wpAny (model C.prog C.w) C.A (newFunctionEnv scope C.env.globals cl [] C.env.qual none .none (some C.env)) (fun cenv s₄ =>
      codeAny (model C.prog C.w) C.A (.compStart (.ListComp elt [⟨.Name x px, iter, ifs, 0⟩] scope pos) 0 it acc { cenv with scope := relabel scope C.env }) (RR acc cenv.locals) s₄) bot s₃) bot s₂ := by
  obtain ⟨I, fp, wr, P, St, rfl, W, hst, hfp, hwr, hSt, hP, _, _, _⟩ := W
  refine wpAny_newObj_type (wpAny_newFunctionEnv H.cell (by intro y hy; simp at hy) (fun h₁ hns₁ hsb₁ => ?_) H.kind)
  dsimp only at hns₁ hsb₁ ⊢
  generalize hH2 : s₂.heap.push { cls := .type "list", dict := none, data := .seq ([] : List Value).toArray } = H2 at hns₁ hsb₁ ⊢
  have hC : H2.objs.size = s₂.heap.objs.size + 1 := by rw [← hH2, Heap.size_push]
  have hDC : s₂.heap.objs.size ≠ H2.objs.size := by rw [hC]; exact Nat.ne_of_lt (Nat.lt_succ_self _)
  have fresh₂ : ∀ a, s₂.heap.objs.size ≤ a → s₂.heap.get? a = none := fun a ha => Heap.get?_none_of_le ha
  have hD₂ := fresh₂ s₂.heap.objs.size (Nat.le_refl _)
  have hC₂ : s₂.heap.get? H2.objs.size = none := fresh₂ _ (by rw [hC]; exact Nat.le_succ _)
  have ne_of : ∀ {b a : Addr} {ob : Obj}, s₂.heap.get? b = some ob → s₂.heap.get? a = none → b ≠ a := fun e1 e2 q => by rw [q, e2] at e1; cases e1
  have hfD : s₂.heap.objs.size ∉ fp := fun hm => by obtain ⟨ob, e⟩ := hfp _ hm; exact ne_of e hD₂ rfl
  have hfC : H2.objs.size ∉ fp := fun hm => by obtain ⟨ob, e⟩ := hfp _ hm; exact ne_of e hC₂ rfl
  have hwD : s₂.heap.objs.size ∉ wr := fun hm => hfD (W.sub _ hm)
  have hwC : H2.objs.size ∉ wr := fun hm => hfC (W.sub _ hm)
  have old : ∀ b ob, s₂.heap.get? b = some ob → h₁.get? b = some ob := fun b ob e => hsb₁.extBut b ob (ne_of e hC₂) (Heap.get?_push_of_some _ (hH2 ▸ Heap.get?_push_of_some _ e))
  have hacc : h₁.PlainList s₂.heap.objs.size (List.toArray []) := ⟨0, hsb₁.extBut _ _ hDC (Heap.get?_push_of_some _ (hH2 ▸ Heap.get?_push_size _ rfl))⟩
  have hst₁ : St 0 h₁ := W.frame _ _ _ hst fun b _ ob e => old b ob e
  -- what of the state ahead of the loop lives on
  have sold : ∀ (h : Heap), (∀ b ob, b ∉ wr → s₂.heap.get? b = some ob → h.get? b = some ob) → ∀ b ob, s.heap.get? b = some ob → h.get? b = some ob := fun h hk b ob e => hk b ob (fun hm => by rw [hwr b hm] at e; cases e) (k.get b ob e)
  let okE : Addr → Prop := fun a => s.heap.get? a = none ∧ a ≠ H2.objs.size ∧ a ≠ s₂.heap.objs.size ∧ a ∉ wr
  have loop : ∀ s₃ : Shared, s₃ = { s₂ with heap := h₁, toks := s₂.toks + ([] : List (Str × Value)).length } →
      codeAny (model C.prog C.w) C.A (.compLoop (.ListComp elt [⟨.Name x px, iter, ifs, 0⟩] scope pos) 0 (.ref I) (.ref s₂.heap.objs.size) (compEnvC scope cl H2.objs.size C.env))
        (RR (.ref s₂.heap.objs.size) H2.objs.size) s₃ := by
    rintro s₃ rfl
    refine codeAny_compLoop_tests
      (fun k s' => ∃ h' tk i ys m', s' = { s₂ with heap := h', toks := tk } ∧ s.toks ≤ tk ∧ i ≤ ds.length ∧ k = ds.length + 1 - i ∧ St i h' ∧ h'.Ns H2.objs.size m' ∧ h'.PlainList s₂.heap.objs.size (List.toArray ys) ∧ Reps h' okE ys (((ds.take i).filter p).map g) ∧
        (∀ b ob, b ∉ wr → s₂.heap.get? b = some ob → h'.get? b = some ob)) ?_ (ds.length + 1)
      ⟨h₁, _, 0, [], _, rfl, k.2, Nat.zero_le _, rfl, hst₁, hns₁, hacc, by simpa using Reps.nil, fun b ob _ e => old b ob e⟩
    rintro kk s' ⟨h', tk, i, ys, m', rfl, htk, hi, rfl, hst', hn', hl', hR', hk'⟩
    by_cases hlt : i < ds.length
    · have hd : ds[i]? = some ds[i] := List.getElem?_eq_getElem hlt
      have hmem : ds[i] ∈ ds := List.getElem_mem hlt
      refine wpAny_mono (wpAny_toks_of (n := s.toks) htk (W.item i _ (fun r s₁ => ∃ v h₂ tk₂, r = some v ∧ s₁ = { s₂ with heap := h₂, toks := tk₂ } ∧ P i v ∧ St (i + 1) h₂ ∧ ∀ b ob, b ∉ wr → h'.get? b = some ob → h₂.get? b = some ob) bot hlt hst'
        fun v h₂ tk₂ hPv hst₂ hk₂ => ⟨v, h₂, tk₂, rfl, rfl, hPv, hst₂, hk₂⟩)) (fun r s₁ q => ?_) fun _ _ y => y.2.elim
      obtain ⟨htk₂, v, h₂, tk₂, rfl, rfl, hPv, hst₂, hk₂⟩ := q
      dsimp only
      refine wpAny_assign_Name (wpAny_storeName_local (lookup_relabel_local H.hx) (hn'.at' fun ob e => hk₂ _ ob hwC e) (fun h₃ hn₃ hs₃ => ?_) (by simp [compEnvC, relabel, H.kind]))
      have hst₃ : St (i + 1) h₃ := W.frame _ _ _ hst₂ fun b hb ob e => hs₃.extBut b ob (fun q => hfC (by have q' : b = H2.objs.size := q; rw [← q']; exact hb)) e
      have up₃ : ∀ b ob, b ∉ wr → s₂.heap.get? b = some ob → h₃.get? b = some ob := fun b ob hb e => hs₃.extBut b ob (ne_of e hC₂) (hk₂ b ob hb (hk' b ob hb e))
      have hRv : Rep h₃ (fun _ => True) v ds[i] := (hP i v _ hPv hd).mono (fun b ob hb e => up₃ b ob hb.1 e) fun _ _ _ _ => trivial
      have O₃ : Ok (C.comp scope cl H2.objs.size) ((x, ds[i]) :: ρ') { s₂ with heap := h₃, toks := tk₂ + 1 } := o.inComp H (Nat.le_trans htk₂ (Nat.le_succ _)) (sold h₃ up₃) hn₃ (by simp) hRv
      have hl₃ : h₃.PlainList s₂.heap.objs.size (List.toArray ys) := (hl'.at fun ob e => hk₂ _ ob hwD e).at fun ob e => hs₃.extBut _ ob hDC e
      have hR₃ : Reps h₃ okE ys (((ds.take i).filter p).map g) := hR'.mono (fun b ob ho e => hs₃.extBut b ob ho.2.1 (hk₂ b ob ho.2.2.2 e)) fun b ob ho _ => ho
      have htake : (ds.take (i + 1)).filter p = (ds.take i).filter p ++ (if p ds[i] = true then [ds[i]] else []) := by
        rw [List.take_add_one, hd, List.filter_append]
        cases hp : p ds[i] <;> simp [hp]
      refine wpAny_mono (tests H2.objs.size _ hmem _ O₃) (fun ok s₄ q => ?_) fun _ _ y => y.elim
      obtain ⟨k₄, rfl⟩ := q
      have hst₄ : St (i + 1) s₄.heap := W.frame _ _ _ hst₃ fun b hb ob e => k₄.get b ob e
      obtain ⟨⟨h₄, tk₄, rfl, kg₄⟩, kt₄⟩ := id k₄
      cases hp : p ds[i] with
      | false =>
        simp only [Bool.false_eq_true, if_false]
        refine ⟨ds.length + 1 - (i + 1), by omega, h₄, tk₄, i + 1, ys, _, rfl, Nat.le_trans htk₂ (Nat.le_trans (Nat.le_succ _) kt₄), hlt, rfl, hst₄, hn₃.keeps kg₄, hl₃.at fun ob e => kg₄ _ ob e, ?_, fun b ob hb e => kg₄ b ob (up₃ b ob hb e)⟩
        rw [htake, hp]
        simpa using hR₃.mono (fun b ob _ e => kg₄ b ob e) fun b ob ho _ => ho
      | true =>
        simp only [if_true]
        refine wpAny_mono (body H2.objs.size _ hmem hp _ (O₃.keeps k₄)) (fun y s₅ q => ?_) fun _ _ y => y.elim
        obtain ⟨k₅, hy⟩ := q
        obtain ⟨⟨h₅, tk₅, rfl, kg₅⟩, kt₅⟩ := id k₅
        have hys : ys.length ≤ sizeLine := by
          have e1 := hR₃.length
          have e2 : ((ds.take i).filter p).length ≤ (ds.take i).length := List.length_filter_le _ _
          rw [List.length_map] at e1
          rw [List.length_take] at e2
          apply le_line
          omega
        refine wpAny_list_append_plain (hsz := by rw [List.size_toArray]; exact hys) ((hl₃.at fun ob e => kg₄ _ ob e).at fun ob e => kg₅ _ ob e) fun h₆ hl₆ hs₆ => ?_
        have up₅ : ∀ b ob, b ∉ wr → s₂.heap.get? b = some ob → h₅.get? b = some ob := fun b ob hb e => kg₅ b ob (kg₄ b ob (up₃ b ob hb e))
        -- a new one's address
        have newE : ∀ a ob, okF true { s₂ with heap := h₄, toks := tk₄ } a → h₅.get? a = some ob → okE a := fun a ob hf _ => by
          have ha : h₄.get? a = none := hf rfl
          have here : ∀ {b : Addr} {ob : Obj}, h₄.get? b = some ob → a ≠ b := fun e q => by rw [← q, ha] at e; cases e
          refine ⟨?_, ?_, ?_, ?_⟩
          · cases q : s.heap.get? a with
            | none => rfl
            | some ob => exact absurd rfl (here (kg₄ a ob (sold h₃ up₃ a ob q)))
          · obtain ⟨ob, _, _, e, _⟩ := hn₃
            exact here (kg₄ _ ob e)
          · obtain ⟨_, e⟩ := hl₃
            exact here (kg₄ _ _ e)
          · intro hm
            obtain ⟨ob, e, _⟩ := hSt _ _ hst₄ a hm
            exact here e rfl
        have hy₅ : Rep h₅ okE y (g ds[i]) := hy.mono (fun _ _ _ e => e) newE
        have hR₅ : Reps h₅ okE ys (((ds.take i).filter p).map g) := hR₃.mono (fun b ob _ e => kg₅ b ob (kg₄ b ob e)) fun b ob ho _ => ho
        refine ⟨ds.length + 1 - (i + 1), by omega, h₆, tk₅, i + 1, ys ++ [y], _, rfl, Nat.le_trans htk₂ (Nat.le_trans (Nat.le_succ _) (Nat.le_trans kt₄ kt₅)), hlt, rfl,
          W.frame _ _ _ (W.frame _ _ _ hst₄ fun b _ ob e => kg₅ b ob e) fun b hb ob e => hs₆.extBut b ob (fun q => hfD (by have q' : b = s₂.heap.objs.size := q; rw [← q']; exact hb)) e,
          ((hn₃.keeps kg₄).keeps kg₅).sameBut hs₆ (Ne.symm hDC), by simpa using hl₆, ?_, fun b ob hb e => hs₆.extBut b ob (ne_of e hD₂) (up₅ b ob hb e)⟩
        rw [htake, hp]
        simp only [if_true, List.map_append, List.map_cons, List.map_nil]
        exact (hR₅.append (.cons hy₅ .nil)).mono (fun b ob ho e => hs₆.extBut b ob ho.2.2.1 e) fun b ob ho _ => ho
    · obtain rfl : i = ds.length := Nat.le_antisymm hi (Nat.not_lt.mp hlt)
      refine wpAny_mono (wpAny_toks_of (n := s.toks) htk (W.done _ (fun r s₁ => ∃ h₂ tk₂, r = none ∧ s₁ = { s₂ with heap := h₂, toks := tk₂ } ∧ ∀ b ob, b ∉ wr → h'.get? b = some ob → h₂.get? b = some ob) bot hst' fun h₂ tk₂ hk₂ => ⟨h₂, tk₂, rfl, rfl, hk₂⟩)) (fun r s₁ q => ?_) fun _ _ y => y.2.elim
      obtain ⟨htk₂, h₂, tk₂, rfl, rfl, hk₂⟩ := q
      dsimp only
      obtain ⟨⟨h₀, t₀, e₀, _⟩, _⟩ := id k
      have up₂ : ∀ b ob, b ∉ wr → s₂.heap.get? b = some ob → h₂.get? b = some ob := fun b ob hb e => hk₂ b ob hb (hk' b ob hb e)
      rw [List.take_length] at hR'
      refine hRR _ _ _ ⟨⟨h₂, tk₂, by rw [e₀], sold h₂ up₂⟩, htk₂⟩ (k.none hD₂) (k.none hC₂) hDC ⟨m', hn'.at' fun ob e => hk₂ _ ob hwC e⟩ (.list ⟨k.none hD₂, hDC⟩ (hl'.at fun ob e => hk₂ _ ob hwD e) ?_)
      exact hR'.mono (fun b ob ho e => hk₂ b ob ho.2.2.2 e) fun b ob ho _ => ⟨ho.1, ho.2.1⟩
  exact codeAny_compStart_list (loop _ rfl) (W.self 0 _ _ _ hst₁ (loop _ rfl))

theorem Rep.mono_to {h ok ok' v d} (x : Rep h ok v d) (f : ∀ a, ok a → ok' a) : Rep h ok' v d := x.mono (fun _ _ _ e => e) fun _ _ a _ => f _ a

theorem Ev.comp (G : Good C n) {elt iter : Expr} {x : Str} {px : Pos} {ifs : List Expr} {scope : Scope} {cl : List (Str × Addr)} {pos : Pos} {ds : List D} (hi : It C ρ iter ds) (hds : ds.length ≤ 16777216) (H : CompOk C scope cl x ρ ρ') (p : D → Bool) (g : D → D)
    (tests : ∀ Ca, ∀ d ∈ ds, Tsts (C.comp scope cl Ca) ((x, d) :: ρ') ifs (p d))
    (body : ∀ Ca, ∀ d ∈ ds, p d = true → Ev (C.comp scope cl Ca) ((x, d) :: ρ') elt (g d) true)
    (hs : ∀ x, foldedSetIterable iter C.env x = pure x := by intro _; rfl) : Ev C ρ (.ListComp elt [⟨.Name x px, iter, ifs, 0⟩] scope pos) (.list ((ds.filter p).map g)) true := fun s o => by
  refine up ?_
  rw [eval_ListComp]
  refine wpAny_comprehension_free (use := none) rfl hs H.clos H.kind H.names (hi s o _ fun it s₂ N k W => ?_)
  refine comp_core G o k W hds H p g tests body (RR := fun acc Ca => compPost (model C.prog C.w) C.A bot none (Got0 s true (.list ((ds.filter p).map g))) acc Ca) fun D Ca s' k' hD hC hne hns R => ?_
  obtain ⟨m, hn⟩ := hns
  refine ⟨m, hn, fun h' hs' => ⟨?_, ?_⟩⟩
  · obtain ⟨⟨h₁, t₁, e₁, k₁⟩, _⟩ := k'
    refine ⟨h', t₁, by rw [e₁], fun b ob e => hs'.extBut b ob (fun q => by rw [q, hC] at e; cases e) ?_⟩
    rw [e₁]; exact k₁ b ob e
  · exact R.mono (fun b ob hb e => hs'.extBut b ob hb.2 e) fun b ob hb _ _ => hb.1
end
end Mine
end

section
open PySem PySem.W PyProof.Rows
set_option Elab.async false
set_option maxRecDepth 100000
set_option linter.unusedVariables false
namespace Mine

/-- a frame's names: is the list owned by the name alone; its datum -/
abbrev Rho := List (Str × Bool × D)
def rd (ρ : Rho) : List (Str × D) := ρ.map fun e => (e.1, e.2.2)

def VarS (C : Cx) (m cm : Str → Option Value) (x : Str) (v : Value) : Prop :=
  (C.env.kindOf x = some .local ∧ m x = some v) ∨ (C.env.kindOf x = some .cell ∧ (∃ c, C.env.cells.lookup x = some c) ∧ cm x = some v)

def ItemIs (C : Cx) (W : Addr → Prop) (h : Heap) (ω : Str → Addr) (x : Str) (own : Bool) (d : D) (v : Value) : Prop :=
  match own with
  | false => Rep h (fun a => ¬ W a) v d
  | true => v = .ref (ω x) ∧ W (ω x) ∧ ω x ≠ C.L ∧ (∀ c ∈ C.env.cells, ω x ≠ c.2) ∧ ∃ ds vs, d = .list ds ∧ h.PlainList (ω x) (List.toArray vs) ∧ Reps h (fun _ => False) vs ds

structure StX (C : Cx) (ρ : Rho) (W : Addr → Prop) (h : Heap) (m cm : Str → Option Value) (ω : Str → Addr) : Prop where
  fr : Fr C.h₀ C.L h m
  cl : Cl C.L C.env.cells h cm
  wl : W C.L
  wc : ∀ e ∈ C.env.cells, W e.2
  al : ∀ a, W a → ∃ o, h.get? a = some o
  nw : ∀ a, W a → C.h₀.get? a = none
  vars : ∀ e ∈ ρ, ∃ v, VarS C m cm e.1 v ∧ ItemIs C W h ω e.1 e.2.1 e.2.2 v
  sep : ∀ e₁ ∈ ρ, ∀ e₂ ∈ ρ, e₁.2.1 = true → e₂.2.1 = true → ω e₁.1 = ω e₂.1 → e₁.1 = e₂.1

structure St (C : Cx) (ρ : Rho) (W : Addr → Prop) (s : Shared) : Prop where
  tk : C.tz = true → 0 < s.toks
  ex : ∃ m cm ω, StX C ρ W s.heap m cm ω

/-- a context of a frame's own: the expressions' environment is the frame's -/
structure Own (C : Cx) (n : Nat) : Prop extends Good C n where
  ef : C.env = C.fenv
  eL : C.env.locals = C.L

def Fram (W W' : Addr → Prop) (s s' : Shared) : Prop :=
  (∃ h' tk, s' = { s with heap := h', toks := tk }) ∧ s.toks ≤ s'.toks ∧ (∀ b o, ¬ W b → s.heap.get? b = some o → s'.heap.get? b = some o) ∧ ∀ b, W' b → W b ∨ s.heap.get? b = none

theorem Fram.refl (W : Addr → Prop) (s : Shared) : Fram W W s s := ⟨⟨s.heap, s.toks, rfl⟩, Nat.le_refl _, fun _ _ _ e => e, fun _ h => .inl h⟩
theorem Fram.trans {W₁ W₂ W₃ : Addr → Prop} {s₁ s₂ s₃ : Shared} (x : Fram W₁ W₂ s₁ s₂) (y : Fram W₂ W₃ s₂ s₃) : Fram W₁ W₃ s₁ s₃ := by
  obtain ⟨⟨h, t, rfl⟩, a, b, c⟩ := x
  obtain ⟨⟨h', t', rfl⟩, a', b', c'⟩ := y
  have back : ∀ p o, ¬ W₁ p → s₁.heap.get? p = some o → ¬ W₂ p := fun p o hp e hw => by
    rcases c p hw with q | q
    · exact hp q
    · rw [q] at e; cases e
  refine ⟨⟨h', t', rfl⟩, Nat.le_trans a a', fun p o hp e => b' p o (back p o hp e) (b p o hp e), fun p hp => ?_⟩
  rcases c' p hp with q | q
  · exact c p q
  · by_cases hw : W₁ p
    · exact .inl hw
    · right
      cases e : s₁.heap.get? p with
      | none => rfl
      | some o => rw [b p o hw e] at q; cases q
theorem Fram.of_kp {W : Addr → Prop} {s s' : Shared} (k : Kp s s') : Fram W W s s' := by
  obtain ⟨⟨h, t, rfl, k⟩, q⟩ := k
  exact ⟨⟨h, t, rfl⟩, q, fun b o _ e => k b o e, fun _ h => .inl h⟩

section
variable {C : Cx} {ρ ρ₁ : Rho} {W W' : Addr → Prop} {n : Nat}

theorem ItemIs.rep {h ω x own d v} (I : ItemIs C W h ω x own d v) : Rep h (fun _ => True) v d := by
  cases own with
  | false => exact Rep.any I
  | true =>
    obtain ⟨rfl, _, _, _, ds, vs, rfl, hl, R⟩ := I
    exact .list trivial hl R.any

theorem ItemIs.mono {h h' ω x own d v} (I : ItemIs C W h ω x own d v) (hk : ∀ b o, h.get? b = some o → h'.get? b = some o) : ItemIs C W h' ω x own d v := by
  cases own with
  | false => exact Rep.mono (fun b o _ e => hk b o e) (fun _ _ a _ => a) I
  | true =>
    obtain ⟨rfl, a, b, c, ds, vs, rfl, hl, R⟩ := I
    exact ⟨rfl, a, b, c, ds, vs, rfl, hl.at fun o e => hk _ o e, R.mono (fun b o _ e => hk b o e) fun _ _ a _ => a⟩

theorem St.ok {s : Shared} (G : Own C n) (S : St C ρ W s) : Ok C (rd ρ) s := by
  obtain ⟨m, cm, ω, X⟩ := S.ex
  refine ⟨S.tk, ⟨m, X.fr⟩, m, G.eL ▸ X.fr.ns, fun e he => ?_⟩
  obtain ⟨e', he', rfl⟩ := List.mem_map.mp he
  obtain ⟨v, V, I⟩ := X.vars e' he'
  refine ⟨v, ?_, I.rep⟩
  rcases V with V | ⟨a, ⟨c, hc⟩, q⟩
  · exact .inl V
  · exact .inr ⟨.inl a, c, hc, q ▸ X.cl.cell _ c hc⟩

theorem StX.keeps {h h' : Heap} {m cm ω} (X : StX C ρ W h m cm ω) (hk : ∀ b o, h.get? b = some o → h'.get? b = some o) : StX C ρ W h' m cm ω :=
  ⟨X.fr.keeps hk, X.cl.keeps hk, X.wl, X.wc, fun a ha => let ⟨o, e⟩ := X.al a ha; ⟨o, hk a o e⟩, X.nw, fun e he => let ⟨v, V, I⟩ := X.vars e he; ⟨v, V, I.mono hk⟩, X.sep⟩
theorem St.keeps {s s' : Shared} (S : St C ρ W s) (k : Kp s s') : St C ρ W s' :=
  ⟨fun q => Nat.lt_of_lt_of_le (S.tk q) k.2, let ⟨m, cm, ω, X⟩ := S.ex; ⟨m, cm, ω, X.keeps k.get⟩⟩
theorem St.sub {s : Shared} (S : St C ρ W s) (h : ∀ e ∈ ρ₁, e ∈ ρ) : St C ρ₁ W s :=
  ⟨S.tk, let ⟨m, cm, ω, X⟩ := S.ex; ⟨m, cm, ω, X.fr, X.cl, X.wl, X.wc, X.al, X.nw, fun e he => X.vars e (h e he), fun a ha b hb => X.sep a (h a ha) b (h b hb)⟩⟩

/-! what a statement comes to -/
inductive Out where
  | next (ρ : Rho)
  | brk (ρ : Rho)
  | ret (d : D)

def Post (C : Cx) (s : Shared) (W : Addr → Prop) (out : Out) (f : Flow) (s' : Shared) : Prop :=
  ∃ W', Fram W W' s s' ∧ match out with
    | .next ρ => f = .next ∧ St C ρ W' s'
    | .brk ρ => f = .brk ∧ St C ρ W' s'
    | .ret d => ∃ v, f = .ret v ∧ Rep s'.heap (fun a => C.h₀.get? a = none) v d ∧ ∃ m, Fr C.h₀ C.L s'.heap m

theorem Post.later {s s₁ : Shared} {out f s'} (F : Fram W W' s s₁) (P : Post C s₁ W' out f s') : Post C s W out f s' := by
  obtain ⟨W₂, F₂, r⟩ := P
  exact ⟨W₂, F.trans F₂, r⟩

def Ex (C : Cx) (ρ : Rho) (st : Stmt) (out : Out) : Prop := ∀ s W, St C ρ W s → wpAny (model C.prog C.w) C.A (exec st C.env) (Post C s W out) bot s
def Exs (C : Cx) (ρ : Rho) (b : List Stmt) (out : Out) : Prop := ∀ s W, St C ρ W s → wpAny (model C.prog C.w) C.A (execs b C.env) (Post C s W out) bot s

theorem Exs.nil : Exs C ρ [] (.next ρ) := fun s W S => wpAny_execs_nil ⟨W, .refl W s, rfl, S⟩
theorem Exs.cons {st : Stmt} {rest : List Stmt} {out : Out} (h : Ex C ρ st (.next ρ₁)) (r : Exs C ρ₁ rest out) : Exs C ρ (st :: rest) out := fun s W S =>
  wpAny_execs_cons (wpAny_mono (h s W S) (fun f s₁ P => by
    obtain ⟨W', F, rfl, S'⟩ := P
    exact wpAny_mono (r s₁ W' S') (fun _ _ P => P.later F) fun _ _ x => x) fun _ _ x => x)
theorem Exs.ret {st : Stmt} {rest : List Stmt} {d : D} (h : Ex C ρ st (.ret d)) : Exs C ρ (st :: rest) (.ret d) := fun s W S =>
  wpAny_execs_cons (wpAny_mono (h s W S) (fun f s₁ P => by
    obtain ⟨W', F, v, rfl, r⟩ := P
    exact ⟨W', F, v, rfl, r⟩) fun _ _ x => x)
theorem Exs.brk {st : Stmt} {rest : List Stmt} (h : Ex C ρ st (.brk ρ₁)) : Exs C ρ (st :: rest) (.brk ρ₁) := fun s W S =>
  wpAny_execs_cons (wpAny_mono (h s W S) (fun f s₁ P => by
    obtain ⟨W', F, rfl, r⟩ := P
    exact ⟨W', F, rfl, r⟩) fun _ _ x => x)
theorem Exs.pre {b : List Stmt} {out : Out} (h : Exs C ρ₁ b out) (hs : ∀ e ∈ ρ₁, e ∈ ρ) : Exs C ρ b out := fun s W S => h s W (S.sub hs)
theorem Exs.post {b : List Stmt} (h : Exs C ρ b (.next ρ₁)) {ρ₂ : Rho} (hs : ∀ e ∈ ρ₂, e ∈ ρ₁) : Exs C ρ b (.next ρ₂) := fun s W S =>
  wpAny_mono (h s W S) (fun f s' P => by obtain ⟨W', F, e, S'⟩ := P; exact ⟨W', F, e, S'.sub hs⟩) fun _ _ x => x
theorem Ex.post {b : Stmt} (h : Ex C ρ b (.next ρ₁)) {ρ₂ : Rho} (hs : ∀ e ∈ ρ₂, e ∈ ρ₁) : Ex C ρ b (.next ρ₂) := fun s W S =>
  wpAny_mono (h s W S) (fun f s' P => by obtain ⟨W', F, e, S'⟩ := P; exact ⟨W', F, e, S'.sub hs⟩) fun _ _ x => x
theorem Ex.pre {b : Stmt} {out : Out} (h : Ex C ρ₁ b out) (hs : ∀ e ∈ ρ₁, e ∈ ρ) : Ex C ρ b out := fun s W S => h s W (S.sub hs)

theorem Ex.pass {pos : Pos} : Ex C ρ (.Pass pos) (.next ρ) := fun s W S => wpAny_Pass ⟨W, .refl W s, rfl, S⟩
theorem Ex.brk {pos : Pos} : Ex C ρ (.Break pos) (.brk ρ) := fun s W S => wpAny_Break ⟨W, .refl W s, rfl, S⟩

theorem Ex.ifT {t : Expr} {b e : List Stmt} {pos : Pos} {out : Out} (G : Own C n) (ht : Tr C (rd ρ) t true) (hb : Exs C ρ b out) : Ex C ρ (.If t b e pos) out := fun s W S =>
  wpAny_If (wpAny_mono (ht s (S.ok G)) (fun v s₁ g => by
    obtain ⟨k, rfl⟩ := g
    exact wpAny_mono (hb s₁ W (S.keeps k)) (fun _ _ P => P.later (Fram.of_kp k)) fun _ _ x => x) fun _ _ x => x)
theorem Ex.ifF {t : Expr} {b e : List Stmt} {pos : Pos} {out : Out} (G : Own C n) (ht : Tr C (rd ρ) t false) (he : Exs C ρ e out) : Ex C ρ (.If t b e pos) out := fun s W S =>
  wpAny_If (wpAny_mono (ht s (S.ok G)) (fun v s₁ g => by
    obtain ⟨k, rfl⟩ := g
    exact wpAny_mono (he s₁ W (S.keeps k)) (fun _ _ P => P.later (Fram.of_kp k)) fun _ _ x => x) fun _ _ x => x)

theorem Ex.ret {e : Expr} {pos : Pos} {d : D} (G : Own C n) (he : Ev C (rd ρ) e d true) : Ex C ρ (.Return (some e) pos) (.ret d) := fun s W S =>
  wpAny_Return_some (wpAny_mono (he s (S.ok G)) (fun v s₁ g => by
    obtain ⟨m, F⟩ := ((S.ok G).keeps g.1).fr
    obtain ⟨m₀, F₀⟩ := (S.ok G).fr
    refine ⟨W, Fram.of_kp g.1, v, rfl, g.2.mono (fun _ _ _ e => e) fun a o hf e => ?_, m, F⟩
    cases q : C.h₀.get? a with
    | none => rfl
    | some o => have := hf rfl; rw [F₀.keep a o q] at this; cases this) fun _ _ x => x)
/-- the list of an own name is handed back -/
theorem Ex.retOwn {x : Str} {p pos : Pos} {d : D} (G : Own C n) (hm : (x, true, d) ∈ ρ) (hd : (x == ("__debug__" : Str)) = false := by decide) : Ex C ρ (.Return (some (.Name x p)) pos) (.ret d) := fun s W S => by
  obtain ⟨m, cm, ω, X⟩ := S.ex
  obtain ⟨v, V, I⟩ := X.vars _ hm
  obtain ⟨rfl, hw, _, _, ds, vs, rfl, hl, R⟩ := I
  have fin : Post C s W (.ret (.list ds)) (.ret (.ref (ω x))) s := ⟨W, .refl W s, _, rfl, .list (X.nw _ hw) hl (R.mono (fun _ _ _ e => e) fun _ _ a _ => a.elim), m, X.fr⟩
  refine wpAny_Return_some ?_
  rcases V with ⟨hx, hv⟩ | ⟨hx, ⟨c, hc⟩, hv⟩
  · exact wpAny_Name (wpAny_loadName_local G.kd hx (G.eL ▸ X.fr.ns) hv fin) hd
  · exact wpAny_Name (wpAny_loadName_cell G.kd hx hc (hv ▸ X.cl.cell _ c hc) fin) hd

/-! names are stored -/
inductive Rm (x : Str) : Rho → Rho → Prop
  | nil : Rm x [] []
  | skip {o : Bool} {d : D} {ρ ρ₁ : Rho} : Rm x ρ ρ₁ → Rm x ((x, o, d) :: ρ) ρ₁
  | keep {y : Str} {o : Bool} {d : D} {ρ ρ₁ : Rho} : (y == x) = false → Rm x ρ ρ₁ → Rm x ((y, o, d) :: ρ) ((y, o, d) :: ρ₁)
theorem Rm.mem {x : Str} : ∀ {ρ ρ₁ : Rho}, Rm x ρ ρ₁ → ∀ e ∈ ρ₁, e ∈ ρ ∧ e.1 ≠ x
  | _, _, .nil, e, h => nomatch h
  | _, _, .skip r, e, h => let ⟨a, b⟩ := Rm.mem r e h; ⟨.tail _ a, b⟩
  | _, _, .keep hy r, e, h => by
    cases h with
    | head => exact ⟨.head _, fun q => by have q' : _ = x := q; subst q'; simp at hy⟩
    | tail _ h => let ⟨a, b⟩ := Rm.mem r e h; exact ⟨.tail _ a, b⟩

def adr : Value → Addr
  | .ref a => a
  | _ => 0
/-- the value that a name is to hold, made from s on -/
def NewVal (C : Cx) (W W' : Addr → Prop) (s s₁ : Shared) (own : Bool) (d : D) (v : Value) : Prop :=
  match own with
  | false => W' = W ∧ Rep s₁.heap (fun a => ¬ W a) v d
  | true => ∃ a ds vs, v = .ref a ∧ d = .list ds ∧ s.heap.get? a = none ∧ (W' = fun b => W b ∨ b = a) ∧ s₁.heap.PlainList a (List.toArray vs) ∧ Reps s₁.heap (fun _ => False) vs ds

theorem store_one {s s₁ : Shared} {x : Str} {own : Bool} {d : D} {v : Value} {ρ' : Rho} (G : Own C n) (S : St C ρ W s) (k : Kp s s₁) (NV : NewVal C W W' s s₁ own d v) (hr : Rm x ρ ρ') (hx : C.env.kindOf x = some .local ∨ (C.env.kindOf x = some .cell ∧ ∃ c, C.env.cells.lookup x = some c)) :
    wpAny (model C.prog C.w) C.A (storeName C.env x v) (fun _ s' => Fram W W' s s' ∧ St C ((x, own, d) :: ρ') W' s' ∧ ∀ b o, ¬ W b → s₁.heap.get? b = some o → s'.heap.get? b = some o) bot s₁ := by
  obtain ⟨m, cm, ω, X⟩ := S.ex
  have X₁ := X.keeps k.get
  have kt := k.2
  have hge : ∀ a, W a → W' a := by
    cases own with
    | false => obtain ⟨rfl, _⟩ := NV; exact fun _ h => h
    | true => obtain ⟨a, ds, vs, _, _, _, rfl, _⟩ := NV; exact fun _ h => .inl h
  have hnew : ∀ b, W' b → W b ∨ s.heap.get? b = none := by
    cases own with
    | false => obtain ⟨rfl, _⟩ := NV; exact fun _ h => .inl h
    | true => obtain ⟨a, ds, vs, _, _, hn, rfl, _⟩ := NV; exact fun b h => h.imp id fun (e : b = a) => by rw [e]; exact hn
  -- all but one address of the frame's own stays
  have main : ∀ (P : Addr) (h' : Heap) (tk : Tok) (m' cm' : Str → Option Value), s.toks ≤ tk → W P → (P = C.L ∨ ∃ e ∈ C.env.cells, e.2 = P) → (∃ o, h'.get? P = some o) → Fr C.h₀ C.L h' m' → Cl C.L C.env.cells h' cm' → Heap.SameBut P s₁.heap h' →
      (∀ y u, y ≠ x → VarS C m cm y u → VarS C m' cm' y u) → VarS C m' cm' x v → Fram W W' s { s₁ with heap := h', toks := tk } ∧ St C ((x, own, d) :: ρ') W' { s₁ with heap := h', toks := tk } ∧ ∀ b o, ¬ W b → s₁.heap.get? b = some o → h'.get? b = some o := by
    intro P h' tk m' cm' htk hP hPP hPe F' L' hs hold hvx
    have keepO : ∀ b o, b ≠ P → s₁.heap.get? b = some o → h'.get? b = some o := fun b o hb e => hs.extBut b o hb e
    have keepN : ∀ b o, ¬ W b → s₁.heap.get? b = some o → h'.get? b = some o := fun b o hb e => keepO b o (fun q => hb (q ▸ hP)) e
    have neP : ∀ b, b ≠ C.L → (∀ c ∈ C.env.cells, b ≠ c.2) → b ≠ P := fun b h1 h2 q => by
      rcases hPP with rfl | ⟨e, he, rfl⟩
      · exact h1 q
      · exact h2 e he q
    obtain ⟨⟨h₁, t₁, e₁, _⟩, _⟩ := id k
    refine ⟨⟨⟨h', tk, by rw [e₁]⟩, htk, fun b o hb e => keepN b o hb (k.get b o e), hnew⟩, ⟨fun q => Nat.lt_of_lt_of_le (S.tk q) htk, m', cm', fun y => if y = x then adr v else ω y, F', L', hge _ X.wl, fun e he => hge _ (X.wc e he), ?_, ?_, ?_, ?_⟩, keepN⟩
    · intro a ha
      have al₁ : ∃ o, s₁.heap.get? a = some o := by
        cases own with
        | false => obtain ⟨rfl, _⟩ := NV; exact X₁.al a ha
        | true =>
          obtain ⟨a', ds, vs, _, _, _, rfl, ⟨_, e⟩, _⟩ := NV
          rcases ha with ha | rfl
          · exact X₁.al a ha
          · exact ⟨_, e⟩
      by_cases hq : a = P
      · rw [hq]; exact hPe
      · obtain ⟨o, e⟩ := al₁
        exact ⟨o, keepO a o hq e⟩
    · intro a ha
      rcases hnew a ha with q | q
      · exact X.nw a q
      · cases e : C.h₀.get? a with
        | none => rfl
        | some o => rw [X.fr.keep a o e] at q; cases q
    · intro e he
      rcases List.mem_cons.mp he with rfl | he
      · refine ⟨v, hvx, ?_⟩
        cases own with
        | false =>
          obtain ⟨rfl, R⟩ := NV
          exact Rep.mono (fun b o hb e => keepN b o hb e) (fun _ _ a _ => a) R
        | true =>
          obtain ⟨a, ds, vs, rfl, rfl, hn, rfl, hl, R⟩ := NV
          have hex : ∀ b, W b → a ≠ b := fun b hb q => by obtain ⟨o, e⟩ := X.al b hb; rw [← q, hn] at e; cases e
          simp only [ItemIs, if_true, adr]
          refine ⟨trivial, .inr trivial, hex _ X.wl, fun c hc => hex _ (X.wc c hc), ds, vs, rfl, ?_, R.mono (fun b o q _ => q.elim) fun _ _ a _ => a⟩
          exact hl.at fun o e => keepO a o (hex P hP) e
      · obtain ⟨hm, hne⟩ := hr.mem e he
        obtain ⟨u, V, I⟩ := X.vars e hm
        refine ⟨u, hold _ _ hne V, ?_⟩
        obtain ⟨y, o, dd⟩ := e
        cases o with
        | false =>
          refine Rep.mono (fun b o hb e => keepN b o hb (k.get b o e)) (fun b o hb e q => ?_) I
          rcases hnew b q with q | q
          · exact hb q
          · rw [q] at e; cases e
        | true =>
          obtain ⟨rfl, hw, h1, h2, ds, vs, rfl, hl, R⟩ := I
          have hne' : ¬ y = x := hne
          simp only [ItemIs, if_neg hne']
          refine ⟨trivial, hge _ hw, h1, h2, ds, vs, rfl, ?_, R.mono (fun b o q _ => q.elim) fun _ _ a _ => a⟩
          exact (hl.at fun o e => k.get _ o e).at fun o e => keepO _ o (neP _ h1 h2) e
    · intro e₁ he₁ e₂ he₂ o₁ o₂ hq
      have hd : ∀ e ∈ ρ', e.2.1 = true → own = true → ω e.1 ≠ adr v := fun e he oe oo q => by
        obtain ⟨u, V, I⟩ := X.vars e (hr.mem e he).1
        obtain ⟨y, o, dd⟩ := e
        simp only at oe
        subst oe oo
        obtain ⟨a, ds, vs, rfl, _, hn, _⟩ := NV
        obtain ⟨_, hw, _⟩ := I
        obtain ⟨o, e⟩ := X.al _ hw
        have q' : ω y = a := q
        rw [q', hn] at e
        cases e
      rcases List.mem_cons.mp he₁ with rfl | he₁ <;> rcases List.mem_cons.mp he₂ with rfl | he₂
      · rfl
      · exfalso
        have hne := (hr.mem _ he₂).2
        simp only [if_pos, if_neg hne] at hq
        exact hd _ he₂ o₂ o₁ hq.symm
      · exfalso
        have hne := (hr.mem _ he₁).2
        simp only [if_pos, if_neg hne] at hq
        exact hd _ he₁ o₁ o₂ hq
      · have h1 := hr.mem _ he₁
        have h2 := hr.mem _ he₂
        simp only [if_neg h1.2, if_neg h2.2] at hq
        exact X.sep _ h1.1 _ h2.1 o₁ o₂ hq
  rcases hx with hx | ⟨hx, c, hc⟩
  · refine wpAny_storeName_local hx (G.eL ▸ X₁.fr.ns) (fun h' hn hs => ?_) (by simp [G.kd])
    rw [G.eL] at hn hs
    obtain ⟨o, _, _, q, _⟩ := id hn
    refine main C.L h' _ (fun y => if y = x then some v else m y) cm (Nat.le_trans kt (Nat.le_succ _)) X.wl (.inl rfl) ⟨o, q⟩ (X₁.fr.set hn hs) (X₁.cl.sameBut hs (Nat.le_refl _)) hs (fun y u hy V => ?_) (.inl ⟨hx, by simp⟩)
    rcases V with ⟨a, b⟩ | V
    · exact .inl ⟨a, by simpa [hy] using b⟩
    · exact .inr V
  · have hLc : C.L < c := X.cl.above x c (mem_of_lookup hc)
    refine wpAny_storeName_cell G.kd hx hc (X₁.cl.cell x c hc) fun h' hv hs => ?_
    have F' : Fr C.h₀ C.L h' m := ⟨X₁.fr.ns.sameBut hs (Nat.ne_of_lt hLc), fun b o e => (hs.2 b (Nat.ne_of_lt (Nat.lt_trans (Nat.lt_of_lt_of_le (Heap.lt_size e) X.fr.above) hLc))).trans (X₁.fr.keep b o e), X.fr.above⟩
    have L' : Cl C.L C.env.cells h' (fun y => if y = x then some v else cm y) := ⟨fun y c' e => by
      by_cases hy : y = x
      · subst hy; rw [hc] at e; cases e; simpa using hv
      · have hcc : c' ≠ c := fun q => hy (name_of_addr X.cl.apart (mem_of_lookup e) (q ▸ mem_of_lookup hc))
        simpa [hy] using (X₁.cl.cell y c' e).sameBut hs hcc, X.cl.apart, X.cl.above⟩
    obtain ⟨o, q, _⟩ := id hv
    have := main c h' s₁.toks m _ kt (X.wc _ (mem_of_lookup hc)) (.inr ⟨_, mem_of_lookup hc, rfl⟩) ⟨o, q⟩ F' L' hs (fun y u hy V => ?_) (.inr ⟨hx, ⟨c, hc⟩, by simp⟩)
    · exact this
    · rcases V with V | ⟨a, b, cc⟩
      · exact .inl V
      · exact .inr ⟨a, b, by simpa [hy] using cc⟩
end
end Mine
end

section
open PySem PySem.W PyProof.Rows
set_option Elab.async false
set_option maxRecDepth 100000
set_option linter.unusedVariables false
namespace Mine
section
variable {C : Cx} {ρ ρ₁ : Rho} {W W' : Addr → Prop} {n : Nat}

def Stor (C : Cx) (x : Str) : Prop := C.env.kindOf x = some .local ∨ (C.env.kindOf x = some .cell ∧ ∃ c, C.env.cells.lookup x = some c)

theorem newval_ro {s s₁ : Shared} {v : Value} {d : D} {fr : Bool} (S : St C ρ W s) (g : Got s fr d v s₁) (hd : fr = true ∨ d.atom) : NewVal C W W s s₁ false d v := by
  obtain ⟨m, cm, ω, X⟩ := S.ex
  rcases hd with rfl | hd
  · exact ⟨rfl, g.2.mono (fun _ _ _ e => e) fun a o hf e hw => by obtain ⟨o', e'⟩ := X.al a hw; rw [hf rfl] at e'; cases e'⟩
  · exact ⟨rfl, g.2.atom hd⟩
theorem newval_own {s s₁ : Shared} {v : Value} {ds : List D} (S : St C ρ W s) (g : Got s true (.list ds) v s₁) (hd : ∀ d ∈ ds, d.atom) : ∃ a, NewVal C W (fun b => W b ∨ b = a) s s₁ true (.list ds) v := by
  have x := g.2
  cases x
  rename_i a vs ha hl R
  exact ⟨a, a, ds, vs, rfl, rfl, ha rfl, rfl, hl, R.atoms hd⟩

/-- x = e -/
theorem Ex.set {x : Str} {p pos : Pos} {e : Expr} {d : D} {fr : Bool} (G : Own C n) (he : Ev C (rd ρ) e d fr) (hd : fr = true ∨ d.atom) (hx : Stor C x) (hr : Rm x ρ ρ₁)
    (hs : swapsWith e (some (.Name x p)) pos.line C.env = pure false := by rfl) : Ex C ρ (.Assign [.Name x p] e pos) (.next ((x, false, d) :: ρ₁)) := fun s W S =>
  wpAny_Assign_Name (wpAny_mono (he s (S.ok G)) (fun v s₁ g => wpAny_mono (store_one G S g.1 (newval_ro S g hd) hr hx) (fun _ s₂ q => ⟨W, q.1, rfl, q.2.1⟩) fun _ _ x => x) fun _ _ x => x) hs
theorem Ex.own {x : Str} {p pos : Pos} {e : Expr} {ds : List D} (G : Own C n) (he : Ev C (rd ρ) e (.list ds) true) (hd : ∀ d ∈ ds, d.atom) (hx : Stor C x) (hr : Rm x ρ ρ₁)
    (hs : swapsWith e (some (.Name x p)) pos.line C.env = pure false := by rfl) : Ex C ρ (.Assign [.Name x p] e pos) (.next ((x, true, .list ds) :: ρ₁)) := fun s W S =>
  wpAny_Assign_Name (wpAny_mono (he s (S.ok G)) (fun v s₁ g => by
    obtain ⟨a, NV⟩ := newval_own S g hd
    exact wpAny_mono (store_one G S g.1 NV hr hx) (fun _ s₂ q => ⟨_, q.1, rfl, q.2.1⟩) fun _ _ x => x) fun _ _ x => x) hs

/-- x += e, texts -/
theorem Ex.augS {x : Str} {p pos : Pos} {e : Expr} {a b : Str} {fr : Bool} (G : Own C n) (hm : (x, false, .str a) ∈ ρ) (he : Ev C (rd ρ) e (.str b) fr) (hl : a.length + b.length ≤ 16777216) (hx : Stor C x) (hr : Rm x ρ ρ₁) :
    Ex C ρ (.AugAssign (.Name x p) .Add e pos) (.next ((x, false, .str (a ++ b)) :: ρ₁)) := fun s W S => by
  obtain ⟨m, cm, ω, X⟩ := S.ex
  obtain ⟨v, V, I⟩ := X.vars _ hm
  have I' : Rep s.heap (fun a => ¬ W a) v (.str a) := I
  cases I'
  rename_i t
  have rest : wpAny (model C.prog C.w) C.A (eval e C.env) (fun u s₂ => wpAny (model C.prog C.w) C.A (inplaceOp .Add (.str a t) u) (fun r s₃ => wpAny (model C.prog C.w) C.A (storeName C.env x r) (fun _ => Post C s W (.next ((x, false, .str (a ++ b)) :: ρ₁)) .next) bot s₃) bot s₂) bot s := by
    refine wpAny_mono (he s (S.ok G)) (fun u s₂ g => ?_) fun _ _ x => x
    have y := g.2
    cases y
    rename_i u
    refine wpAny_mono (up (fr := true) (d := .str (a ++ b)) (SB.iadd (fun _ _ => ⟨keeps_tok, .str _ _⟩) (le_line hl))) (fun r s₃ q => ?_) fun _ _ x => x
    exact wpAny_mono (store_one G S (g.1.trans q.1) (newval_ro S (q.later g.1) (.inl rfl)) hr hx) (fun _ s₂ q => ⟨W, q.1, rfl, q.2.1⟩) fun _ _ x => x
  refine wpAny_AugAssign_Name ?_
  rcases V with ⟨hk, hv⟩ | ⟨hk, ⟨c, hc⟩, hv⟩
  · exact wpAny_loadName_local G.kd hk (G.eL ▸ X.fr.ns) hv rest
  · exact wpAny_loadName_cell G.kd hk hc (hv ▸ X.cl.cell _ c hc) rest

/-! the list of an own name is changed -/
theorem own_read {s : Shared} {x : Str} {ds : List D} (G : Own C n) (S : St C ρ W s) (hm : (x, true, .list ds) ∈ ρ) : ∃ m cm ω vs, StX C ρ W s.heap m cm ω ∧ VarS C m cm x (.ref (ω x)) ∧ W (ω x) ∧ ω x ≠ C.L ∧ (∀ c ∈ C.env.cells, ω x ≠ c.2) ∧ s.heap.PlainList (ω x) (List.toArray vs) ∧ Reps s.heap (fun _ => False) vs ds := by
  obtain ⟨m, cm, ω, X⟩ := S.ex
  obtain ⟨v, V, I⟩ := X.vars _ hm
  obtain ⟨rfl, hw, h1, h2, ds', vs, e, hl, R⟩ := I
  cases e
  exact ⟨m, cm, ω, vs, X, V, hw, h1, h2, hl, R⟩
theorem name_own {x : Str} {p : Pos} {s : Shared} {m cm ω} {a : Addr} {Q : Value → Shared → Prop} {E : Value → Shared → Prop} (G : Own C n) (X : StX C ρ W s.heap m cm ω) (V : VarS C m cm x (.ref a)) (hd : (x == ("__debug__" : Str)) = false) (h : Q (.ref a) s) :
    wpAny (model C.prog C.w) C.A (eval (.Name x p) C.env) Q E s := by
  rcases V with ⟨hk, hv⟩ | ⟨hk, ⟨c, hc⟩, hv⟩
  · exact wpAny_Name (wpAny_loadName_local G.kd hk (G.eL ▸ X.fr.ns) hv h) hd
  · exact wpAny_Name (wpAny_loadName_cell G.kd hk hc (hv ▸ X.cl.cell _ c hc) h) hd

/-- behind a change of the own list at a: all else stands -/
theorem changed {s s₁ : Shared} {x : Str} {ds es : List D} {h' : Heap} {tk : Tok} {us : List Value} {m cm ω} (G : Own C n) (X : StX C ρ W s₁.heap m cm ω) (hm : (x, true, .list ds) ∈ ρ) (hr : Rm x ρ ρ₁) (htz : C.tz = true → 0 < tk) (V : VarS C m cm x (.ref (ω x)))
    (hw : W (ω x)) (h1 : ω x ≠ C.L) (h2 : ∀ c ∈ C.env.cells, ω x ≠ c.2) (hl : h'.PlainList (ω x) (List.toArray us)) (R : Reps h' (fun _ => False) us es) (hs : Heap.SameBut (ω x) s₁.heap h') :
    St C ((x, true, .list es) :: ρ₁) W { s₁ with heap := h', toks := tk } := by
  have keepO : ∀ b o, b ≠ ω x → s₁.heap.get? b = some o → h'.get? b = some o := fun b o hb e => hs.extBut b o hb e
  have h0 : C.h₀.get? (ω x) = none := X.nw _ hw
  refine ⟨htz, m, cm, ω, ⟨X.fr.ns.sameBut hs (Ne.symm h1), fun b o e => keepO b o (fun q => by rw [q, h0] at e; cases e) (X.fr.keep b o e), X.fr.above⟩, ⟨fun y c e => ?_, X.cl.apart, X.cl.above⟩, X.wl, X.wc, fun a ha => ?_, X.nw, fun e he => ?_, fun e₁ he₁ e₂ he₂ o₁ o₂ hq => ?_⟩
  · exact (X.cl.cell y c e).sameBut hs (Ne.symm (h2 _ (mem_of_lookup e)))
  · obtain ⟨o, e⟩ := X.al a ha
    by_cases hq : a = ω x
    · obtain ⟨_, e'⟩ := hl; exact ⟨_, hq ▸ e'⟩
    · exact ⟨o, keepO a o hq e⟩
  · rcases List.mem_cons.mp he with rfl | he
    · exact ⟨_, V, rfl, hw, h1, h2, es, us, rfl, hl, R⟩
    · obtain ⟨hm', hne⟩ := hr.mem e he
      obtain ⟨v, V', I⟩ := X.vars e hm'
      refine ⟨v, V', ?_⟩
      obtain ⟨y, o, d⟩ := e
      cases o with
      | false => exact Rep.mono (fun b o hb e => keepO b o (fun q => hb (q ▸ hw)) e) (fun _ _ a _ => a) I
      | true =>
        obtain ⟨rfl, hw', h1', h2', ds', vs', rfl, hl', R'⟩ := I
        have hne' : ω y ≠ ω x := fun q => hne (X.sep _ hm' _ hm rfl rfl q)
        exact ⟨rfl, hw', h1', h2', ds', vs', rfl, hl'.at fun o e => keepO _ o hne' e, R'.mono (fun _ _ q _ => q.elim) fun _ _ a _ => a⟩
  · have back : ∀ e ∈ ((x, true, .list es) :: ρ₁ : Rho), ∃ o d, (e.1, o, d) ∈ ρ ∧ (e.2.1 = true → o = true) := fun e he => by
      rcases List.mem_cons.mp he with rfl | he
      · exact ⟨true, _, hm, fun h => h⟩
      · exact ⟨e.2.1, e.2.2, (hr.mem e he).1, fun h => h⟩
    obtain ⟨o, d, q1, r1⟩ := back e₁ he₁
    obtain ⟨o', d', q2, r2⟩ := back e₂ he₂
    exact X.sep (e₁.1, o, d) q1 (e₂.1, o', d') q2 (r1 o₁) (r2 o₂) hq

theorem fram_but {s s₁ : Shared} {a : Addr} {h' : Heap} {tk : Tok} (k : Kp s s₁) (hw : W a) (hs : Heap.SameBut a s₁.heap h') (ht : s.toks ≤ tk) : Fram W W s { s₁ with heap := h', toks := tk } := by
  obtain ⟨⟨h₁, t₁, e₁, k₁⟩, _⟩ := k
  refine ⟨⟨h', tk, by rw [e₁]⟩, ht, fun b o hb e => hs.extBut b o (fun q => hb (q ▸ hw)) (by rw [e₁]; exact k₁ b o e), fun _ h => .inl h⟩

/-- x.append(e) -/
theorem Ex.append {x : Str} {e : Expr} {p ap cp pos : Pos} {pl : Sem Bool} {ds : List D} {d : D} {fr : Bool} (G : Own C n) (hm : (x, true, .list ds) ∈ ρ) (hr : Rm x ρ ρ₁) (he : Ev C (rd ρ) e d fr) (hd : d.atom) (hsz : ds.length ≤ 16777216)
    (hq : MethEq C.env (.Name x p) "append" ap [e] cp pl) (hdb : (x == ("__debug__" : Str)) = false) (hse : starEach [e] C.env = [(false, eval e C.env)] := by rfl) (hi : interactive C.env = false := by rfl)
    (hsw : swapsWith (.Call (.Attribute (.Name x p) "append" ap) [e] [] cp) none pos.line C.env = pure false := by rfl) :
    Ex C ρ (.Expr (.Call (.Attribute (.Name x p) "append" ap) [e] [] cp) pos) (.next ((x, true, .list (ds ++ [d])) :: ρ₁)) := fun s W S => by
  obtain ⟨m, cm, ω, vs, X, V, hw, h1, h2, hl, R⟩ := own_read G S hm
  refine wpAny_Expr (MethodCall_ (name_own G X V hdb ?_) hq) hi hsw
  refine PySem.Calls.getMethod_list_append hl.choose_spec rfl rfl (callWith_method1 (args_cons (wpAny_mono (he s (S.ok G)) (fun v s₁ g => args_nil ?_) fun _ _ x => x) hse) hse rfl)
  have hl₁ : s₁.heap.PlainList (ω x) (List.toArray vs) := hl.at fun o e => g.1.get _ o e
  have hn := R.length
  refine wpAny_list_append_plain (hsz := by rw [List.size_toArray, hn]; exact le_line hsz) hl₁ fun h' hl' hs => ?_
  refine ⟨W, fram_but (h' := h') (tk := s₁.toks) g.1 hw hs g.1.2, rfl, ?_⟩
  exact changed (s := s) (s₁ := s₁) (us := vs ++ [v]) (tk := s₁.toks) G (X.keeps g.1.get) hm hr (fun q => Nat.lt_of_lt_of_le (S.tk q) g.1.2) V hw h1 h2 (by simpa using hl') ((R.mono (fun _ _ q _ => q.elim) fun _ _ a _ => a).append (.cons (g.2.atom hd) .nil)) hs

theorem Reps.setAt {h ok} {v : Value} {d : D} (x : Rep h ok v d) : ∀ (j : Nat) {vs : List Value} {ds : List D}, Reps h ok vs ds → Reps h ok (vs.set j v) (ds.set j d)
  | _, _, _, .nil => .nil
  | 0, _, _, .cons _ r => .cons x r
  | j + 1, _, _, .cons y r => .cons y (Reps.setAt x j r)
theorem plain_mapSeq {h : Heap} {a : Addr} {xs : Array Value} {c : Nat} (f : Array Value → Array Value) (e : h.get? a = some { cls := .type "list", data := .seq xs c }) : (h.update a (Obj.mapSeq f)).PlainList a (f xs) :=
  ⟨if (f xs).size == xs.size then c else c + 1, (Heap.get?_update_self _ e rfl)⟩
/-- x[i] = e -/
theorem Ex.setAt {x : Str} {i e : Expr} {p p' pos : Pos} {ds : List D} {k : Int} {d : D} {f₁ f₂ : Bool} (G : Own C n) (hm : (x, true, .list ds) ∈ ρ) (hr : Rm x ρ ρ₁) (he : Ev C (rd ρ) e d f₁) (hd : d.atom) (hi : Ev C (rd ρ) i (.int k) f₂) (h0 : 0 ≤ k) (hk : k < ds.length) (hb : k < 2 ^ 63)
    (hdb : (x == ("__debug__" : Str)) = false) (hsw : swapsWith e (some (.Subscript (.Name x p) i p')) pos.line C.env = pure false := by rfl) :
    Ex C ρ (.Assign [.Subscript (.Name x p) i p'] e pos) (.next ((x, true, .list (ds.set k.toNat d)) :: ρ₁)) := fun s W S => by
  refine wpAny_Assign_Subscript (wpAny_mono (he s (S.ok G)) (fun v s₁ g₁ => ?_) fun _ _ x => x) hsw
  have S₁ := S.keeps g₁.1
  obtain ⟨m, cm, ω, vs, X, V, hw, h1, h2, hl, R⟩ := own_read G S₁ hm
  refine name_own G X V hdb (wpAny_mono (hi s₁ (S₁.ok G)) (fun u s₂ g₂ => ?_) fun _ _ x => x)
  have y := g₂.2
  cases y
  rename_i u
  obtain ⟨c, hc⟩ := hl.at fun o e => g₂.1.get _ o e
  have hn := R.length
  refine ki_setAt hc h0 hb (by simp only [List.size_toArray]; omega) ?_
  have hs := Heap.SameBut.update s₂.heap (ω x) (Obj.mapSeq fun xs => xs.setIfInBounds k.toNat v)
  refine ⟨W, fram_but (h' := _) (tk := s₂.toks) (g₁.1.trans g₂.1) hw hs (g₁.1.trans g₂.1).2, rfl, ?_⟩
  refine changed (s := s) (s₁ := s₂) (us := vs.set k.toNat v) (tk := s₂.toks) G (X.keeps g₂.1.get) hm hr (fun q => Nat.lt_of_lt_of_le (S.tk q) (g₁.1.trans g₂.1).2) V hw h1 h2 ?_ ?_ hs
  · have q := plain_mapSeq (fun xs => xs.setIfInBounds k.toNat v) hc
    have e : (List.toArray vs).setIfInBounds k.toNat v = List.toArray (vs.set k.toNat v) := by
      apply Array.toList_inj.mp
      simp
    rw [← e]
    exact q
  · have Rv : Rep (s₂.heap.update (ω x) (Obj.mapSeq fun xs => xs.setIfInBounds k.toNat v)) (fun _ => False) v d := g₁.2.atom hd
    exact Reps.setAt Rv k.toNat (R.mono (fun _ _ q _ => q.elim) fun _ _ a _ => a)
end
end Mine
end

section
open PySem PySem.W PyProof.Rows
set_option Elab.async false
set_option maxRecDepth 100000
set_option linter.unusedVariables false
namespace Mine
section
variable {C : Cx} {ρ ρ₁ : Rho} {W W' : Addr → Prop} {n : Nat}

/-! x.remove(e), ints -/
theorem eqG_I {h ok} (i : Int) (t : Tok) : ∀ {vs : List Value} {ns : List Int}, Reps h ok vs (dI ns) → ∀ y ∈ vs, MeetsSeq.EqGives y (.int i t) (eqI i y)
  | [], [], .nil => fun _ m => nomatch m
  | v :: vs, m :: ns, .cons x r => fun y hy => by
    cases hy with
    | head => cases x; exact MeetsSeq.EqGives.int _ _ _ _
    | tail _ hy => exact eqG_I i t r y hy
theorem dI_erase : ∀ (j : Nat) (ns : List Int), dI (ns.eraseIdx j) = (dI ns).eraseIdx j
  | _, [] => by simp
  | 0, _ :: _ => rfl
  | j + 1, m :: ns => by simpa using dI_erase j ns
theorem Reps.eraseAt {h ok} : ∀ (j : Nat) {vs : List Value} {ds : List D}, Reps h ok vs ds → Reps h ok (vs.eraseIdx j) (ds.eraseIdx j)
  | _, _, _, .nil => .nil
  | 0, _, _, .cons _ r => r
  | j + 1, _, _, .cons y r => .cons y (Reps.eraseAt j r)
theorem Ex.remove {x : Str} {e : Expr} {p ap cp pos : Pos} {pl : Sem Bool} {ns : List Int} {i : Int} {j : Nat} {fr : Bool} (G : Own C n) (hm : (x, true, .list (dI ns)) ∈ ρ) (hr : Rm x ρ ρ₁) (he : Ev C (rd ρ) e (.int i) fr)
    (hj : ns[j]? = some i) (hno : ∀ k, k < j → ns[k]? ≠ some i) (hsz : ns.length ≤ 16777216)
    (hq : MethEq C.env (.Name x p) "remove" ap [e] cp pl) (hdb : (x == ("__debug__" : Str)) = false) (hse : starEach [e] C.env = [(false, eval e C.env)] := by rfl) (hi : interactive C.env = false := by rfl)
    (hsw : swapsWith (.Call (.Attribute (.Name x p) "remove" ap) [e] [] cp) none pos.line C.env = pure false := by rfl) :
    Ex C ρ (.Expr (.Call (.Attribute (.Name x p) "remove" ap) [e] [] cp) pos) (.next ((x, true, .list (dI (ns.eraseIdx j))) :: ρ₁)) := fun s W S => by
  obtain ⟨m, cm, ω, vs, X, V, hw, h1, h2, hl, R⟩ := own_read G S hm
  refine wpAny_Expr (MethodCall_ (name_own G X V hdb ?_) hq) hi hsw
  obtain ⟨c, hc⟩ := hl
  refine getMethod_builtin ⟨_, hc, rfl⟩ PySem.F.plainAttrs_list PySem.F.slot_list_remove PySem.F.type_list_remove (fun a e => by cases e; exact ⟨_, hc, rfl⟩) (callWith_method1 (args_cons (wpAny_mono (he s (S.ok G)) (fun v s₁ g => args_nil ?_) fun _ _ x => x) hse) hse rfl)
  have y := g.2
  cases y
  rename_i t
  have hc₁ := g.1.get _ _ hc
  have hn := R.length
  have hlen : vs.length = ns.length := by rw [hn]; simp
  have hjl : j < ns.length := (List.getElem?_eq_some_iff.mp hj).1
  have at_ : ∀ k (hk : k < vs.length), eqI i vs[k] = (ns[k]'(by omega) == i) := fun k hk => by
    obtain ⟨d, hd, Rd⟩ := R.get (i := k) (v := vs[k]) (by simp [hk])
    have : d = .int (ns[k]'(by omega)) := by
      have e : (dI ns)[k]? = some (.int (ns[k]'(by omega))) := by simp [dI, show k < ns.length by omega]
      rw [hd] at e; exact Option.some.inj e
    subst this
    cases hv : vs[k] <;> rw [hv] at Rd <;> cases Rd
    rfl
  refine call_meets PySem.F.slot_list_remove ⟨_, hc₁, rfl⟩ PySem.F.entry_list_remove (PySem.F.args_list_remove_2 _ _)
    (MeetsSeq.list_remove (ω x) (List.toArray vs) c (.int i t) (eqI i) (fun y hy => eqG_I i t R y (by simpa using hy)) j (by simp; omega) ?_ (fun k hk hkj => ?_) (by apply le_line; simp; omega)) ⟨hc₁, ?_⟩
  · have := at_ j (by omega)
    have e2 : ns[j] = i := (List.getElem?_eq_some_iff.mp hj).2
    simp only [List.getElem_toArray]
    rw [this, e2]; simp
  · have hk' : k < vs.length := by simpa using hk
    have := at_ k hk'
    simp only [List.getElem_toArray]
    rw [this]
    have e3 := hno k hkj
    rw [List.getElem?_eq_getElem (by omega)] at e3
    simpa using e3
  · have hs := Heap.SameBut.update s₁.heap (ω x) (Obj.mapSeq fun xs => xs.eraseIdxIfInBounds j)
    refine ⟨W, fram_but (h' := _) (tk := s₁.toks) g.1 hw hs g.1.2, rfl, ?_⟩
    refine changed (s := s) (s₁ := s₁) (us := vs.eraseIdx j) (tk := s₁.toks) G (X.keeps g.1.get) hm hr (fun q => Nat.lt_of_lt_of_le (S.tk q) g.1.2) V hw h1 h2 ?_ ?_ hs
    · have q := plain_mapSeq (fun xs => xs.eraseIdxIfInBounds j) hc₁
      have e : (List.toArray vs).eraseIdxIfInBounds j = List.toArray (vs.eraseIdx j) := by
        rw [Array.eraseIdxIfInBounds, dif_pos (by simp; omega)]
        simp
      rw [← e]
      exact q
    · have R' : Reps (s₁.heap.update (ω x) (Obj.mapSeq fun xs => xs.eraseIdxIfInBounds j)) (fun _ => False) vs (dI ns) := R.mono (fun _ _ q _ => q.elim) fun _ _ a _ => a
      rw [dI_erase]
      exact Reps.eraseAt j R'

/-! x = [.. for ..], the comprehension's names let go behind the store -/
theorem Rep.dict {h h' : Heap} {ok : Addr → Prop} {Ca : Addr} {m : Str → Option Value} (hn : h.Ns Ca m) (hk : ∀ b o, b ≠ Ca → h.get? b = some o → h'.get? b = some o) {v d} (x : Rep h ok v d) : Rep h' ok v d := by
  obtain ⟨oc, es, ep, ho, hd, _⟩ := hn
  have key : ∀ b o xs c, h.get? b = some o → o.data = .seq xs c → b ≠ Ca := fun b o xs c e e2 q => by
    rw [q, ho] at e; cases e; rw [hd] at e2; cases e2
  have go : (∀ (v : Value) (d : D), Rep h ok v d → Rep h' ok v d) := fun v d x => by
    refine Rep.rec (motive_1 := fun v d _ => Rep h' ok v d) (motive_2 := fun vs ds _ => Reps h' ok vs ds) ?_ ?_ ?_ ?_ ?_ ?_ ?_ ?_ ?_ x
    · exact .none
    · exact .bool
    · exact .int
    · exact .str
    · exact .ty
    · intro a vs ds oa hl _ ih
      obtain ⟨c, e⟩ := hl
      exact .list oa ⟨c, hk _ _ (key _ _ _ _ e rfl) e⟩ ih
    · intro a vs ds oa hl _ ih
      obtain ⟨o, e, h1, c, h2⟩ := hl
      exact .tup oa ⟨o, hk _ _ (key _ _ _ _ e h2) e, h1, c, h2⟩ ih
    · exact .nil
    · intro v vs d ds _ _ a b
      exact .cons a b
  exact go v d x

theorem St.dict {s : Shared} {h' : Heap} {Ca : Addr} {m₀ : Str → Option Value} (S : St C ρ W s) (hn : s.heap.Ns Ca m₀) (hW : ¬ W Ca) (h0 : C.h₀.get? Ca = none) (hs : Heap.SameBut Ca s.heap h') : St C ρ W { s with heap := h' } := by
  have hk : ∀ b o, b ≠ Ca → s.heap.get? b = some o → h'.get? b = some o := fun b o hb e => hs.extBut b o hb e
  obtain ⟨m, cm, ω, X⟩ := S.ex
  have neW : ∀ b, W b → b ≠ Ca := fun b hb q => hW (q ▸ hb)
  refine ⟨S.tk, m, cm, ω, ⟨X.fr.ns.sameBut hs (neW _ X.wl), fun b o e => hk b o (fun q => by rw [q, h0] at e; cases e) (X.fr.keep b o e), X.fr.above⟩, ⟨fun y c e => ?_, X.cl.apart, X.cl.above⟩, X.wl, X.wc, fun a ha => ?_, X.nw, fun e he => ?_, X.sep⟩
  · exact (X.cl.cell y c e).sameBut hs (neW _ (X.wc _ (mem_of_lookup e)))
  · obtain ⟨o, e⟩ := X.al a ha; exact ⟨o, hk a o (neW _ ha) e⟩
  · obtain ⟨v, V, I⟩ := X.vars e he
    refine ⟨v, V, ?_⟩
    obtain ⟨y, o, d⟩ := e
    cases o with
    | false => exact Rep.dict hn hk I
    | true =>
      obtain ⟨rfl, hw, h1, h2, ds, vs, rfl, hl, R⟩ := I
      exact ⟨rfl, hw, h1, h2, ds, vs, rfl, hl.at fun o e => hk _ o (neW _ hw) e, R.mono (fun _ _ q _ => q.elim) fun _ _ a _ => a⟩

theorem Ex.compG {own : Bool} {elt iter : Expr} {x y : Str} {px py : Pos} {ifs : List Expr} {scope : Scope} {cl : List (Str × Addr)} {pos spos : Pos} {ds : List D} {ρ' : List (Str × D)} (G : Own C n) (hi : It C (rd ρ) iter ds) (hds : ds.length ≤ 16777216) (H : CompOk C scope cl x (rd ρ) ρ') (p : D → Bool) (g : D → D)
    (tests : ∀ Ca, ∀ d ∈ ds, Tsts (C.comp scope cl Ca) ((x, d) :: ρ') ifs (p d))
    (body : ∀ Ca, ∀ d ∈ ds, p d = true → Ev (C.comp scope cl Ca) ((x, d) :: ρ') elt (g d) true)
    (hown : own = true → ∀ d ∈ (ds.filter p).map g, d.atom) (hy : Stor C y) (hr : Rm y ρ ρ₁)
    (hsw : swapsWith (.ListComp elt [⟨.Name x px, iter, ifs, 0⟩] scope pos) (some (.Name y py)) spos.line C.env = pure true)
    (hs : ∀ x, foldedSetIterable iter C.env x = pure x := by intro _; rfl) :
    Ex C ρ (.Assign [.Name y py] (.ListComp elt [⟨.Name x px, iter, ifs, 0⟩] scope pos) spos) (.next ((y, own, .list ((ds.filter p).map g)) :: ρ₁)) := fun s W S => by
  rw [exec_Assign_Name_used _ _ _ _ hsw]
  refine wpAny_bind (wpAny_standAt (wpAny_bind ?_))
  show wpAny _ _ (do let _ ← comprehension (.ListComp elt [⟨.Name x px, iter, ifs, 0⟩] scope pos) scope C.env _ (newList []) false (eval iter C.env) (some (assign (.Name y py) C.env))) _ _ s
  have fin : wpAny (model C.prog C.w) C.A (comprehension (.ListComp elt [⟨.Name x px, iter, ifs, 0⟩] scope pos) scope C.env (firstIterPos [⟨.Name x px, iter, ifs, 0⟩] pos) (newList []) false (eval iter C.env) (some (assign (.Name y py) C.env)))
      (fun _ s' => Post C s W (.next ((y, own, .list ((ds.filter p).map g)) :: ρ₁)) .next s') bot s := by
    refine wpAny_comprehension_free (use := some (assign (.Name y py) C.env)) rfl hs H.clos H.kind H.names (hi s (S.ok G) _ fun it s₂ N k Wk => ?_)
    refine comp_core G.toGood (S.ok G) k Wk hds H p g tests body (RR := fun acc Ca => compPost (model C.prog C.w) C.A bot (some (assign (.Name y py) C.env)) (fun _ s' => Post C s W (.next ((y, own, .list ((ds.filter p).map g)) :: ρ₁)) .next s') acc Ca) fun D Ca s' k' hD hC hne hns R => ?_
    obtain ⟨m₀, hn⟩ := hns
    show wpAny _ _ (assign (.Name y py) C.env (.ref D)) _ _ _
    have hWC : ¬ W Ca := fun hw => by obtain ⟨m, cm, ω, X⟩ := S.ex; obtain ⟨o, e⟩ := X.al Ca hw; rw [hC] at e; cases e
    have h0C : C.h₀.get? Ca = none := by
      obtain ⟨m, F⟩ := (S.ok G).fr
      cases e : C.h₀.get? Ca with
      | none => rfl
      | some o => rw [F.keep _ o e] at hC; cases hC
    have gv : Got s true (.list ((ds.filter p).map g)) (.ref D) s' := ⟨k', R.mono_to fun a h _ => h.1⟩
    have done : ∀ {W' : Addr → Prop}, NewVal C W W' s s' own (.list ((ds.filter p).map g)) (.ref D) → ¬ W' Ca → wpAny (model C.prog C.w) C.A (assign (.Name y py) C.env (.ref D)) (fun _ s'' => ∃ m, s''.heap.Ns Ca m ∧ ∀ h', Heap.SameBut Ca s''.heap h' → Post C s W (.next ((y, own, .list ((ds.filter p).map g)) :: ρ₁)) .next { s'' with heap := h' }) bot s' := fun {W'} NV hW' => by
      -- the store keeps the block's dict: it is none of the frame's own
      refine wpAny_assign_Name (wpAny_mono (store_one G S k' NV hr hy) (fun _ s'' q => ?_) fun _ _ x => x)
      obtain ⟨F, S', kk⟩ := q
      obtain ⟨oc, es, ep, ho, r⟩ := id hn
      have hn'' : s''.heap.Ns Ca m₀ := ⟨oc, es, ep, kk _ _ hWC ho, r⟩
      refine ⟨m₀, hn'', fun h'' hs'' => ⟨W', ?_, rfl, S'.dict hn'' hW' h0C hs''⟩⟩
      obtain ⟨⟨h₁, t₁, e₁⟩, a, b, c⟩ := F
      subst e₁
      exact ⟨⟨h'', t₁, rfl⟩, a, fun p o hp e => hs''.extBut p o (fun q => by rw [q, hC] at e; cases e) (b p o hp e), c⟩
    cases own with
    | false => exact done (newval_ro S gv (.inl rfl)) hWC
    | true =>
      cases R with
      | list hb hl R =>
        rename_i vs
        refine done (W' := fun b => W b ∨ b = D) ⟨D, _, vs, rfl, rfl, hD, rfl, hl, R.atoms (hown rfl)⟩ fun h => ?_
        rcases h with h | h
        · exact hWC h
        · exact hne h.symm
  exact wpAny_bind (wpAny_mono fin (fun _ s' hq => wpAny_pure (wpAny_pure hq)) fun _ _ e => e)
end
end Mine
end

section
open PySem PySem.W PyProof.Rows
set_option Elab.async false
set_option maxRecDepth 100000
set_option linter.unusedVariables false
namespace Mine

mutual
theorem Rep.seq {h h' : Heap} {ok : Addr → Prop} (hk : ∀ b o xs c, o.data = .seq xs c → h.get? b = some o → h'.get? b = some o) : ∀ {v d}, Rep h ok v d → Rep h' ok v d
  | _, _, .none => .none
  | _, _, .bool b => .bool b
  | _, _, .int i t => .int i t
  | _, _, .str x t => .str x t
  | _, _, .ty T => .ty T
  | _, _, .list oa hl r => .list oa (let ⟨_, e⟩ := hl; ⟨_, hk _ _ _ _ rfl e⟩) (Reps.seq hk r)
  | _, _, .tup oa hl r => .tup oa (let ⟨_, e, c, n, d⟩ := hl; ⟨_, hk _ _ _ _ d e, c, n, d⟩) (Reps.seq hk r)
theorem Reps.seq {h h' : Heap} {ok : Addr → Prop} (hk : ∀ b o xs c, o.data = .seq xs c → h.get? b = some o → h'.get? b = some o) : ∀ {vs ds}, Reps h ok vs ds → Reps h' ok vs ds
  | _, _, .nil => .nil
  | _, _, .cons x r => .cons (Rep.seq hk x) (Reps.seq hk r)
end

section
variable {C : Cx} {ρ ρ₁ : Rho} {W W' : Addr → Prop} {n : Nat}

/-- an iterator's step -/
def Nx (wr : List Addr) (s s' : Shared) : Prop := (∃ h tk, s' = { s with heap := h, toks := tk }) ∧ s.toks ≤ s'.toks ∧ ∀ b o, b ∉ wr → s.heap.get? b = some o → s'.heap.get? b = some o

theorem StX.iter {h h' : Heap} {m cm ω} {wr : List Addr} (X : StX C ρ W h m cm ω) (hk : ∀ b o, b ∉ wr → h.get? b = some o → h'.get? b = some o) (hw : ∀ b ∈ wr, ¬ W b ∧ C.h₀.get? b = none ∧ ∃ o, h.get? b = some o ∧ ∀ xs c, o.data ≠ .seq xs c) : StX C ρ W h' m cm ω := by
  have seq : ∀ b o xs c, o.data = .seq xs c → h.get? b = some o → h'.get? b = some o := fun b o xs c hd e => hk b o (fun hm => by
    obtain ⟨_, _, o', e', q⟩ := hw b hm
    rw [e] at e'; cases e'; exact q xs c hd) e
  have own : ∀ b o, W b → h.get? b = some o → h'.get? b = some o := fun b o hW e => hk b o (fun hm => (hw b hm).1 hW) e
  refine ⟨⟨X.fr.ns.at' fun o e => own _ o X.wl e, fun b o e => hk b o (fun hm => by rw [(hw b hm).2.1] at e; cases e) (X.fr.keep b o e), X.fr.above⟩,
    ⟨fun y c e => ?_, X.cl.apart, X.cl.above⟩, X.wl, X.wc, fun a ha => let ⟨o, e⟩ := X.al a ha; ⟨o, own a o ha e⟩, X.nw, fun e he => ?_, X.sep⟩
  · obtain ⟨o, e1, e2⟩ := X.cl.cell y c e
    exact ⟨o, own _ o (X.wc _ (mem_of_lookup e)) e1, e2⟩
  · obtain ⟨v, V, I⟩ := X.vars e he
    refine ⟨v, V, ?_⟩
    obtain ⟨y, o, d⟩ := e
    cases o with
    | false => exact Rep.seq seq I
    | true =>
      obtain ⟨rfl, hw, h1, h2, ds, vs, rfl, hl, R⟩ := I
      exact ⟨rfl, hw, h1, h2, ds, vs, rfl, hl.at fun o e => own _ o hw e, R.seq seq⟩
theorem St.iter {s s' : Shared} {wr : List Addr} (S : St C ρ W s) (N : Nx wr s s') (hw : ∀ b ∈ wr, ¬ W b ∧ C.h₀.get? b = none ∧ ∃ o, s.heap.get? b = some o ∧ ∀ xs c, o.data ≠ .seq xs c) : St C ρ W s' :=
  ⟨fun q => Nat.lt_of_lt_of_le (S.tk q) N.2.1, let ⟨m, cm, ω, X⟩ := S.ex; ⟨m, cm, ω, X.iter N.2.2 hw⟩⟩
theorem St.h0 {s : Shared} (S : St C ρ W s) {b : Addr} (e : s.heap.get? b = none) : C.h₀.get? b = none := by
  obtain ⟨m, cm, ω, X⟩ := S.ex
  cases q : C.h₀.get? b with
  | none => rfl
  | some o => rw [X.fr.keep b o q] at e; cases e
theorem St.notW {s : Shared} (S : St C ρ W s) {b : Addr} (e : s.heap.get? b = none) : ¬ W b := fun h => by
  obtain ⟨m, cm, ω, X⟩ := S.ex
  obtain ⟨o, q⟩ := X.al b h
  rw [e] at q; cases q
theorem Fram.nx {s s' s'' : Shared} {wr : List Addr} (F : Fram W W' s s') (hw : ∀ b ∈ wr, s.heap.get? b = none) (N : Nx wr s' s'') : Fram W W' s s'' := by
  obtain ⟨⟨h, t, rfl⟩, a, b, c⟩ := F
  obtain ⟨⟨h', t', rfl⟩, a', b'⟩ := N
  exact ⟨⟨h', t', rfl⟩, Nat.le_trans a a', fun p o hp e => b' p o (fun hm => by rw [hw p hm] at e; cases e) (b p o hp e), c⟩

def Feed (C : Cx) (N : Addr → Prop) (tgt : Expr) (s s₂ : Shared) (it : Value) (ds : List D) : Prop :=
  ∃ (fp wr : List Addr) (S : Nat → Heap → Prop), S 0 s₂.heap ∧ (∀ i h h', S i h → (∀ b ∈ fp, ∀ o, h.get? b = some o → h'.get? b = some o) → S i h') ∧ (∀ b ∈ wr, b ∈ fp) ∧ (∀ b ∈ fp, ∃ o, s₂.heap.get? b = some o) ∧
    (∀ b ∈ wr, s.heap.get? b = none) ∧ (∀ b ∈ fp, N b) ∧ (∀ i h, S i h → ∀ b ∈ wr, ∃ o, h.get? b = some o ∧ ∀ xs c, o.data ≠ .seq xs c) ∧
    (∀ i d s₁, ds[i]? = some d → S i s₁.heap → (∀ b o, b ∉ wr → N b → s₂.heap.get? b = some o → s₁.heap.get? b = some o) →
      wpAny (model C.prog C.w) C.A (pyNext it) (fun r s' => ∃ v, r = some v ∧ wpAny (model C.prog C.w) C.A (letOwnedTupleGo tgt it v) (fun _ s'' => Nx wr s₁ s'' ∧ S (i + 1) s''.heap ∧
        Rep s''.heap (fun a => (a ∉ wr ∧ N a ∧ ∃ o, s₂.heap.get? a = some o) ∨ s₁.heap.get? a = none) v d) bot s') bot s₁) ∧
    (∀ s₁, S ds.length s₁.heap → wpAny (model C.prog C.w) C.A (pyNext it) (fun r s' => r = none ∧ Nx wr s₁ s') bot s₁)

/-- the iterable of a for, with its target -/
def Fd (C : Cx) (ρ : Rho) (e tgt : Expr) (ds : List D) : Prop := ∀ s W, St C ρ W s → ∀ Q : Value → Shared → Prop, (∀ it s₂, Kp s s₂ → Feed C (fun a => ¬ W a) tgt s s₂ it ds → Q it s₂) →
  wpAny (model C.prog C.w) C.A (eval e C.env) (fun xv s₁ => wpAny (model C.prog C.w) C.A (pyIter xv) Q bot s₁) bot s

theorem WalkAt.feed {N : Addr → Prop} {tgt : Expr} {s s₂ : Shared} {it : Value} {ds : List D} (H : WalkAt C N s s₂ it ds) : Feed C N tgt s s₂ it ds := by
  obtain ⟨I, fp, wr, P, S, rfl, W, hst, hfp, hwr, hSt, hP, hN, _, go⟩ := H
  refine ⟨fp, wr, S, hst, W.frame, W.sub, hfp, hwr, hN, fun i h st b hb => ?_, fun i d s₁ hd st hk => ?_, fun s₁ st => ?_⟩
  · exact hSt i h st b hb
  · have hlt : i < ds.length := (List.getElem?_eq_some_iff.mp hd).1
    refine wpAny_mono (wpAny_toks_of (Nat.le_refl _) (W.item i s₁ (fun r s' => ∃ v h' tk, r = some v ∧ s' = { s₁ with heap := h', toks := tk } ∧ P i v ∧ S (i + 1) h' ∧ ∀ b o, b ∉ wr → s₁.heap.get? b = some o → h'.get? b = some o) bot hlt st fun v h' tk a b c => ⟨v, h', tk, rfl, rfl, a, b, c⟩)) (fun r s' q => ?_) fun _ _ q => q.2
    obtain ⟨htk, v, h', tk, rfl, rfl, hv, st', hk'⟩ := q
    refine ⟨v, rfl, go (i + 1) tgt v _ _ _ st' ⟨⟨⟨h', tk, rfl⟩, htk, hk'⟩, st', ?_⟩⟩
    exact (hP i v d hv hd).mono (fun b o hb e => hk' b o hb.1 (hk b o hb.1 hb.2 e)) fun b o hb e => .inl ⟨hb.1, hb.2, o, e⟩
  · refine wpAny_mono (wpAny_toks_of (Nat.le_refl _) (W.done s₁ (fun r s' => ∃ h' tk, r = none ∧ s' = { s₁ with heap := h', toks := tk } ∧ ∀ b o, b ∉ wr → s₁.heap.get? b = some o → h'.get? b = some o) bot st fun h' tk k => ⟨h', tk, rfl, rfl, k⟩)) (fun r s' q => ?_) fun _ _ q => q.2
    obtain ⟨htk, h', tk, rfl, rfl, hk'⟩ := q
    exact ⟨rfl, ⟨h', tk, rfl⟩, htk, hk'⟩

theorem Fd.range {e tgt : Expr} {fp pos : Pos} {m : Nat} {f : Bool} (G : Own C n) (hf : Built C "range" (.type "range")) (he : Ev C (rd ρ) e (.int m) f) (hm : m ≤ 16777216) (hse : starEach [e] C.env = [(false, eval e C.env)] := by rfl) :
    Fd C ρ (.Call (.Name "range" fp) [e] [] pos) tgt (dI (upto m)) := fun s W S Q h =>
  range_walk (N := fun a => ¬ W a) G.toGood hf he hm (S.ok G) (fun b e => S.notW e) hse fun it s₂ k w => h it s₂ k w.feed
/-- a list or a tuple that a name holds, none of the frame's own -/
theorem Fd.name {x : Str} {p : Pos} {tgt : Expr} {ds : List D} (G : Own C n) (hm : (x, false, .list ds) ∈ ρ ∨ (x, false, .tup ds) ∈ ρ) (hd : (x == ("__debug__" : Str)) = false := by decide) : Fd C ρ (.Name x p) tgt ds := fun s W S Q h => by
  obtain ⟨m, cm, ω, X⟩ := S.ex
  have fin : ∀ v, VarS C m cm x v → (Rep s.heap (fun a => ¬ W a) v (.list ds) ∨ Rep s.heap (fun a => ¬ W a) v (.tup ds)) → wpAny (model C.prog C.w) C.A (eval (.Name x p) C.env) (fun xv s₁ => wpAny (model C.prog C.w) C.A (pyIter xv) Q bot s₁) bot s := by
    intro v V I
    have it : wpAny (model C.prog C.w) C.A (pyIter v) Q bot s := by
      rcases I with I | I
      · cases I with
        | list ha hl R => exact walk_list (N := fun a => ¬ W a) G.toGood (.refl s) ha (fun b e => S.notW e) hl.isList R fun it s₂ k w => h it s₂ k w.feed
      · cases I with
        | tup ha hl R => exact walk_tup (N := fun a => ¬ W a) G.toGood (.refl s) ha (fun b e => S.notW e) hl R fun it s₂ k w => h it s₂ k w.feed
    rcases V with ⟨hk, hv⟩ | ⟨hk, ⟨c, hc⟩, hv⟩
    · exact wpAny_Name (wpAny_loadName_local G.kd hk (G.eL ▸ X.fr.ns) hv it) hd
    · exact wpAny_Name (wpAny_loadName_cell G.kd hk hc (hv ▸ X.cl.cell _ c hc) it) hd
  rcases hm with hm | hm
  · obtain ⟨v, V, I⟩ := X.vars _ hm
    exact fin v V (.inl I)
  · obtain ⟨v, V, I⟩ := X.vars _ hm
    exact fin v V (.inr I)
/-- a tuple that is new, or that stood ahead of the frame -/
theorem Fd.tup {e tgt : Expr} {ds : List D} (G : Own C n) (he : ∀ s W, St C ρ W s → wpAny (model C.prog C.w) C.A (eval e C.env) (fun v s₁ => Kp s s₁ ∧ Rep s₁.heap (fun a => ¬ W a) v (.tup ds)) bot s) : Fd C ρ e tgt ds := fun s W S Q h =>
  wpAny_mono (he s W S) (fun v s₁ g => by
    obtain ⟨k, R⟩ := g
    cases R with
    | tup ha hl R => exact walk_tup (N := fun a => ¬ W a) G.toGood k ha (fun b e => S.notW (k.none e)) hl R fun it s₂ k w => h it s₂ k w.feed) fun _ _ x => x
theorem Fd.newTup {e tgt : Expr} {ds : List D} (G : Own C n) (he : Ev C (rd ρ) e (.tup ds) true) : Fd C ρ e tgt ds := .tup G fun s W S =>
  wpAny_mono (he s (S.ok G)) (fun v s₁ g => ⟨g.1, g.2.mono (fun _ _ _ e => e) fun a o hf _ => S.notW (hf rfl)⟩) fun _ _ x => x

/-- a target is set -/
def Asg (C : Cx) (tgt : Expr) (d : D) (ρ ρ₁ : Rho) : Prop := ∀ s W v, St C ρ W s → Rep s.heap (fun a => ¬ W a) v d →
  wpAny (model C.prog C.w) C.A (assign tgt C.env v) (fun _ s' => Fram W W s s' ∧ St C ρ₁ W s' ∧ ∀ b o, ¬ W b → s.heap.get? b = some o → s'.heap.get? b = some o) bot s
theorem Asg.name {x : Str} {p : Pos} {d : D} (G : Own C n) (hx : Stor C x) (hr : Rm x ρ ρ₁) : Asg C (.Name x p) d ρ ((x, false, d) :: ρ₁) := fun s W v S R =>
  wpAny_assign_Name (store_one (W' := W) G S (.refl s) ⟨rfl, R⟩ hr hx)

theorem Ex.forTo {tgt iter : Expr} {body orelse : List Stmt} {pos : Pos} {ds : List D} (ρs : Nat → Rho) (kEnd : Nat) {ρo : Rho} (G : Own C n) (hle₀ : kEnd ≤ ds.length) (hi : Fd C (ρs 0) iter tgt ds)
    (turn : ∀ i d, i < kEnd → ds[i]? = some d → ∃ ρ', Asg C tgt d (ρs i) ρ' ∧ Exs C ρ' body (.next (ρs (i + 1))))
    (fin : (kEnd = ds.length ∧ Exs C (ρs kEnd) orelse (.next ρo)) ∨ ∃ d ρ', ds[kEnd]? = some d ∧ Asg C tgt d (ρs kEnd) ρ' ∧ Exs C ρ' body (.brk ρo)) (hs : ∀ x, foldedSetIterable iter C.env x = pure x := by intro _; rfl) : Ex C (ρs 0) (.For tgt iter body orelse pos) (.next ρo) := fun s W S =>
  wpAny_For (hi s W S _ fun it s₂ k F => by
    obtain ⟨fp, wr, I, st0, frame, sub, hfp, hwr, hN, hseq, item, done⟩ := F
    have S₂ : St C (ρs 0) W s₂ := S.keeps k
    refine codeAny_forLoop_any (fun kk s' => ∃ i W', kk = kEnd + 1 - i ∧ i ≤ kEnd ∧ Fram W W' s s' ∧ St C (ρs i) W' s' ∧ I i s'.heap ∧ (∀ b ∈ fp, (∃ o, s'.heap.get? b = some o) ∧ ¬ W' b) ∧
      (∀ b o, b ∉ wr → ¬ W b → s₂.heap.get? b = some o → s'.heap.get? b = some o ∧ ¬ W' b)) ?_ (kEnd + 1) ⟨0, W, rfl, Nat.zero_le _, .of_kp k, S₂, st0, fun b hb => ⟨hfp b hb, hN b hb⟩, fun b o _ hb e => ⟨e, hb⟩⟩
    rintro kk s' ⟨i, W', rfl, hle, F', S', st, hf', hk'⟩
    have hw' : ∀ b ∈ wr, ¬ W' b ∧ C.h₀.get? b = none ∧ ∃ o, s'.heap.get? b = some o ∧ ∀ xs c, o.data ≠ .seq xs c := fun b hb => ⟨(hf' b (sub b hb)).2, S.h0 (hwr b hb), hseq i _ st b hb⟩
    have go : ∀ (d : D) (ρ' : Rho) (out : Out), ds[i]? = some d → Asg C tgt d (ρs i) ρ' → Exs C ρ' body out → (∀ (s₅ : Shared) (f : Flow) (W₅ : Addr → Prop), Fram W W₅ s s₅ → (match out with | .next ρ => f = .next ∧ St C ρ W₅ s₅ | .brk ρ => f = .brk ∧ St C ρ W₅ s₅ | .ret d => ∃ v, f = .ret v ∧ Rep s₅.heap (fun a => C.h₀.get? a = none) v d ∧ ∃ m, Fr C.h₀ C.L s₅.heap m) →
        I (i + 1) s₅.heap → (∀ b ∈ fp, (∃ o, s₅.heap.get? b = some o) ∧ ¬ W₅ b) → (∀ b o, b ∉ wr → ¬ W b → s₂.heap.get? b = some o → s₅.heap.get? b = some o ∧ ¬ W₅ b) →
        match f with
            | .next | .cont => ∃ m, m < kEnd + 1 - i ∧ ∃ i W', m = kEnd + 1 - i ∧ i ≤ kEnd ∧ Fram W W' s s₅ ∧ St C (ρs i) W' s₅ ∧ I i s₅.heap ∧ (∀ b ∈ fp, (∃ o, s₅.heap.get? b = some o) ∧ ¬ W' b) ∧ (∀ b o, b ∉ wr → ¬ W b → s₂.heap.get? b = some o → s₅.heap.get? b = some o ∧ ¬ W' b)
            | .brk => Post C s W (.next ρo) .next s₅
            | .ret v => Post C s W (.next ρo) (.ret v) s₅) →
        wpAny (model C.prog C.w) C.A (pyNext it) (fun r s₁ => match r with
          | none => wpAny (model C.prog C.w) C.A (execs orelse C.env) (fun f s₃ => Post C s W (.next ρo) f s₃) bot s₁
          | some v => wpAny (model C.prog C.w) C.A (letOwnedTupleGo tgt it v) (fun _ s₁' => wpAny (model C.prog C.w) C.A (assign tgt C.env v) (fun _ s₂' => wpAny (model C.prog C.w) C.A (execs body C.env) (fun f s₅ => match f with
            | .next | .cont => ∃ m, m < kEnd + 1 - i ∧ ∃ i W', m = kEnd + 1 - i ∧ i ≤ kEnd ∧ Fram W W' s s₅ ∧ St C (ρs i) W' s₅ ∧ I i s₅.heap ∧ (∀ b ∈ fp, (∃ o, s₅.heap.get? b = some o) ∧ ¬ W' b) ∧ (∀ b o, b ∉ wr → ¬ W b → s₂.heap.get? b = some o → s₅.heap.get? b = some o ∧ ¬ W' b)
            | .brk => Post C s W (.next ρo) .next s₅
            | .ret v => Post C s W (.next ρo) (.ret v) s₅) bot s₂') bot s₁') bot s₁) bot s' := by
      intro d ρ' out hd A B hK
      refine wpAny_mono (item i _ s' hd st fun b o h1 h2 e => (hk' b o h1 h2 e).1) (fun r s₁ q => ?_) fun _ _ q => q.elim
      obtain ⟨v, rfl, q⟩ := q
      dsimp only
      refine wpAny_mono q (fun _ s₃ q => ?_) fun _ _ q => q.elim
      obtain ⟨N, st₃, R⟩ := q
      have S₃ : St C (ρs i) W' s₃ := S'.iter N hw'
      have F₃ : Fram W W' s s₃ := F'.nx hwr N
      have al₃ : ∀ b o, s'.heap.get? b = some o → ∃ o', s₃.heap.get? b = some o' := fun b o e => by
        by_cases hm : b ∈ wr
        · obtain ⟨o', e', _⟩ := hseq _ _ st₃ b hm
          exact ⟨o', e'⟩
        · exact ⟨o, N.2.2 b o hm e⟩
      have R₃ : Rep s₃.heap (fun a => ¬ W' a) v d := R.mono (fun _ _ _ e => e) fun b o hb e => by
        rcases hb with ⟨h1, h2, o', e'⟩ | hn
        · exact (hk' b o' h1 h2 e').2
        · exact S'.notW hn
      refine wpAny_mono (A s₃ W' v S₃ R₃) (fun _ s₄ q => ?_) fun _ _ q => q.elim
      obtain ⟨F₄, S₄, k₄⟩ := q
      have F₄' : Fram W W' s s₄ := F₃.trans F₄
      refine wpAny_mono (B s₄ W' S₄) (fun f s₅ q => ?_) fun _ _ q => q.elim
      obtain ⟨W₅, F₅, P⟩ := q
      have keep : ∀ b o, ¬ W' b → s₃.heap.get? b = some o → s₅.heap.get? b = some o ∧ ¬ W₅ b := fun b o hb e => by
        refine ⟨F₅.2.2.1 b o hb (k₄ b o hb e), fun hw => ?_⟩
        rcases F₅.2.2.2 b hw with q | q
        · exact hb q
        · rw [k₄ b o hb e] at q; cases q
      refine hK s₅ f W₅ (F₄'.trans F₅) P ?_ (fun b hb => ?_) (fun b o h1 h2 e => ?_)
      · exact frame _ _ _ st₃ fun b hb o e => (keep b o (hf' b hb).2 e).1
      · obtain ⟨⟨o, e⟩, nb⟩ := hf' b hb
        obtain ⟨o', e'⟩ := al₃ b o e
        obtain ⟨e₅, n₅⟩ := keep b o' nb e'
        exact ⟨⟨o', e₅⟩, n₅⟩
      · obtain ⟨e', nb⟩ := hk' b o h1 h2 e
        exact keep b o nb (N.2.2 b o h1 e')
    have noE : ∀ {α : Type} {t : Sem α} {Q : α → Shared → Prop} {E : Value → Shared → Prop} {s₀ : Shared}, wpAny (model C.prog C.w) C.A t Q bot s₀ → wpAny (model C.prog C.w) C.A t Q E s₀ := fun h => wpAny_mono h (fun _ _ x => x) fun _ _ x => x.elim
    have conv : ∀ (Qr : Option Value → Shared → Prop), wpAny (model C.prog C.w) C.A (pyNext it) Qr bot s' → ∀ E, wpAny (model C.prog C.w) C.A (pyNext it) Qr E s' := fun Qr h E => noE h
    by_cases hlt : i < kEnd
    · have hd : ds[i]? = some ds[i] := List.getElem?_eq_getElem (Nat.lt_of_lt_of_le hlt hle₀)
      obtain ⟨ρ', A, B⟩ := turn i _ hlt hd
      refine noE (wpAny_mono (go _ ρ' _ hd A B fun s₅ f W₅ F₅ P st₅ h1 h2 => ?_) (fun r s₁ q => ?_) fun _ _ q => q)
      · obtain ⟨rfl, S₅⟩ := P
        exact ⟨kEnd + 1 - (i + 1), by omega, i + 1, W₅, rfl, hlt, F₅, S₅, st₅, h1, h2⟩
      · cases r with
        | none => exact noE q
        | some v => exact noE (wpAny_mono q (fun _ _ q => noE (wpAny_mono q (fun _ _ q => noE q) fun _ _ q => q)) fun _ _ q => q)
    · obtain rfl : i = kEnd := Nat.le_antisymm hle (Nat.not_lt.mp hlt)
      rcases fin with ⟨rfl, helse⟩ | ⟨d, ρ', hd, A, B⟩
      · refine wpAny_mono (done s' st) (fun r s₁ q => ?_) fun _ _ q => q.elim
        obtain ⟨rfl, N⟩ := q
        dsimp only
        refine wpAny_mono (helse s₁ W' (S'.iter N hw')) (fun f s₂ P => P.later (F'.nx hwr N)) fun _ _ q => q.elim
      · refine noE (wpAny_mono (go _ ρ' _ hd A B fun s₅ f W₅ F₅ P st₅ h1 h2 => ?_) (fun r s₁ q => ?_) fun _ _ q => q)
        · obtain ⟨rfl, S₅⟩ := P
          exact ⟨W₅, F₅, rfl, S₅⟩
        · cases r with
          | none => exact noE q
          | some v => exact noE (wpAny_mono q (fun _ _ q => noE (wpAny_mono q (fun _ _ q => noE q) fun _ _ q => q)) fun _ _ q => q)) hs
theorem Ex.for {tgt iter : Expr} {body : List Stmt} {pos : Pos} {ds : List D} (ρs : Nat → Rho) (G : Own C n) (hi : Fd C (ρs 0) iter tgt ds)
    (turn : ∀ i d, ds[i]? = some d → ∃ ρ', Asg C tgt d (ρs i) ρ' ∧ Exs C ρ' body (.next (ρs (i + 1)))) (hs : ∀ x, foldedSetIterable iter C.env x = pure x := by intro _; rfl) : Ex C (ρs 0) (.For tgt iter body [] pos) (.next (ρs ds.length)) :=
  .forTo ρs ds.length G (Nat.le_refl _) hi (fun i d _ h => turn i d h) (.inl ⟨rfl, .nil⟩) hs

theorem Ex.while {test : Expr} {body : List Stmt} {pos : Pos} (ρs : Nat → Rho) (m : Nat) (G : Own C n) (ht : ∀ i, i < m → Tr C (rd (ρs i)) test true) (hb : ∀ i, i < m → Exs C (ρs i) body (.next (ρs (i + 1)))) (hf : Tr C (rd (ρs m)) test false) :
    Ex C (ρs 0) (.While test body [] pos) (.next (ρs m)) := fun s W S => by
  refine wpAny_While (codeAny_whileLoop (fun kk s' => ∃ i W', kk = m - i ∧ i ≤ m ∧ Fram W W' s s' ∧ St C (ρs i) W' s') ?_ m ⟨0, W, rfl, Nat.zero_le _, .refl W s, S⟩)
  rintro kk s' ⟨i, W', rfl, hle, F', S'⟩
  by_cases hlt : i < m
  · refine wpAny_mono (ht i hlt s' (S'.ok G)) (fun c s₁ q => ?_) fun _ _ q => q.elim
    obtain ⟨k, rfl⟩ := q
    rw [if_pos rfl]
    refine wpAny_mono (hb i hlt s₁ W' (S'.keeps k)) (fun f s₂ q => ?_) fun _ _ q => q.elim
    obtain ⟨W₂, F₂, rfl, S₂⟩ := q
    exact ⟨m - (i + 1), by omega, i + 1, W₂, rfl, hlt, F'.trans ((Fram.of_kp k).trans F₂), S₂⟩
  · obtain rfl : i = m := Nat.le_antisymm hle (Nat.not_lt.mp hlt)
    refine wpAny_mono (hf s' (S'.ok G)) (fun c s₁ q => ?_) fun _ _ q => q.elim
    obtain ⟨k, rfl⟩ := q
    rw [if_neg Bool.false_ne_true]
    exact wpAny_execs_nil ⟨W', F'.trans (.of_kp k), rfl, S'.keeps k⟩

theorem Ex.try {body : List Stmt} {h₀ : ExceptHandler} {hs : List ExceptHandler} {pos : Pos} {out : Out} (h : Exs C ρ body out) : Ex C ρ (.Try body (h₀ :: hs) [] [] pos) out := fun s W S =>
  wpAny_Try_except (wpAny_mono (h s W S) (fun f s₁ P => by
    cases f with
    | next => exact wpAny_execs_nil P
    | brk => exact P
    | cont => exact P
    | ret v => exact P) fun _ _ x => x.elim)
end
end Mine
end

section
open PySem PySem.W PyProof.Rows
set_option Elab.async false
set_option maxRecDepth 100000
set_option linter.unusedVariables false
namespace Mine
section
variable {C : Cx} {ρ ρ₁ ρ₂ ρ₃ ρ₄ : Rho} {W W' : Addr → Prop} {n : Nat}

/-- one name after the other -/
theorem asg_step {s s₁ : Shared} {x : Str} {p : Pos} {d : D} {v : Value} {hold : List Value} {rest : Sem Unit} {Q : Unit → Shared → Prop} (G : Own C n) (S : St C ρ W s₁) (F : Fram W W s s₁) (R : Rep s₁.heap (fun a => ¬ W a) v d) (hx : Stor C x) (hr : Rm x ρ ρ₁)
    (h : ∀ s₂, St C ((x, false, d) :: ρ₁) W s₂ → Fram W W s s₂ → (∀ b o, ¬ W b → s₁.heap.get? b = some o → s₂.heap.get? b = some o) → wpAny (model C.prog C.w) C.A rest Q bot s₂) :
    wpAny (model C.prog C.w) C.A (do holding hold (assign (.Name x p) C.env v); rest) Q bot s₁ :=
  wpAny_bind (wpAny_holding (wpAny_mono (Asg.name (p := p) G hx hr s₁ W v S R) (fun _ s₂ q => h s₂ q.2.1 (F.trans q.1) q.2.2) fun _ _ x => x))

theorem kp_ext {s : Shared} {h' : Heap} (e : Heap.ExtBut s.heap.objs.size s.heap h') : Kp s { s with heap := h' } :=
  ⟨keeps_of fun b o q => e b o (Nat.ne_of_lt (Heap.lt_size q)) q, Nat.le_refl _⟩

theorem Asg.two {x₁ x₂ : Str} {p₁ p₂ pos : Pos} {k : Nat} {d₁ d₂ : D} (G : Own C n) (h₁ : Stor C x₁) (h₂ : Stor C x₂) (r₁ : Rm x₁ ρ ρ₁) (r₂ : Rm x₂ ((x₁, false, d₁) :: ρ₁) ρ₂) :
    Asg C (.Tuple [.Name x₁ p₁, .Name x₂ p₂] k pos) (.tup [d₁, d₂]) ρ ((x₂, false, d₂) :: ρ₂) := fun s W v S R => by
  cases R with
  | tup ha hl R =>
    cases R with
    | cons R₁ R =>
      cases R with
      | cons R₂ R =>
        cases R
        refine wpAny_assign_Tuple G.hh hl rfl rfl fun h' he => ?_
        have kp := kp_ext he
        have up : ∀ {v d}, Rep s.heap (fun a => ¬ W a) v d → Rep h' (fun a => ¬ W a) v d := fun R => R.mono (fun b o _ e => kp.get b o e) fun _ _ h _ => h
        show wpAny _ _ (do holding [_] (assign (.Name x₁ p₁) C.env _); do holding [] (assign (.Name x₂ p₂) C.env _); pure ()) _ _ _
        refine asg_step G (S.keeps kp) (.of_kp kp) (up R₁) h₁ r₁ fun s₂ S₂ F₂ k₂ => ?_
        refine asg_step G S₂ F₂ ((up R₂).mono (fun b o hb e => k₂ b o hb e) fun _ _ h _ => h) h₂ r₂ fun s₃ S₃ F₃ k₃ => ?_
        exact wpAny_pure ⟨F₃, S₃, fun b o hb e => k₃ b o hb (k₂ b o hb (kp.get b o e))⟩
theorem Asg.four {x₁ x₂ x₃ x₄ : Str} {p₁ p₂ p₃ p₄ pos : Pos} {k : Nat} {d₁ d₂ d₃ d₄ : D} (G : Own C n) (h₁ : Stor C x₁) (h₂ : Stor C x₂) (h₃ : Stor C x₃) (h₄ : Stor C x₄) (r₁ : Rm x₁ ρ ρ₁) (r₂ : Rm x₂ ((x₁, false, d₁) :: ρ₁) ρ₂)
    (r₃ : Rm x₃ ((x₂, false, d₂) :: ρ₂) ρ₃) (r₄ : Rm x₄ ((x₃, false, d₃) :: ρ₃) ρ₄) :
    Asg C (.Tuple [.Name x₁ p₁, .Name x₂ p₂, .Name x₃ p₃, .Name x₄ p₄] k pos) (.tup [d₁, d₂, d₃, d₄]) ρ ((x₄, false, d₄) :: ρ₄) := fun s W v S R => by
  cases R with
  | tup ha hl R =>
    cases R with
    | cons R₁ R =>
      cases R with
      | cons R₂ R =>
        cases R with
        | cons R₃ R =>
          cases R with
          | cons R₄ R =>
            cases R
            refine wpAny_assign_Tuple G.hh hl rfl rfl fun h' he => ?_
            have kp := kp_ext he
            have up : ∀ {v d}, Rep s.heap (fun a => ¬ W a) v d → Rep h' (fun a => ¬ W a) v d := fun R => R.mono (fun b o _ e => kp.get b o e) fun _ _ h _ => h
            show wpAny _ _ (do holding [_, _, _] (assign (.Name x₁ p₁) C.env _); do holding [_, _] (assign (.Name x₂ p₂) C.env _); do holding [_] (assign (.Name x₃ p₃) C.env _); do holding [] (assign (.Name x₄ p₄) C.env _); pure ()) _ _ _
            refine asg_step G (S.keeps kp) (.of_kp kp) (up R₁) h₁ r₁ fun s₂ S₂ F₂ k₂ => ?_
            refine asg_step G S₂ F₂ ((up R₂).mono (fun b o hb e => k₂ b o hb e) fun _ _ h _ => h) h₂ r₂ fun s₃ S₃ F₃ k₃ => ?_
            refine asg_step G S₃ F₃ ((up R₃).mono (fun b o hb e => k₃ b o hb (k₂ b o hb e)) fun _ _ h _ => h) h₃ r₃ fun s₄ S₄ F₄ k₄ => ?_
            refine asg_step G S₄ F₄ ((up R₄).mono (fun b o hb e => k₄ b o hb (k₃ b o hb (k₂ b o hb e))) fun _ _ h _ => h) h₄ r₄ fun s₅ S₅ F₅ k₅ => ?_
            exact wpAny_pure ⟨F₅, S₅, fun b o hb e => k₅ b o hb (k₄ b o hb (k₃ b o hb (k₂ b o hb (kp.get b o e))))⟩
end

/-! enumerate along a tuple -/
section
variable {prog : Program} {w : World} {A : Around} {E : Value → Shared → Prop} {s : Shared}

theorem nextOf_tuple_item {it l : Addr} {i : Nat} {items} {x : Value} {Q : Value → Shared → Prop} (hit : s.heap.IsTupleIter it l i)
    (hl : s.heap.IsTuple l items) (hx : items[i]? = some x)
    (hQ : ∀ h', h'.IsTupleIter it l (i + 1) → Heap.SameBut it s.heap h' → Q x { s with heap := h' }) :
    wpAny (model prog w) A (Builtin.SmallTypes.nextOf (.ref it)) Q E s := by
  obtain ⟨o, ho, hc, hd⟩ := id hit
  obtain ⟨ol, hol, _, nl, hdl⟩ := hl
  unfold Builtin.SmallTypes.nextOf
  refine wpAny_bind (wpAny_callSpecial?_slot (name := Str.ofString "__next__") hit.typeIs F.slot_tuple_iterator_next
    (wpAny_call_entry F.slot_tuple_iterator_next hit.typeIs F.entry_tuple_iterator_next ?_ (F.args_tuple_iterator_next_1 _)))
  show wpAny _ _ (field (.ref it) 0 >>= _) _ _ s
  refine wpAny_bind (wpAny_field ho hd (x := .ref l) rfl ?_)
  show wpAny _ _ (if (Value.ref l == Value.none) = true then _ else _) _ _ s
  rw [if_neg (show ¬ ((Value.ref l == Value.none) = true) from Bool.false_ne_true)]
  show wpAny _ _ (field (.ref it) 1 >>= _) _ _ s
  refine wpAny_bind (wpAny_field ho hd (x := .int i 0) rfl ?_)
  show wpAny _ _ (seqItems? (.ref l) >>= _) _ _ s
  refine wpAny_bind (wpAny_seqItems hol hdl ?_)
  simp only [Int.toNat_natCast, hx]
  refine wpAny_bind (wpAny_setField ho hd (by simp) (wpAny_pure ⟨x, rfl, wpAny_pure (hQ _ ?_ (Heap.SameBut.update ..))⟩))
  exact ⟨_, Heap.get?_update_self _ ho (Obj.isFreed_of_fields (Obj.data_mapFields hd _)), (Obj.cls_mapFields ..).trans hc, by
    rw [Obj.data_mapFields hd]; simp [rawInt]⟩

theorem nextOf_tuple_end {it l : Addr} {i : Nat} {items} {Q : Value → Shared → Prop} (hh : A.handled = none)
    (hit : s.heap.IsTupleIter it l i) (hl : s.heap.IsTuple l items) (hx : items[i]? = none)
    (hE : ∀ h' e, Heap.ExtBut it s.heap h' → (∃ o, h'.get? e = some o ∧ o.cls = .type "StopIteration") → E (.ref e) { s with heap := h' }) :
    wpAny (model prog w) A (Builtin.SmallTypes.nextOf (.ref it)) Q E s := by
  obtain ⟨o, ho, hc, hd⟩ := id hit
  obtain ⟨ol, hol, _, nl, hdl⟩ := hl
  unfold Builtin.SmallTypes.nextOf
  refine wpAny_bind (wpAny_callSpecial?_slot (name := Str.ofString "__next__") hit.typeIs F.slot_tuple_iterator_next
    (wpAny_call_entry F.slot_tuple_iterator_next hit.typeIs F.entry_tuple_iterator_next ?_ (F.args_tuple_iterator_next_1 _)))
  show wpAny _ _ (field (.ref it) 0 >>= _) _ _ s
  refine wpAny_bind (wpAny_field ho hd (x := .ref l) rfl ?_)
  show wpAny _ _ (if (Value.ref l == Value.none) = true then _ else _) _ _ s
  rw [if_neg (show ¬ ((Value.ref l == Value.none) = true) from Bool.false_ne_true)]
  show wpAny _ _ (field (.ref it) 1 >>= _) _ _ s
  refine wpAny_bind (wpAny_field ho hd (x := .int i 0) rfl ?_)
  show wpAny _ _ (seqItems? (.ref l) >>= _) _ _ s
  refine wpAny_bind (wpAny_seqItems hol hdl ?_)
  simp only [Int.toNat_natCast, hx]
  refine wpAny_bind (wpAny_rule (wpAny_bind (wpAny_setField ho hd (by simp) ?_)))
  show wpAny _ _ (newExc (.type "StopIteration") [] >>= _) _ _ _
  refine wpAny_bind ?_
  simp only [newExc, newTuple]
  refine wpAny_bind (wpAny_newObj_type ?_ (by size_fits))
  refine wpAny_bind (m := firstArgMember _ _) (wpAny_of_eq (a := Value.none) (by first | rfl | (simp only [firstArgMember]; rfl)) ?_)
  refine wpAny_newObj_type ?_ (by size_fits)
  simp only [raiseNew]
  refine wpAny_bind (wpAny_handled ?_)
  first | rw [show A.in1.handled = none from hh] | rw [hh]
  refine wpAny_bind (wpAny_pure (wpAny_throw ?_))
  exact hE _ _ (((Heap.SameBut.update ..).extBut.push _).push _) ⟨_, Heap.get?_push_size _ rfl, rfl⟩
end

theorem draws_tuple {prog : Program} {w : World} {A : Around} (hh : A.handled = none) (it l : Addr) (hne : l ≠ it) (items : Array Value) :
    Draws prog w A it [it, l] items.size (fun i v => items[i]? = some v) (fun i h => h.IsTupleIter it l i ∧ h.IsTuple l items) where
  live := fun _ _ st => let ⟨o, ho, _⟩ := st.1; ⟨o, ho⟩
  frame := fun _ _ _ st hk => ⟨st.1.at fun o e => hk it (by simp) o e, st.2.at fun o e => hk l (by simp) o e⟩
  item := fun i s Q E hi st hQ => by
    refine nextOf_tuple_item st.1 st.2 (x := items[i]) (by simp [hi]) fun h' hit' hs' => ?_
    exact hQ _ h' s.toks (by simp [hi]) ⟨hit', st.2.extBut hs'.extBut hne⟩ hs'
  done := fun s Q E st hE => nextOf_tuple_end hh st.1 st.2 (by simp) hE

open AutoSeq1 (wpAny_loadPart')
theorem meets_enumerate_tup (l : Addr) (items : Array Value) (n : Nat) (dct : Option Addr) (sl : Array (Option Value)) :
    Meets (Builtin.«enumerate.__new__» ⟨[.type "enumerate", .ref l], []⟩) (fun _ R s => s.heap.get? l = some { cls := .type "tuple", dict := dct, data := .seq items n, slots := sl } ∧
      R (.ok (.ret (.ref (s.heap.push { cls := .type "tuple_iterator", data := .fields #[.ref l, .int 0 0] }).objs.size)))
        { s with heap := (s.heap.push { cls := .type "tuple_iterator", data := .fields #[.ref l, .int 0 0] }).push { cls := .type "enumerate", data := .fields #[.none, .bool false, .ref s.heap.objs.size, rawInt 0, .none, .none] } }) :=
  .of_wp fun prog w A R s h => by
    obtain ⟨hp, g, d, tk, os⟩ := s; obtain ⟨hl, h⟩ := h
    have hsub := sub_enumerate
    have hL : Heap.IsTuple (Shared.heap ⟨hp, g, d, tk, os⟩) l items := ⟨_, hl, rfl, n, rfl⟩
    wp_walk using wpAny_loadPart' hl
    refine wpAny_stack_any fun st => wpAny_pure ?_
    split
    · rename_i c _ _ _ _ _
      cases (c == Value.type "enumerate")
      · wp_walk using wpAny_loadPart' hl, wpAny_pyIter_tuple hL
        exact ⟨_, rfl, h⟩
      · wp_walk using wpAny_loadPart' hl, wpAny_pyIter_tuple hL
        exact ⟨_, rfl, h⟩
    · wp_walk using wpAny_loadPart' hl, wpAny_pyIter_tuple hL
      exact ⟨_, rfl, h⟩

theorem call_enumerate_tup {prog : Program} {w : World} {A : Around} {E : Value → Shared → Prop} {s : Shared} {l : Addr} {items : Array Value} {Q : Value → Shared → Prop} (hL : s.heap.IsTuple l items)
    (h : ∀ h', IsEnum h' (s.heap.objs.size + 1) s.heap.objs.size 0 .none → h'.IsTupleIter s.heap.objs.size l 0 → h'.objs.size = s.heap.objs.size + 2 →
      (∀ b o, s.heap.get? b = some o → h'.get? b = some o) → Q (.ref (s.heap.objs.size + 1)) { s with heap := h' }) :
    wpAny (model prog w) A (call (.type "enumerate") [.ref l]) Q E s := by
  obtain ⟨⟨c, dct, dt, sl⟩, hl, hc, n, hd⟩ := hL
  replace hc : c = .type "tuple" := hc
  replace hd : dt = .seq items n := hd
  subst hc hd
  refine callType_new F.called_enumerate (by decide) (F.typeCall_enumerate_1 _) (F.newCall_enumerate_1 _) (fun obj => F.args_object_init_2 obj _) F.entry_enumerate_new
    (meets_enumerate_tup l items n dct sl) ⟨hl, ?_⟩
  have hz : (s.heap.push { cls := .type "tuple_iterator", data := .fields #[.ref l, .int 0 0] }).objs.size = s.heap.objs.size + 1 := Heap.size_push ..
  show _ ∧ _
  rw [hz]
  have he : IsEnum ((s.heap.push { cls := .type "tuple_iterator", data := .fields #[.ref l, .int 0 0] }).push
      { cls := .type "enumerate", data := .fields #[.none, .bool false, .ref s.heap.objs.size, rawInt 0, .none, .none] }) (s.heap.objs.size + 1) s.heap.objs.size 0 .none := by
    have := Heap.get?_push_size (s.heap.push { cls := .type "tuple_iterator", data := .fields #[.ref l, .int 0 0] })
      (o := { cls := .type "enumerate", data := .fields #[.none, .bool false, .ref s.heap.objs.size, rawInt 0, .none, .none] }) rfl
    rw [hz] at this; exact this
  refine ⟨⟨_, he, rfl⟩, h _ he ⟨_, Heap.get?_push_of_some _ (Heap.get?_push_size _ rfl), rfl, rfl⟩ (by rw [Heap.size_push, hz]) fun b o y => Heap.get?_push_of_some _ (Heap.get?_push_of_some _ y)⟩

section
variable {C : Cx} {ρ : Rho} {W : Addr → Prop} {n : Nat}

def enumD (ds : List D) : List D := (List.range ds.length).map fun (i : Nat) => .tup [.int i, ds.getD i .none]
theorem enumD_get {ds : List D} {i : Nat} {d : D} (h : (enumD ds)[i]? = some d) : ∃ d', ds[i]? = some d' ∧ d = .tup [.int i, d'] := by
  simp only [enumD, List.getElem?_map] at h
  by_cases hi : i < ds.length
  · rw [List.getElem?_range hi] at h
    refine ⟨ds[i], List.getElem?_eq_getElem hi, ?_⟩
    simp at h
    rw [← h, List.getElem?_eq_getElem hi]
    rfl
  · rw [List.getElem?_eq_none (by simpa using hi)] at h
    cases h

/-- enumerate along a tuple, its pairs unpacked -/
theorem Fd.enum {e : Expr} {elts : List Expr} {k : Nat} {tp : Pos} {fp pos : Pos} {ds : List D} (G : Own C n) (hf : Built C "enumerate" (.type "enumerate"))
    (he : ∀ s W, St C ρ W s → wpAny (model C.prog C.w) C.A (eval e C.env) (fun v s₁ => Kp s s₁ ∧ Rep s₁.heap (fun a => ¬ W a) v (.tup ds)) bot s) (hse : starEach [e] C.env = [(false, eval e C.env)] := by rfl) :
    Fd C ρ (.Call (.Name "enumerate" fp) [e] [] pos) (.Tuple elts k tp) (enumD ds) := fun s W S Q h =>
  Call_Name (trees := backTo pos (starEach [e] C.env)) rfl (built_name G.toGood hf.no hf.bo hf.nn hf.kd hf.db (S.ok G) (PyProof.Rows.callWith_type1 (args_cons (wpAny_mono (he s W S) (fun v s₁ g => args_nil (by
    obtain ⟨k₁, R⟩ := g
    cases R with
    | tup ha hl R =>
      rename_i l vs
      have hl' : s₁.heap.IsTuple l vs.toArray := hl
      refine call_enumerate_tup hl' fun h' hE hT hz hk => ?_
      have k₂ : Kp s₁ { s₁ with heap := h' } := ⟨keeps_of hk, Nat.le_refl _⟩
      refine wpAny_pyIter_enum hE ?_
      have hlt : l < s₁.heap.objs.size := by obtain ⟨_, e, _⟩ := hl'; exact Heap.lt_size e
      have n1 : ∀ b, s₁.heap.objs.size ≤ b → s₁.heap.get? b = none := fun b hb => Heap.get?_none_of_le hb
      have hne : s₁.heap.objs.size + 1 ≠ s₁.heap.objs.size := Nat.succ_ne_self _
      have hef : s₁.heap.objs.size + 1 ∉ [s₁.heap.objs.size, l] := fun hm => by
        rcases List.mem_cons.mp hm with q | q
        · exact hne q
        · rw [List.mem_singleton] at q; rw [← q] at hlt; exact absurd hlt (Nat.not_lt_of_le (Nat.le_succ _))
      have W' := WalksT.enumerateD (prog := C.prog) (w := C.w) (A := C.A) (draws_tuple (A := C.A.in1) G.hh s₁.heap.objs.size l (Nat.ne_of_lt hlt) vs.toArray) (s₁.heap.objs.size + 1) hne hef (by simp)
      have hlen : vs.length = ds.length := R.length
      have hnW : ∀ b, s₁.heap.objs.size ≤ b → ¬ W b := fun b hb => S.notW (k₁.none (n1 b hb))
      refine h _ _ (k₁.trans k₂) ⟨_, _, _, ⟨⟨_, hE⟩, hT, hl'.at fun o e => hk _ o e⟩, W'.frame, W'.sub, ?_, ?_, ?_, ?_, ?_, ?_⟩
      · intro b hb
        rcases List.mem_cons.mp hb with rfl | hb
        · exact ⟨_, hE⟩
        · rcases List.mem_cons.mp hb with rfl | hb
          · obtain ⟨o, e, _⟩ := hT; exact ⟨o, e⟩
          · rw [List.mem_singleton.mp hb]; obtain ⟨o, e, _⟩ := hl'; exact ⟨o, hk _ o e⟩
      · intro b hb
        rcases List.mem_cons.mp hb with rfl | hb
        · exact k₁.none (n1 _ (Nat.le_succ _))
        · rw [List.mem_singleton.mp hb]; exact k₁.none (n1 _ (Nat.le_refl _))
      · intro b hb
        rcases List.mem_cons.mp hb with rfl | hb
        · exact hnW _ (Nat.le_succ _)
        · rcases List.mem_cons.mp hb with rfl | hb
          · exact hnW _ (Nat.le_refl _)
          · rw [List.mem_singleton.mp hb]; exact ha
      · rintro i hh ⟨⟨old, h1⟩, h2, _⟩ b hb
        rcases List.mem_cons.mp hb with rfl | hb
        · exact ⟨_, h1, fun xs c q => by cases q⟩
        · rw [List.mem_singleton.mp hb]; obtain ⟨o, e, _, e2⟩ := h2; exact ⟨o, e, fun xs c q => by rw [e2] at q; cases q⟩
      · intro i d s₃ hd st hk₃
        obtain ⟨d', hd', rfl⟩ := enumD_get hd
        have hi : i < vs.toArray.size := by rw [List.size_toArray, hlen]; exact (List.getElem?_eq_some_iff.mp hd').1
        refine wpAny_mono (wpAny_toks_of (Nat.le_refl _) (W'.item i s₃ (fun r s' => ∃ T vals h' tk, r = some (.ref T) ∧ s' = { s₃ with heap := h', toks := tk } ∧ (∃ t x, vs.toArray[i]? = some x ∧ vals = #[.int i t, x]) ∧ s₃.heap.objs.size ≤ T ∧ h'.IsTuple T vals ∧
          ((∃ x, IsEnumOut h' (s₁.heap.objs.size + 1) s₁.heap.objs.size ((i : Int) + 1) x T) ∧ (h'.IsTupleIter s₁.heap.objs.size l (i + 1) ∧ h'.IsTuple l vs.toArray) ∧ T ≠ s₁.heap.objs.size + 1 ∧ T ≠ s₁.heap.objs.size) ∧
          (∀ b o, b ∉ [s₁.heap.objs.size + 1, s₁.heap.objs.size] → s₃.heap.get? b = some o → h'.get? b = some o)) bot hi st fun T vals h' tk a b c d e => ⟨T, vals, h', tk, rfl, rfl, a, b, c, d, e⟩)) (fun r s' q => ?_) fun _ _ q => q.2
        obtain ⟨htk, T, vals, h₄, tk₄, rfl, rfl, ⟨t, x, hx, rfl⟩, hTs, hTt, hmid, hk₄⟩ := q
        refine ⟨_, rfl, W'.go elts k tp i T _ _ _ hmid fun h₅ st₅ hk₅ => ?_⟩
        have up : ∀ b o, b ∉ [s₁.heap.objs.size + 1, s₁.heap.objs.size] → s₃.heap.get? b = some o → h₅.get? b = some o := fun b o hb e => hk₅ b o hb (hk₄ b o hb e)
        refine ⟨⟨⟨h₅, tk₄, rfl⟩, htk, up⟩, st₅, ?_⟩
        have hTw : T ∉ [s₁.heap.objs.size + 1, s₁.heap.objs.size] := fun hm => by
          rcases List.mem_cons.mp hm with q | q
          · exact hmid.2.2.1 q
          · exact hmid.2.2.2 (List.mem_singleton.mp q)
        have hx' : vs[i]? = some x := by simpa using hx
        obtain ⟨d'', hd'', Rx⟩ := R.get hx'
        rw [hd'] at hd''
        cases hd''
        have nw : ∀ b o, s₁.heap.get? b = some o → b ∉ [s₁.heap.objs.size + 1, s₁.heap.objs.size] := fun b o e hm => by
          have := Heap.lt_size e
          rcases List.mem_cons.mp hm with q | q
          · rw [q] at this; exact absurd this (Nat.not_lt_of_le (Nat.le_succ _))
          · rw [List.mem_singleton.mp q] at this; exact Nat.lt_irrefl _ this
        have Rx₅ : Rep h₅ (fun a => (a ∉ [s₁.heap.objs.size + 1, s₁.heap.objs.size] ∧ ¬ W a ∧ ∃ o, h'.get? a = some o) ∨ s₃.heap.get? a = none) x d' :=
          Rx.mono (fun b o hb e => up b o (nw b o e) (hk₃ b o (nw b o e) hb (hk b o e))) fun b o hb e => .inl ⟨nw b o e, hb, o, hk b o e⟩
        exact .tup (vs := [.int i t, x]) (.inr (Heap.get?_none_of_le hTs)) (hTt.at fun o e => hk₅ T o hTw e) (.cons (.int _ _) (.cons Rx₅ .nil))
      · intro s₃ st
        have hlen' : (enumD ds).length = vs.toArray.size := by simp [enumD, hlen]
        rw [hlen'] at st
        refine wpAny_mono (wpAny_toks_of (Nat.le_refl _) (W'.done s₃ (fun r s' => ∃ h' tk, r = none ∧ s' = { s₃ with heap := h', toks := tk } ∧ ∀ b o, b ∉ [s₁.heap.objs.size + 1, s₁.heap.objs.size] → s₃.heap.get? b = some o → h'.get? b = some o) bot st fun h' tk k => ⟨h', tk, rfl, rfl, k⟩)) (fun r s' q => ?_) fun _ _ q => q.2
        obtain ⟨htk, h₄, tk₄, rfl, rfl, hk₄⟩ := q
        exact ⟨rfl, ⟨h₄, tk₄, rfl⟩, htk, hk₄⟩)) fun _ _ x => x) hse) hse rfl))
end
end Mine
end

section
open PySem PySem.W PyProof.Rows PySem.Calls
set_option Elab.async false
set_option maxRecDepth 100000
set_option linter.unusedVariables false
namespace Mine

def Cx.callee (C : Cx) (env : Env) (h : Heap) (L : Addr) (tz : Bool) : Cx :=
  { C with A := C.A.deeper env, env := env, fenv := env, L := L, h₀ := h, outer := C.fenv :: C.outer, A₀ := C.A, tz := tz }

/-- a function of the file's top at work -/
def Fn (C : Cx) (f : Addr) (ds : List D) (d : D) : Prop := ∀ vs s, (∃ m, Fr C.h₀ C.L s.heap m) → (C.tz = true → 0 < s.toks) → Reps s.heap (fun _ => True) vs ds →
  codeAny (model C.prog C.w) C.A (.call (.ref f) ⟨vs, []⟩) (fun r s' => match r with | .ok (.ret v) => Got s true d v s' | .ok _ => False | .error _ => False) s

section
variable {C : Cx} {ρ : List (Str × D)} {n : Nat}

theorem below_now {s : Shared} {m : Str → Option Value} (G : Good C n) (F : Fr C.h₀ C.L s.heap m) : Below C.A C.base (C.fenv :: C.outer) s.heap := by
  have B₁ := pushX G.B F G.hf G.hke
  exact ⟨G.hA, B₁.stays, B₁.frames⟩

theorem good_callee {s : Shared} {m : Str → Option Value} (G : Good C (n + 1)) (F : Fr C.h₀ C.L s.heap m) (env : Env) (L : Addr) (tz : Bool) (hf : env.frame = some L) (hk : env.scope.kind = .function) (hg : env.globals = mainGlobals) (hb : env.builtins = builtinsNs) (hL : env.locals = L) :
    Own (C.callee env s.heap L tz) n where
  B := below_now G F
  X := G.X.keeps F.keep
  T := G.T.keeps F.keep
  V := G.V.keeps F.keep
  hA := Around.frames_deeper G.hA
  hf := hf
  hke := hk
  hh := G.hh
  hgd := G.hgd
  room := by have := G.room; show C.A.depth + 1 + n < recursionLimit; omega
  units := by have := G.units; show C.A.units + 3 + 20 * n + 100 < cLine; omega
  gl := hg
  bi := hb
  kd := hk
  ef := rfl
  eL := hL

/-- the names of a call's frame -/
def Binds (scope : Scope) (binds : List (Str × Value)) (ρ₀ : Rho) (h : Heap) : Prop :=
  (∀ y ∈ binds, scope.names.lookup y.1 = some .local) ∧ 0 < binds.length ∧ ∀ e ∈ ρ₀, e.2.1 = false ∧ ∃ v, binds.reverse.lookup e.1 = some v ∧ Rep h (fun _ => True) v e.2.2 ∧ scope.names.lookup e.1 = some .local

theorem fn_core {name qual : Str} {params : Arguments} {body : List Stmt} {scope : Scope} {dV kV doc pm cdv ct oc : Value} {an od : Option Addr} {osl : Array (Option Value)} {f : Addr} {ds : List D} {d : D} {ρ₀ : Rho} (G : Good C (n + 1))
    (ho : C.K.lookup f = some ⟨oc, od, .func (fnX name qual params body scope [] dV kV doc pm an cdv ct), osl⟩) (hcd : codeIn C.K cdv qual = true)
    (hbind : ∀ vs s, Reps s.heap (fun _ => True) vs ds → ∀ (M : Model) (A : Around) (E : Value → Shared → Prop) (Q : List (Str × Value) → Shared → Prop), (∀ binds s₁, Kp s s₁ → Binds scope binds ρ₀ s₁.heap → Q binds s₁) →
      wpAny M A (bindArgs (fnX name qual params body scope [] dV kV doc pm an cdv ct) ⟨vs, []⟩) Q E s)
    (hcell : ∀ x ∈ scope.names, x.2 ≠ .cell)
    (h : ∀ (h₀ : Heap) L, Own (C.callee (envX qual scope L f cdv []) h₀ L true) n → Exs (C.callee (envX qual scope L f cdv []) h₀ L true) ρ₀ body (.ret d))
    (hco : scope.isCoroutine = false) (hgen : scope.isGenerator = false) (hk : scope.kind = .function) : Fn C f ds d := by
  intro vs s hF htz R
  obtain ⟨m, F⟩ := hF
  have X := G.X.keeps F.keep
  refine codeAny_call_function (fd := fnX name qual params body scope [] dV kV doc pm an cdv ct) (body := body) (by have := G.room; omega) (X _ _ ho) rfl hco hgen rfl (codeRec_of X hcd) (hbind vs s R _ _ _ _ fun binds s₁ k B => ?_)
  obtain ⟨hloc, hlen, hb⟩ := B
  refine wpAny_newFunctionEnv hcell hloc (fun h₁ hns hsb => ⟨(G.T.keeps (F.keeps k.get).keep).nolimit.fresh _ hsb, codeAny_func ?_⟩) hk
  have F₁ := F.keeps k.get
  have O := good_callee G F₁ (envX qual scope s₁.heap.objs.size f cdv []) s₁.heap.objs.size true rfl hk rfl rfl rfl
  have up : ∀ b o, s₁.heap.get? b = some o → h₁.get? b = some o := fun b o e => hsb.extBut b o (Nat.ne_of_lt (Heap.lt_size e)) (Heap.get?_push_of_some _ e)
  have k₁ : Kp s₁ { s₁ with heap := h₁, toks := s₁.toks + binds.length } := ⟨keeps_of up, Nat.le_add_right _ _⟩
  have nw : ∀ a, a = s₁.heap.objs.size → s₁.heap.get? a = none := fun a e => by rw [e]; exact fresh_new s₁
  have S : St (C.callee (envX qual scope s₁.heap.objs.size f cdv []) s₁.heap s₁.heap.objs.size true) ρ₀ (fun a => a = s₁.heap.objs.size) { s₁ with heap := h₁, toks := s₁.toks + binds.length } := by
    refine ⟨fun _ => Nat.lt_of_lt_of_le hlen (Nat.le_add_left _ _), _, fun _ => none, fun _ => 0, ⟨hns, up, Nat.le_refl _⟩, ⟨fun n c e => (nomatch (e : none = some c)), List.Pairwise.nil, fun n c hm => (nomatch hm)⟩, rfl, fun e he => (nomatch he), fun a ha => ?_, nw, fun e he => ?_, fun e₁ he₁ e₂ he₂ o₁ => ?_⟩
    · obtain ⟨o, _, _, e, _⟩ := id hns
      have ha' : a = s₁.heap.objs.size := ha
      exact ⟨o, ha' ▸ e⟩
    · obtain ⟨ho, v, hv, Rv, hl⟩ := hb e he
      refine ⟨v, .inl ⟨hl, hv⟩, ?_⟩
      rw [ho]
      exact Rv.mono (fun b o _ e => up b o e) fun b o _ e q => by rw [nw b q] at e; cases e
    · rw [(hb e₁ he₁).1] at o₁; cases o₁
  refine wpAny_mono (h s₁.heap s₁.heap.objs.size O _ _ S) (fun fl s₂ P => ?_) fun _ _ y => y.elim
  obtain ⟨W', ⟨⟨h₂, t₂, rfl⟩, ht, _⟩, v, rfl, Rv, m₂, F₂⟩ := P
  have k₂ : Kp s₁ { s₁ with heap := h₂, toks := t₂ } := ⟨⟨h₂, t₂, rfl, F₂.keep⟩, Nat.le_trans (Nat.le_add_right _ _) ht⟩
  exact ⟨k.trans k₂, Rv.mono (fun _ _ _ e => e) fun a o e _ _ => k.none e⟩

/-- one argument -/
theorem fn_one {x : Str} {name qual : Str} {params : Arguments} {body : List Stmt} {scope : Scope} {dV kV doc pm cdv ct oc : Value} {an od : Option Addr} {osl : Array (Option Value)} {f : Addr} {a d : D} (G : Good C (n + 1))
    (ho : C.K.lookup f = some ⟨oc, od, .func (fnX name qual params body scope [] dV kV doc pm an cdv ct), osl⟩) (hcd : codeIn C.K cdv qual = true)
    (hbind : ∀ v, bindArgs (fnX name qual params body scope [] dV kV doc pm an cdv ct) ⟨[v], []⟩ = pure [(x, v)]) (hx : scope.names.lookup x = some .local)
    (hcell : ∀ x ∈ scope.names, x.2 ≠ .cell)
    (h : ∀ (h₀ : Heap) L, Own (C.callee (envX qual scope L f cdv []) h₀ L true) n → Exs (C.callee (envX qual scope L f cdv []) h₀ L true) [(x, false, a)] body (.ret d))
    (hco : scope.isCoroutine = false) (hgen : scope.isGenerator = false) (hk : scope.kind = .function) : Fn C f [a] d :=
  fn_core G ho hcd (fun vs s R M A E Q hQ => by
    cases R with
    | cons R₁ R =>
      cases R
      rw [hbind]
      refine wpAny_pure (hQ _ s (.refl s) ⟨fun y hy => ?_, Nat.one_pos, fun e he => ?_⟩)
      · rw [List.mem_singleton.mp hy]; exact hx
      · rw [List.mem_singleton.mp he]; exact ⟨rfl, _, by simp, R₁, hx⟩) hcell h hco hgen hk

theorem fn_two {x y : Str} {name qual : Str} {params : Arguments} {body : List Stmt} {scope : Scope} {dV kV doc pm cdv ct oc : Value} {an od : Option Addr} {osl : Array (Option Value)} {f : Addr} {a b d : D} (G : Good C (n + 1))
    (ho : C.K.lookup f = some ⟨oc, od, .func (fnX name qual params body scope [] dV kV doc pm an cdv ct), osl⟩) (hcd : codeIn C.K cdv qual = true)
    (hbind : ∀ v u, bindArgs (fnX name qual params body scope [] dV kV doc pm an cdv ct) ⟨[v, u], []⟩ = pure [(x, v), (y, u)]) (hx : scope.names.lookup x = some .local) (hy : scope.names.lookup y = some .local) (hxy : (x == y) = false)
    (hcell : ∀ x ∈ scope.names, x.2 ≠ .cell)
    (h : ∀ (h₀ : Heap) L, Own (C.callee (envX qual scope L f cdv []) h₀ L true) n → Exs (C.callee (envX qual scope L f cdv []) h₀ L true) [(x, false, a), (y, false, b)] body (.ret d))
    (hco : scope.isCoroutine = false) (hgen : scope.isGenerator = false) (hk : scope.kind = .function) : Fn C f [a, b] d :=
  fn_core G ho hcd (fun vs s R M A E Q hQ => by
    cases R with
    | cons R₁ R =>
      cases R with
      | cons R₂ R =>
        cases R
        rw [hbind]
        refine wpAny_pure (hQ _ s (.refl s) ⟨fun z hz => ?_, Nat.two_pos, fun e he => ?_⟩)
        · rcases List.mem_cons.mp hz with rfl | hz
          · exact hx
          · rw [List.mem_singleton.mp hz]; exact hy
        · rcases List.mem_cons.mp he with rfl | he
          · exact ⟨rfl, _, by simp [List.lookup, hxy], R₁, hx⟩
          · rw [List.mem_singleton.mp he]; exact ⟨rfl, _, by simp, R₂, hy⟩) hcell h hco hgen hk

/-- join's way: one argument, and one more -/
theorem fn_more {x y : Str} {name qual : Str} {params : Arguments} {body : List Stmt} {scope : Scope} {dV kV doc pm cdv ct oc : Value} {an od : Option Addr} {osl : Array (Option Value)} {f : Addr} {a b d : D} (G : Good C (n + 1))
    (ho : C.K.lookup f = some ⟨oc, od, .func (fnX name qual params body scope [] dV kV doc pm an cdv ct), osl⟩) (hcd : codeIn C.K cdv qual = true)
    (hbind : ∀ v u, bindArgs (fnX name qual params body scope [] dV kV doc pm an cdv ct) ⟨[v, u], []⟩ = (do let t ← newTuple [u]; pure [(x, v), (y, t)])) (hx : scope.names.lookup x = some .local) (hy : scope.names.lookup y = some .local) (hxy : (x == y) = false)
    (hcell : ∀ x ∈ scope.names, x.2 ≠ .cell)
    (h : ∀ (h₀ : Heap) L, Own (C.callee (envX qual scope L f cdv []) h₀ L true) n → Exs (C.callee (envX qual scope L f cdv []) h₀ L true) [(x, false, a), (y, false, .tup [b])] body (.ret d))
    (hco : scope.isCoroutine = false) (hgen : scope.isGenerator = false) (hk : scope.kind = .function) : Fn C f [a, b] d :=
  fn_core G ho hcd (fun vs s R M A E Q hQ => by
    cases R with
    | cons R₁ R =>
      cases R with
      | cons R₂ R =>
        cases R
        rw [hbind]
        refine wpAny_bind (wpAny_newTuple (wpAny_pure (hQ _ _ ⟨keeps_of fun b o e => Heap.get?_push_of_some _ e, Nat.le_refl _⟩ ⟨fun z hz => ?_, Nat.two_pos, fun e he => ?_⟩)))
        · rcases List.mem_cons.mp hz with rfl | hz
          · exact hx
          · rw [List.mem_singleton.mp hz]; exact hy
        · rcases List.mem_cons.mp he with rfl | he
          · exact ⟨rfl, _, by simp [List.lookup, hxy], R₁.keeps fun b o e => Heap.get?_push_of_some _ e, hx⟩
          · rw [List.mem_singleton.mp he]
            exact ⟨rfl, _, by simp, .tup trivial ⟨_, Heap.get?_push_size _ rfl, rfl, 0, rfl⟩ (.cons (R₂.keeps fun b o e => Heap.get?_push_of_some _ e) .nil), hy⟩) hcell h hco hgen hk

/-- two arguments, both in cells -/
theorem fn_cells {x y : Str} {name qual : Str} {params : Arguments} {body : List Stmt} {scope : Scope} {dV kV doc pm cdv ct oc : Value} {an od : Option Addr} {osl : Array (Option Value)} {f : Addr} {a b d : D} (G : Good C (n + 1))
    (ho : C.K.lookup f = some ⟨oc, od, .func (fnX name qual params body scope [] dV kV doc pm an cdv ct), osl⟩) (hcd : codeIn C.K cdv qual = true)
    (hbind : ∀ v u, bindArgs (fnX name qual params body scope [] dV kV doc pm an cdv ct) ⟨[v, u], []⟩ = pure [(x, v), (y, u)]) (hx : scope.names.lookup x = some .cell) (hy : scope.names.lookup y = some .cell)
    (hnd : ((cellsFrom 0 scope.names []).map (·.1)).Nodup)
    (hcm : ∀ L v u, bindC (envOfC qual scope L f cdv).kindOf [(x, v), (y, u)] (fun _ => none) x = some v ∧ bindC (envOfC qual scope L f cdv).kindOf [(x, v), (y, u)] (fun _ => none) y = some u)
    (h : ∀ (h₀ : Heap) L, Own (C.callee (envOfC qual scope L f cdv) h₀ L C.tz) n → Exs (C.callee (envOfC qual scope L f cdv) h₀ L C.tz) [(x, false, a), (y, false, b)] body (.ret d))
    (hco : scope.isCoroutine = false) (hgen : scope.isGenerator = false) (hk : scope.kind = .function) : Fn C f [a, b] d := by
  intro vs s hF htz R
  obtain ⟨m, F⟩ := hF
  have X := G.X.keeps F.keep
  cases R with
  | cons R₁ R =>
    cases R with
    | cons R₂ R =>
      cases R
      rename_i v u
      refine codeAny_call_function (fd := fnX name qual params body scope [] dV kV doc pm an cdv ct) (body := body) (by have := G.room; omega) (X _ _ ho) rfl hco hgen rfl (codeRec_of X hcd) ?_
      rw [hbind]
      have hxc : ∀ N, ((cellsFrom N scope.names []).lookup x).isSome = true := fun N => cellsFrom_some _ _ _ (.inl hx)
      have hyc : ∀ N, ((cellsFrom N scope.names []).lookup y).isSome = true := fun N => cellsFrom_some _ _ _ (.inl hy)
      refine wpAny_pure ?_
      have T := G.T.keeps F.keep
      refine wpAny_mono (wpAny_toks_of (Nat.le_refl _) (wpAny_newFunctionEnv_cells (Q := fun env s' => env = envOfC qual scope s.heap.objs.size f cdv ∧ InCallC s env.locals (bindL env.kindOf [(x, v), (y, u)] fun _ => none) env.cells (bindC env.kindOf [(x, v), (y, u)] fun _ => none) s') (E := fun _ _ => False) hk (fun z hz => ?_) fun env' he s' hc => ⟨he, hc⟩)) (fun env s₁ q => ?_) fun _ _ q => q.2.elim
      · rcases List.mem_cons.mp hz with rfl | hz
        · exact .inr ⟨hx, hxc _⟩
        · rw [List.mem_singleton.mp hz]; exact .inr ⟨hy, hyc _⟩
      obtain ⟨htk, rfl, I⟩ := q
      refine ⟨T.nolimit.keeps I.toInCall.keep, codeAny_func ?_⟩
      obtain ⟨h₁, tk, rfl, up⟩ := I.done
      have k₁ : Kp s { s with heap := h₁, toks := tk } := ⟨keeps_of up, htk⟩
      have O := good_callee G F (envOfC qual scope s.heap.objs.size f cdv) s.heap.objs.size C.tz rfl hk rfl rfl rfl
      have hmem : ∀ e ∈ cellsFrom (s.heap.objs.size + 1) scope.names [], (cellsFrom (s.heap.objs.size + 1) scope.names []).lookup e.1 = some e.2 := fun e he =>
        lookup_of_mem_nodup (cellsFrom_names scope.names 0 (s.heap.objs.size + 1) [] [] rfl ▸ hnd) he
      let W : Addr → Prop := fun a => a = s.heap.objs.size ∨ ∃ e ∈ cellsFrom (s.heap.objs.size + 1) scope.names [], e.2 = a
      have hWge : ∀ a, W a → s.heap.objs.size ≤ a := fun a ha => by
        rcases ha with rfl | ⟨e, he, rfl⟩
        · exact Nat.le_refl _
        · exact Nat.le_of_lt (I.above e.1 e.2 he)
      have nw : ∀ a, W a → s.heap.get? a = none := fun a ha => Heap.get?_none_of_le (hWge a ha)
      have rep : ∀ {w dd}, Rep s.heap (fun _ => True) w dd → Rep h₁ (fun a => ¬ W a) w dd := fun R => R.mono (fun b o _ e => up b o e) fun b o _ e q => by rw [nw b q] at e; cases e
      have S : St (C.callee (envOfC qual scope s.heap.objs.size f cdv) s.heap s.heap.objs.size C.tz) [(x, false, a), (y, false, b)] W { s with heap := h₁, toks := tk } := by
        refine ⟨fun q => Nat.lt_of_lt_of_le (htz q) htk, _, _, fun _ => 0, ⟨I.toInCall.ns, up, Nat.le_refl _⟩, ⟨I.cell, I.apart, I.above⟩, .inl rfl, fun e he => .inr ⟨e, he, rfl⟩, fun a ha => ?_, nw, fun e he => ?_, fun e₁ he₁ e₂ he₂ o₁ => ?_⟩
        · rcases ha with rfl | ⟨e, he, rfl⟩
          · obtain ⟨o, _, _, e, _⟩ := I.toInCall.ns
            exact ⟨o, e⟩
          · obtain ⟨o, e, _⟩ := I.cell e.1 e.2 (hmem e he)
            exact ⟨o, e⟩
        · rcases List.mem_cons.mp he with rfl | he
          · exact ⟨v, .inr ⟨hx, Option.isSome_iff_exists.mp (hxc _), (hcm _ v u).1⟩, rep R₁⟩
          · rw [List.mem_singleton.mp he]
            exact ⟨u, .inr ⟨hy, Option.isSome_iff_exists.mp (hyc _), (hcm _ v u).2⟩, rep R₂⟩
        · rcases List.mem_cons.mp he₁ with rfl | he₁
          · cases o₁
          · rw [List.mem_singleton.mp he₁] at o₁; cases o₁
      refine wpAny_mono (h s.heap s.heap.objs.size O _ _ S) (fun fl s₂ P => ?_) fun _ _ y => y.elim
      obtain ⟨W', ⟨⟨h₂, t₂, rfl⟩, ht, _⟩, v, rfl, Rv, m₂, F₂⟩ := P
      exact ⟨⟨⟨h₂, t₂, rfl, F₂.keep⟩, Nat.le_trans htk ht⟩, Rv.mono (fun _ _ _ e => e) fun a o e _ _ => e⟩

/-- the call in the text -/
theorem Ev.fn {f : Str} {fa : Addr} {e : Expr} {es : List Expr} {fp pos : Pos} {ds : List D} {d : D} {fr : Bool} (G : Good C n) (hn : nsIn C.K mainGlobals f = some (some (.ref fa))) (hk : keepIn C.K (.ref fa) = true) (hF : Fn C fa ds d) (ha : Evs C ρ (e :: es) ds fr)
    (hg : C.env.kindOf f = some .globalImplicit) (hd : (f == ("__debug__" : Str)) = false := by decide) (he : starEach (e :: es) C.env = (false, eval e C.env) :: starEach es C.env := by rfl) (hplain : (backTo pos (starEach es C.env)).any (·.1) = false := by rfl) :
    Ev C ρ (.Call (.Name f fp) (e :: es) [] pos) d true := fun s o =>
  Call_Name (trees := backTo pos (starEach (e :: es) C.env)) rfl (top_name G hn hg hd o (callWith_K (first := []) G.X hk (ha pos s o _ fun vs s₁ k R => by
    have o₁ := o.keeps k
    obtain ⟨m, F⟩ := o₁.fr
    refine ⟨G.X.keeps F.keep, wpAny_call (codeAny_mono (hF vs s₁ ⟨m, F⟩ o₁.tk R.any) fun r s' q => ?_)⟩
    match r, q with
    | .ok (.ret v), q => exact q.later k) he hplain))
end
end Mine
end

section
open PySem PySem.W PyProof.Rows PySem.Calls
set_option Elab.async false
set_option maxRecDepth 100000
set_option linter.unusedVariables false
namespace Mine

theorem ty_type : typeOf (.type "str") = pure (.type "type") := by kernel_rfl
theorem ty_bytes : typeOf (.type "bytes") = pure (.type "type") := by kernel_rfl
theorem sub_str_str : isSubtype (.type "str") (.type "str") = pure true := by rw [isSubtype_type]; kernel_rfl
theorem sub_str_bytes : isSubtype (.type "str") (.type "bytes") = pure false := by rw [isSubtype_type]; kernel_rfl
theorem kind_issub_nested : builtinKind "issubclass.nested" = none := by decide +kernel
theorem plain_issub_nested : plainId "issubclass.nested" = true := by decide +kernel
theorem args_issub_nested_3 (a b c : Value) : argsOk "issubclass.nested" ⟨[a, b, c], []⟩ := by unfold argsOk; kernel_rfl

theorem issub_self (dep : Int) (tk : Tok) : Meets (Builtin.«issubclass.nested» ⟨[.type "str", .type "str", .int dep tk], []⟩) (fun _ R s => R (.ok (.ret (.bool true))) s) :=
  .of_wp fun prog w A R s h => by
    obtain ⟨hp, g, d, t, os⟩ := s
    have h1 := ty_type
    have h2 := sub_str_str
    repeat (any_goals (first | assumption | (rw [h2]) | wp_step))
    exact ⟨_, rfl, h⟩

theorem issub_tup {prog : Program} {w : World} {A : Around} {E : Value → Shared → Prop} {s : Shared} {T : Addr} {tk : Tok} {items : Array Value} {Q : PySem.Fin → Shared → Prop} (hT : s.heap.IsTuple T items) (hi : items.toList = [.type "str", .type "bytes"])
    (hq : Q (.done (.ret (.bool true))) s) : wpAny (model prog w) A (Builtin.«issubclass.nested» ⟨[.type "str", .ref T, .int 0 tk], []⟩) Q E s := by
  obtain ⟨h, g, d, t, os⟩ := s
  obtain ⟨⟨c, dct, dt, sl⟩, hl, hc, n, hd⟩ := hT
  replace hc : c = .type "tuple" := hc
  replace hd : dt = .seq items n := hd
  subst hc hd
  have hT2 : (⟨h, g, d, t, os⟩ : Shared).TypeIs (.ref T) "tuple" := ⟨_, hl, rfl⟩
  have f1 := PySem.F.isi_sub_tuple
  repeat (any_goals (first | assumption | wp_step))
  refine wpAny_arrayLoop ?_
  simp only [Option.getD_some, hi]
  rw [List.forIn_cons]
  refine wpAny_bind (wpAny_bind (call_function_meets kind_issub_nested plain_issub_nested PySem.F.entry_issubclass_nested (args_issub_nested_3 _ _ _) (issub_self _ _) ?_))
  show wpAny _ _ (truthy (.bool true) >>= _) _ _ _
  refine wpAny_bind (m := truthy (.bool true)) (wpAny_pure ?_)
  refine wpAny_bind (wpAny_pure (wpAny_pure (wpAny_pure ?_)))
  simp only [if_true]
  repeat (any_goals (first | assumption | wp_step))

section
variable {C : Cx} {ρ : List (Str × D)} {fr : Bool} {n : Nat}

theorem Ev.builtTy {x : Str} {T : String} {p : Pos} (G : Good C n) (hf : Built C x (.type T)) : Ev C ρ (.Name x p) (.ty T) fr := fun s o =>
  built_name G hf.no hf.bo hf.nn hf.kd hf.db o ⟨.refl s, .ty T⟩

/-- type of a text -/
theorem Ev.typeS {e : Expr} {fp pos : Pos} {x : Str} {f₁ : Bool} (G : Good C n) (hf : Built C "type" (.type "type")) (he : Ev C ρ e (.str x) f₁) (hse : starEach [e] C.env = [(false, eval e C.env)] := by rfl) :
    Ev C ρ (.Call (.Name "type" fp) [e] [] pos) (.ty "str") fr :=
  .callT1 G hf he (fun v s _ R => by
    cases R
    exact call_type_of (typeIs_str _ _ _) (by decide) ⟨keeps_refl s, .ty _⟩) hse

theorem Ev.callB2 {f : Str} {e₁ e₂ : Expr} {fp pos : Pos} {id : String} {a b d : D} {f₁ f₂ : Bool} (G : Good C n) (hf : Built C f (.builtin id)) (h₁ : Ev C ρ e₁ a f₁) (h₂ : Ev C ρ e₂ b f₂)
    (hc : ∀ v u s, Ok C ρ s → Rep s.heap (fun _ => True) v a → Rep s.heap (fun _ => True) u b → wpAny (model C.prog C.w) C.A (call (.builtin id) [v, u]) (Got0 s fr d) bot s)
    (hse : starEach [e₁, e₂] C.env = (false, eval e₁ C.env) :: starEach [e₂] C.env := by rfl) (hse₂ : starEach [e₂] C.env = [(false, eval e₂ C.env)] := by rfl) (hpl : (backTo pos (starEach [e₂] C.env)).any (·.1) = false := by rfl) : Ev C ρ (.Call (.Name f fp) [e₁, e₂] [] pos) d fr := fun s o =>
  Call_Name (trees := backTo pos (starEach [e₁, e₂] C.env)) rfl (built_name G hf.no hf.bo hf.nn hf.kd hf.db o (PyProof.Rows.callWith_builtin1 (args_cons (wpAny_mono (h₁ s o) (fun v s₁ g => args_cons (wpAny_mono (h₂ s₁ (o.keeps g.1)) (fun u s₂ g₂ => args_nil
    (wpAny_mono (up (hc v u s₂ ((o.keeps g.1).keeps g₂.1) (g.any.keeps g₂.1.get) g₂.any)) (fun _ _ q => q.later (g.1.trans g₂.1)) fun _ _ x => x)) fun _ _ x => x) hse₂) fun _ _ x => x) hse) hse hpl))

theorem Ev.isBytes {e₁ e₂ : Expr} {fp pos : Pos} {x : Str} {f₁ f₂ : Bool} (G : Good C n) (hf : Built C "isinstance" (.builtin "isinstance")) (h₁ : Ev C ρ e₁ (.str x) f₁) (h₂ : Ev C ρ e₂ (.ty "bytes") f₂)
    (hse : starEach [e₁, e₂] C.env = (false, eval e₁ C.env) :: starEach [e₂] C.env := by rfl) (hse₂ : starEach [e₂] C.env = [(false, eval e₂ C.env)] := by rfl) (hpl : (backTo pos (starEach [e₂] C.env)).any (·.1) = false := by rfl) :
    Ev C ρ (.Call (.Name "isinstance" fp) [e₁, e₂] [] pos) (.bool false) fr :=
  .callB2 G hf h₁ h₂ (fun v u s _ R₁ R₂ => by
    cases R₁; cases R₂
    exact call_isinstance (isinstance_false_str (by decide) ty_bytes sub_str_bytes) ⟨keeps_tok, .bool _⟩) hse hse₂ hpl
theorem Ev.isSub {e₁ e₂ : Expr} {fp pos : Pos} {f₁ f₂ : Bool} (G : Good C n) (hf : Built C "issubclass" (.builtin "issubclass")) (h₁ : Ev C ρ e₁ (.ty "str") f₁) (h₂ : Ev C ρ e₂ (.tup [.ty "str", .ty "bytes"]) f₂)
    (hse : starEach [e₁, e₂] C.env = (false, eval e₁ C.env) :: starEach [e₂] C.env := by rfl) (hse₂ : starEach [e₂] C.env = [(false, eval e₂ C.env)] := by rfl) (hpl : (backTo pos (starEach [e₂] C.env)).any (·.1) = false := by rfl) :
    Ev C ρ (.Call (.Name "issubclass" fp) [e₁, e₂] [] pos) (.bool true) fr :=
  .callB2 G hf h₁ h₂ (fun v u s _ R₁ R₂ => by
    cases R₁
    cases R₂ with
    | tup _ hl R =>
      cases R with
      | cons R₁ R =>
        cases R with
        | cons R₂ R =>
          cases R; cases R₁; cases R₂
          refine call_issubclass (S := fun _ R s => s.heap.IsTuple _ _ ∧ R (.ok (.ret (.bool true))) s) (fun _ _ _ _ _ hs => issubclass_outer (issub_tup hs.1 (by simp) hs.2)) ⟨hl, keeps_refl s, .bool _⟩) hse hse₂ hpl
end
end Mine
end

section
open PySem PySem.W PyProof.Rows
set_option Elab.async false
set_option maxRecDepth 100000
set_option linter.unusedVariables false
namespace Mine
open AutoSeq1 (wpAny_loadPart')
open MeetsSeq MeetsSeq2 MeetsSeq3 SeqAt

def LtAt (A : Around) (s : Shared) (y x : Value) (b : Bool) : Prop :=
  ∀ (prog : Program) (w : World) (E : Value → Shared → Prop) (Q : Value → Shared → Prop), Q (.bool b) s → wpAny (model prog w) A (richCompare .Lt y x) Q E s

def lexF (e r : Nat → Bool) : Nat → Nat → Bool
  | 0, _ => false
  | k + 1, i => if e i = true then lexF e r k (i + 1) else r i

theorem lt_loopAt (l b : Addr) (items items2 : Array Value) (n n2 : Nat) (dd dd2 : Option Addr) (sl sl2 : Array (Option Value)) (hsz : items.size = items2.size) (e r : Nat → Bool) (k : Nat) :
    ∀ i : Nat, items.size - i = k → Meets (Builtin.«list.__eq__.loop» ⟨[.ref l, .ref b, rawInt i, rawInt 0], []⟩)
      (fun A R s => s.heap.get? l = some { cls := .type "list", dict := dd, data := .seq items n, slots := sl } ∧ s.heap.get? b = some { cls := .type "list", dict := dd2, data := .seq items2 n2, slots := sl2 } ∧
        (∀ j (h1 : j < items.size) (h2 : j < items2.size), EqAt A.in1 s items[j] items2[j] (e j) ∧ (e j = false → LtAt A.in1 s items[j] items2[j] (r j))) ∧
        R (.ok (.ret (.bool (lexF e r k i)))) s) := by
  induction k with
  | zero =>
    intro i hk prog w A R s h
    obtain ⟨hp, g, d, tk, os⟩ := s; obtain ⟨hl, hb, he, h⟩ := h
    wp_walk using wpAny_loadPart' hl, wpAny_loadPart' hb
    have hi1 : items[((i : Nat) : Int).toNat]? = none := by simp; omega
    have hi2 : items2[((i : Nat) : Int).toNat]? = none := by simp; omega
    rw [hi1, hi2]
    wp_walk using wpAny_loadPart' hl, wpAny_loadPart' hb
    show R (.ok (.ret (.bool (decide (items.size < items2.size))))) _
    have e0 : decide (items.size < items2.size) = false := by simp [hsz]
    rw [e0]
    exact h
  | succ k ih =>
    intro i hk prog w A R s h
    obtain ⟨hp, g, d, tk, os⟩ := s; obtain ⟨hl, hb, he, h⟩ := h
    wp_walk using wpAny_loadPart' hl, wpAny_loadPart' hb
    have hlt : i < items.size := by omega
    have hlt2 : i < items2.size := by omega
    have hi1 : items[((i : Nat) : Int).toNat]? = some items[i] := by simp [hlt]
    have hi2 : items2[((i : Nat) : Int).toNat]? = some items2[i] := by simp [hlt2]
    have hc : ((i : Int) + 1) = ((i + 1 : Nat) : Int) := by push_cast; rfl
    rw [hi1, hi2]
    refine wpAny_bind ((he i hlt hlt2).1 prog w _ _ ?_)
    unfold lexF at h
    cases hb' : e i with
    | true =>
      rw [hb', if_pos rfl] at h
      wp_walk
      rw [hc]
      exact ⟨plainId_quiet plain_eq_loop _, codeAny_builtin entry_eq_loop (by
        rw [Around.under_plainId plain_eq_loop _]
        exact ih (i + 1) (by omega) prog w A R _ ⟨hl, hb, he, h⟩)⟩
    | false =>
      rw [hb', if_neg Bool.false_ne_true] at h
      wp_walk using wpAny_loadPart' hl, wpAny_loadPart' hb
      rw [hi1, hi2]
      refine wpAny_bind ((he i hlt hlt2).2 hb' prog w _ _ ?_)
      exact wpAny_pure h

theorem list_ltAt (l b : Addr) (items items2 : Array Value) (n n2 : Nat) (dd dd2 : Option Addr) (sl sl2 : Array (Option Value)) (hsz : items.size = items2.size) (e r : Nat → Bool) :
    Meets (Builtin.«list.__lt__» ⟨[.ref l, .ref b], []⟩)
      (fun A R s => s.heap.get? l = some { cls := .type "list", dict := dd, data := .seq items n, slots := sl } ∧ s.heap.get? b = some { cls := .type "list", dict := dd2, data := .seq items2 n2, slots := sl2 } ∧
        (∀ j (h1 : j < items.size) (h2 : j < items2.size), EqAt A.in1 s items[j] items2[j] (e j) ∧ (e j = false → LtAt A.in1 s items[j] items2[j] (r j))) ∧
        R (.ok (.ret (.bool (lexF e r items.size 0)))) s) := by
  intro prog w A R s h
  obtain ⟨hp, g, d, tk, os⟩ := s; obtain ⟨hl, hb, he, h⟩ := h
  have f3 := AutoSeq1.sub_list_list
  wp_walk using wpAny_loadPart' hl, wpAny_loadPart' hb
  exact ⟨plainId_quiet plain_eq_loop _, codeAny_builtin entry_eq_loop (by
    rw [Around.under_plainId plain_eq_loop _]
    exact lt_loopAt l b items items2 n n2 dd dd2 sl sl2 hsz e r _ 0 rfl prog w A R _ ⟨hl, hb, he, by simpa using h⟩)⟩

theorem lt_lists {prog : Program} {w : World} {A : Around} {E : Value → Shared → Prop} {s : Shared} {l b : Addr} {items items2 : Array Value} {e r : Nat → Bool} {Q : Value → Shared → Prop} (hl : s.heap.IsList l items) (hb : s.heap.IsList b items2) (hsz : items.size = items2.size) (hu : A.units < cLine)
    (he : ∀ j (h1 : j < items.size) (h2 : j < items2.size), EqAt A.in1 s items[j] items2[j] (e j) ∧ (e j = false → LtAt A.in1 s items[j] items2[j] (r j))) (h : Q (.bool (lexF e r items.size 0)) s) : wpAny (model prog w) A (richCompare .Lt (.ref l) (.ref b)) Q E s := by
  obtain ⟨⟨cls, dd, data, sl⟩, ho, hc, n, hd⟩ := id hl
  obtain ⟨⟨cls2, dd2, data2, sl2⟩, ho2, hc2, n2, hd2⟩ := id hb
  simp only at hc hd hc2 hd2
  subst hc hd hc2 hd2
  exact richCompare_meets_room (op := .Lt) ⟨_, ho, rfl⟩ ⟨_, ho2, rfl⟩ PySem.F.slot_list_lt PySem.F.entry_list_lt (PySem.F.args_list_lt_2 _ _) (list_ltAt l b items items2 n n2 dd dd2 sl sl2 hsz e r)
    ⟨ho, ho2, he, show Value.bool (lexF e r items.size 0) ≠ Value.notImplemented ∧ Q (.bool (lexF e r items.size 0)) s from ⟨(fun x => nomatch x), h⟩⟩ hu

/-! the same of data: lists of ints and texts -/
def sameKind : D → D → Bool
  | .int _, .int _ => true
  | .str _, .str _ => true
  | _, _ => false
def eqD : D → D → Bool
  | .int a, .int b => a == b
  | .str a, .str b => a == b
  | _, _ => false
def ltD : D → D → Bool
  | .int a, .int b => decide (a < b)
  | .str a, .str b => decide (a.cps.toList < b.cps.toList)
  | _, _ => false
def lexD : List D → List D → Bool
  | a :: as, b :: bs => if eqD a b = true then lexD as bs else ltD a b
  | _, _ => false
def kinds : List D → List D → Bool
  | [], [] => true
  | a :: as, b :: bs => sameKind a b && kinds as bs
  | _, _ => false

theorem atD {h ok ok'} {A : Around} {s : Shared} {v u : Value} {a b : D} (hk : sameKind a b = true) (x : Rep h ok v a) (y : Rep h ok' u b) : EqAt A s v u (eqD a b) ∧ LtAt A s v u (ltD a b) := by
  cases x <;> cases y <;> simp only [sameKind, Bool.false_eq_true] at hk
  · exact ⟨SeqAt.EqAt.int_int _ _ _ _, fun prog w E Q h => lt_int h⟩
  · exact ⟨SeqAt.EqAt.str_str _ _ _ _, fun prog w E Q h => lt_str h⟩

theorem kinds_get : ∀ {as bs : List D}, kinds as bs = true → ∀ {j : Nat} {a b : D}, as[j]? = some a → bs[j]? = some b → sameKind a b = true
  | [], [], _, j, a, b, h, _ => by simp at h
  | x :: as, y :: bs, hk, 0, a, b, h1, h2 => by
    simp at h1 h2; subst h1 h2
    exact (Bool.and_eq_true_iff.mp hk).1
  | x :: as, y :: bs, hk, j + 1, a, b, h1, h2 => kinds_get (Bool.and_eq_true_iff.mp hk).2 (by simpa using h1) (by simpa using h2)
theorem kinds_len : ∀ {as bs : List D}, kinds as bs = true → as.length = bs.length
  | [], [], _ => rfl
  | x :: as, y :: bs, hk => by rw [List.length_cons, List.length_cons, kinds_len (Bool.and_eq_true_iff.mp hk).2]
theorem lexF_D : ∀ (as bs : List D) (i : Nat) (e r : Nat → Bool), as.length = bs.length → (∀ j a b, as[j]? = some a → bs[j]? = some b → e (i + j) = eqD a b ∧ r (i + j) = ltD a b) → lexF e r as.length i = lexD as bs
  | [], [], _, _, _, _, _ => rfl
  | a :: as, b :: bs, i, e, r, hl, H => by
    have h0 := H 0 a b rfl rfl
    rw [Nat.add_zero] at h0
    show (if e i = true then lexF e r as.length (i + 1) else r i) = if eqD a b = true then lexD as bs else ltD a b
    rw [h0.1, h0.2, lexF_D as bs (i + 1) e r (by simpa using hl) fun j x y h1 h2 => by
      have := H (j + 1) x y (by simpa using h1) (by simpa using h2)
      rwa [show i + (j + 1) = i + 1 + j by omega] at this]

theorem lt_data {prog : Program} {w : World} {A : Around} {E : Value → Shared → Prop} {s : Shared} {v u : Value} {as bs : List D} {ok ok' : Addr → Prop} {Q : Value → Shared → Prop} (hu : A.units < cLine) (hk : kinds as bs = true) (x : Rep s.heap ok v (.list as)) (y : Rep s.heap ok' u (.list bs))
    (h : Q (.bool (lexD as bs)) s) : wpAny (model prog w) A (richCompare .Lt v u) Q E s := by
  cases x with
  | list oa hl R =>
    rename_i vs
    cases y with
    | list oa' hl' R' =>
      rename_i us
      have e1 := R.length
      have e2 := R'.length
      have e3 := kinds_len hk
      have val : lexF (fun j => eqD (as.getD j .none) (bs.getD j .none)) (fun j => ltD (as.getD j .none) (bs.getD j .none)) (vs.toArray).size 0 = lexD as bs := by
        rw [List.size_toArray, e1]
        refine lexF_D as bs 0 _ _ e3 fun j a b h1 h2 => ?_
        simp [List.getD, h1, h2]
      refine lt_lists (e := fun j => eqD (as.getD j .none) (bs.getD j .none)) (r := fun j => ltD (as.getD j .none) (bs.getD j .none)) hl.isList hl'.isList (by simp [e1, e2, e3]) hu (fun j h1 h2 => ?_) (val.symm ▸ h)
      obtain ⟨a, ha, Ra⟩ := R.get (i := j) (v := vs.toArray[j]) (by simp)
      obtain ⟨b, hb, Rb⟩ := R'.get (i := j) (v := us.toArray[j]) (by simp)
      have := atD (A := A.in1) (s := s) (kinds_get hk ha hb) Ra Rb
      simp only [List.getD, ha, hb, Option.getD_some]
      exact ⟨this.1, fun _ => this.2⟩
end Mine
end

section
open PySem PySem.W PyProof.Rows
set_option Elab.async false
set_option maxRecDepth 100000
set_option linter.unusedVariables false
namespace Mine

/-! min along values whose order is read off the heap -/
section
variable {prog : Program} {w : World} {A : Around} {R : Result → Shared → Prop} {I : Addr} {fp wr : List Addr} {n : Nat} {P : Nat → Value → Prop} {St : Nat → Heap → Prop}

def CmpOn (prog : Program) (w : World) (A : Around) (hb : Heap) (P : Nat → Value → Prop) (bt : Nat → Nat → Bool) : Prop :=
  ∀ i j vi vj (s : Shared) (Q : Value → Shared → Prop) (E : Value → Shared → Prop), (∀ b o, hb.get? b = some o → s.heap.get? b = some o) → P i vi → P j vj → Q (.bool (bt i j)) s → wpAny (model prog w) A (richCompare .Lt vi vj) Q E s

theorem min_loop {hb : Heap} (W : Walks prog w A.in1 I fp wr n P St) (bt : Nat → Nat → Bool) (hcmp : CmpOn prog w A.in1 hb P bt) (S : Addr) (hSf : S ∉ fp) (hS0 : hb.get? S = none) (hw0 : ∀ b ∈ wr, hb.get? b = none) :
    ∀ (k j : Nat) (s : Shared) (vb : Value) (c : Nat), n - (j + 1) = k → j + 1 ≤ n → St (j + 1) s.heap → P (argBest bt j) vb → (∀ b o, hb.get? b = some o → s.heap.get? b = some o) →
    s.heap.get? S = some { cls := .type "list", dict := none, data := .seq #[vb, vb] c, slots := #[] } →
    (∀ v h' tk, P (argBest bt (n - 1)) v → (∀ b o, b ∉ wr → b ≠ S → s.heap.get? b = some o → h'.get? b = some o) → R (.ok (.ret v)) { s with heap := h', toks := tk }) →
    codeAny (model prog w) A (.builtin "min.loop" ⟨[.ref I, .none, .ref S], []⟩) R s := by
  have hSw : S ∉ wr := fun h => hSf (W.sub _ h)
  have hname : (toString "min" ++ toString ".loop" : String) = "min.loop" := by decide
  intro k
  induction k with
  | zero =>
    intro j s vb c hk hj hst hPb hK hS hR
    have hin : j + 1 = n := by omega
    refine codeAny_builtin PySem.F.entry_min_loop ?_
    rw [Around.under_plainId PySem.F.plain_min_loop _]
    show wpAny _ A.in1 (seqItems? (.ref S) >>= _) _ _ s
    refine wpAny_bind (wpAny_seqItems hS rfl ?_)
    show wpAny _ A.in1 (tryCatch (pyNext (.ref I)) _ >>= _) _ _ s
    refine wpAny_bind (wpAny_tryCatch (W.done s _ _ (hin ▸ hst) fun h' tk hk' => ?_))
    have hS' := hk' S _ hSw hS
    show wpAny _ A.in1 (updateSeq S (fun _ => #[]) >>= _) _ _ _
    refine wpAny_bind ?_
    refine wpAny_updateSeq hS' rfl (wpAny_bind (wpAny_letGo (wpAny_pure ?_)))
    refine hR vb _ tk (by rw [← hin]; exact hPb) fun b o hbw hbS e => (Heap.get?_update_other _ _ (Ne.symm hbS)).trans (hk' b o hbw e)
  | succ k ih =>
    intro j s vb c hk hj hst hPb hK hS hR
    have hlt : j + 1 < n := by omega
    refine codeAny_builtin PySem.F.entry_min_loop ?_
    rw [Around.under_plainId PySem.F.plain_min_loop _]
    show wpAny _ A.in1 (seqItems? (.ref S) >>= _) _ _ s
    refine wpAny_bind (wpAny_seqItems hS rfl ?_)
    show wpAny _ A.in1 (tryCatch (pyNext (.ref I)) _ >>= _) _ _ s
    refine wpAny_bind (wpAny_tryCatch (W.item (j + 1) s _ _ hlt hst fun v h' tk hP hst' hk' => ?_))
    have hS' := hk' S _ hSw hS
    have hK' : ∀ b o, hb.get? b = some o → h'.get? b = some o := fun b o e => hk' b o (fun hm => by rw [hw0 b hm] at e; cases e) (hK b o e)
    show wpAny _ A.in1 (tryCatch (holding [v, v] (richCompare .Lt v vb >>= _)) _ >>= _) _ _ _
    refine wpAny_bind (wpAny_tryCatch (wpAny_holding (wpAny_bind (hcmp (j + 1) (argBest bt j) v vb _ _ _ hK' hP hPb ?_))))
    refine wpAny_bind (wpAny_holding (wpAny_truthy_bool ?_))
    refine wpAny_bind (wpAny_letGo (wpAny_pure ?_))
    cases hbt : bt (j + 1) (argBest bt j) with
    | true =>
      simp only [if_true]
      refine wpAny_bind ?_
      refine wpAny_updateSeq hS' rfl (wpAny_bind (wpAny_letGo ?_))
      rw [hname]
      refine wpAny_pure ⟨plainId_quiet PySem.F.plain_min_loop _, ih (j + 1) _ v _ (by omega) hlt (W.frame _ _ _ hst' fun b hbf o e => ?_) (by simp only [argBest, hbt, if_true]; exact hP) (fun b o e => ?_) (Heap.get?_update_self _ hS' rfl)
        fun v' h'' tk'' hP' hk'' => ?_⟩
      · exact (Heap.get?_update_other _ _ (fun h : S = b => hSf (by rw [h]; exact hbf))).trans e
      · exact (Heap.get?_update_other _ _ (fun h : S = b => by rw [h, e] at hS0; cases hS0)).trans (hK' b o e)
      · exact hR v' h'' tk'' hP' fun b o hbw hbS e => hk'' b o hbw hbS ((Heap.get?_update_other _ _ (Ne.symm hbS)).trans (hk' b o hbw e))
    | false =>
      simp only [Bool.false_eq_true, if_false]
      refine wpAny_bind (wpAny_letGo ?_)
      rw [hname]
      refine wpAny_pure ⟨plainId_quiet PySem.F.plain_min_loop _, ih (j + 1) _ vb c (by omega) hlt hst' (by simp only [argBest, hbt, Bool.false_eq_true, if_false]; exact hPb) hK' hS' fun v' h'' tk'' hP' hk'' => ?_⟩
      exact hR v' h'' tk'' hP' fun b o hbw hbS e => hk'' b o hbw hbS (hk' b o hbw e)

theorem min_loop_first {hb : Heap} (W : Walks prog w A.in1 I fp wr n P St) (bt : Nat → Nat → Bool) (hcmp : CmpOn prog w A.in1 hb P bt) (S : Addr) (hSf : S ∉ fp) (hS0 : hb.get? S = none) (hw0 : ∀ b ∈ wr, hb.get? b = none) (hn : 0 < n) {s : Shared} {c : Nat} (hst : St 0 s.heap) (hK : ∀ b o, hb.get? b = some o → s.heap.get? b = some o)
    (hS : s.heap.get? S = some { cls := .type "list", dict := none, data := .seq #[] c, slots := #[] })
    (hR : ∀ v h' tk, P (argBest bt (n - 1)) v → (∀ b o, b ∉ wr → b ≠ S → s.heap.get? b = some o → h'.get? b = some o) → R (.ok (.ret v)) { s with heap := h', toks := tk }) :
    codeAny (model prog w) A (.builtin "min.loop" ⟨[.ref I, .none, .ref S], []⟩) R s := by
  have hSw : S ∉ wr := fun h => hSf (W.sub _ h)
  have hname : (toString "min" ++ toString ".loop" : String) = "min.loop" := by decide
  refine codeAny_builtin PySem.F.entry_min_loop ?_
  rw [Around.under_plainId PySem.F.plain_min_loop _]
  show wpAny _ A.in1 (seqItems? (.ref S) >>= _) _ _ s
  refine wpAny_bind (wpAny_seqItems hS rfl ?_)
  show wpAny _ A.in1 (tryCatch (pyNext (.ref I)) _ >>= _) _ _ s
  refine wpAny_bind (wpAny_tryCatch (W.item 0 s _ _ hn hst fun v h' tk hP hst' hk' => ?_))
  have hS' := hk' S _ hSw hS
  show wpAny _ A.in1 (updateSeq S (fun _ => #[v, v]) >>= _) _ _ _
  refine wpAny_bind ?_
  refine wpAny_updateSeq hS' rfl ?_
  rw [hname]
  refine wpAny_pure ⟨plainId_quiet PySem.F.plain_min_loop _, min_loop W bt hcmp S hSf hS0 hw0 _ 0 _ v _ rfl hn (W.frame _ _ _ hst' fun b hbf o e => ?_) hP (fun b o e => ?_) (Heap.get?_update_self _ hS' rfl) fun v' h'' tk'' hP' hk'' => ?_⟩
  · exact (Heap.get?_update_other _ _ (fun h : S = b => hSf (by rw [h]; exact hbf))).trans e
  · exact (Heap.get?_update_other _ _ (fun h : S = b => by rw [h, e] at hS0; cases hS0)).trans (hk' b o (fun hm => by rw [hw0 b hm] at e; cases e) (hK b o e))
  · exact hR v' h'' tk'' hP' fun b o hbw hbS e => hk'' b o hbw hbS ((Heap.get?_update_other _ _ (Ne.symm hbS)).trans (hk' b o hbw e))
end

theorem min_list {prog : Program} {w : World} {A : Around} {E : Value → Shared → Prop} {s : Shared} {l : Addr} {vs : List Value} {bt : Nat → Nat → Bool} {Q : Value → Shared → Prop} (hh : A.handled = none) (hl : s.heap.IsList l vs.toArray) (hn : 0 < vs.length)
    (hcmp : CmpOn prog w A.in1 s.heap (fun i v => vs[i]? = some v) bt)
    (hQ : ∀ v h' tk, vs[argBest bt (vs.length - 1)]? = some v → (∀ b o, s.heap.get? b = some o → h'.get? b = some o) → Q v { s with heap := h', toks := tk }) :
    wpAny (model prog w) A (PySem.call (.builtin "min") [.ref l]) Q E s := by
  have hname : (toString "min" ++ toString ".loop" : String) = "min.loop" := by decide
  refine call_function_tree PySem.F.kind_min PySem.F.plain_min PySem.F.entry_min (PySem.F.args_min1 _) ?_
  show wpAny _ A.in1 (Builtin.Builtins.bindParams "min" ["key", "default"] 0 ⟨[], []⟩ >>= _) _ _ s
  refine wpAny_bind (wpAny_of_eq (show Builtin.Builtins.bindParams "min" ["key", "default"] 0 ⟨[], []⟩ = pure [none, none] from rfl) ?_)
  refine wpAny_bind (wpAny_pure ?_)
  have hlt : l < s.heap.objs.size := by obtain ⟨_, e, _⟩ := hl; exact Heap.lt_size e
  refine wpAny_bind (wpAny_pyIter_list hl ?_)
  have W := Walks.list (prog := prog) (w := w) (A := A.in1) hh s.heap.objs.size l (Nat.ne_of_lt hlt) vs.toArray
  refine wpAny_bind (wpAny_newObj_type ?_)
  rw [hname]
  generalize hH : s.heap.push { cls := .type "list_iterator", data := .fields #[.ref l, .int 0 0] } = H
  have hHs : H.objs.size = s.heap.objs.size + 1 := by rw [← hH, Heap.size_push]
  have up : ∀ b o, s.heap.get? b = some o → H.get? b = some o := fun b o e => by rw [← hH]; exact Heap.get?_push_of_some _ e
  refine wpAny_pure ⟨plainId_quiet PySem.F.plain_min_loop _, min_loop_first (hb := s.heap) W bt ?_ H.objs.size ?_ ?_ ?_ (by simpa using hn) ?_ (fun b o e => Heap.get?_push_of_some _ (up b o e)) (Heap.get?_push_size _ rfl) fun v h' tk hP hk => ?_⟩
  · intro i j vi vj s' Q' E' k a b h
    exact hcmp i j vi vj s' Q' E' k (by simpa using a) (by simpa using b) h
  · intro hm
    rcases List.mem_cons.mp hm with q | q
    · rw [hHs] at q; exact Nat.succ_ne_self _ q
    · rw [List.mem_singleton.mp q] at hHs; exact absurd hlt (by rw [hHs]; exact Nat.not_lt_of_le (Nat.le_succ _))
  · exact Heap.get?_none_of_le (by rw [hHs]; exact Nat.le_succ _)
  · intro b hb
    rw [List.mem_singleton.mp hb]
    exact Heap.get?_none_of_le (Nat.le_refl _)
  · exact ⟨⟨_, Heap.get?_push_of_some _ (by rw [← hH]; exact Heap.get?_push_size _ rfl), rfl, rfl⟩, (hl.at fun o e => up _ o e).at fun o e => Heap.get?_push_of_some _ e⟩
  · have hP' : vs[argBest bt (vs.length - 1)]? = some v := by simpa using hP
    refine hQ v h' tk hP' fun b o e => hk b o (fun hm => ?_) (fun q => ?_) (Heap.get?_push_of_some _ (up b o e))
    · have := Heap.lt_size e
      rw [List.mem_singleton.mp hm] at this
      exact Nat.lt_irrefl _ this
    · have := Heap.lt_size e
      rw [q, hHs] at this
      exact absurd this (Nat.not_lt_of_le (Nat.le_succ _))

section
variable {C : Cx} {ρ : List (Str × D)} {fr : Bool} {n : Nat}

def ltLL : D → D → Bool
  | .list a, .list b => lexD a b
  | _, _ => false
def bestD (ds : List D) : Nat := argBest (fun i j => ltLL (ds.getD i .none) (ds.getD j .none)) (ds.length - 1)

/-- min of a list of lists -/
theorem Ev.minL {e : Expr} {fp pos : Pos} {ds : List D} {d : D} {f₁ : Bool} (G : Good C n) (hf : Built C "min" (.builtin "min")) (he : Ev C ρ e (.list ds) f₁) (hn : 0 < ds.length)
    (hk : ∀ (i j : Nat) (a b : D), ds[i]? = some a → ds[j]? = some b → ∃ as bs, a = .list as ∧ b = .list bs ∧ kinds as bs = true) (hd : ds[bestD ds]? = some d) (hse : starEach [e] C.env = [(false, eval e C.env)] := by rfl) :
    Ev C ρ (.Call (.Name "min" fp) [e] [] pos) d false :=
  .callB1 G hf he (fun v s _ R => by
    cases R with
    | list oa hl R =>
      rename_i a vs
      have e1 := R.length
      refine min_list (bt := fun i j => ltLL (ds.getD i .none) (ds.getD j .none)) G.hh hl.isList (by omega) ?_ fun v h' tk hv k => ?_
      · intro i j vi vj s' Q E k hi hj h
        obtain ⟨x, hx, Rx⟩ := R.get hi
        obtain ⟨y, hy, Ry⟩ := R.get hj
        obtain ⟨as, bs, rfl, rfl, hks⟩ := hk i j x y hx hy
        have ux : ds.getD i D.none = D.list as := by simp [List.getD, hx]
        have uy : ds.getD j D.none = D.list bs := by simp [List.getD, hy]
        dsimp only at h
        rw [ux, uy] at h
        exact lt_data (by have := G.units; show C.A.units + 1 < cLine; omega) hks (Rx.keeps k) (Ry.keeps k) h
      · rw [e1] at hv
        obtain ⟨d', hd', R'⟩ := R.get hv
        have : ds[bestD ds]? = some d' := hd'
        rw [hd] at this
        cases this
        exact ⟨keeps_of k, R'.mono (fun b o _ e => k b o e) fun _ _ _ _ q => by cases q⟩) hse

/-- sum of a list of ints -/
theorem Ev.sumI {e : Expr} {fp pos : Pos} {ns : List Int} {f₁ : Bool} (G : Good C n) (hf : Built C "sum" (.builtin "sum")) (he : Ev C ρ e (.list (dI ns)) f₁) (hse : starEach [e] C.env = [(false, eval e C.env)] := by rfl) :
    Ev C ρ (.Call (.Name "sum" fp) [e] [] pos) (.int (preSum (fun i => ns.getD i 0) ns.length)) fr :=
  .callB1 G hf he (fun v s _ R => by
    cases R with
    | list oa hl R =>
      rename_i l vs
      have e1 : vs.length = ns.length := by have := R.length; simpa using this
      have hl' := hl.isList
      have hlt : l < s.heap.objs.size := by obtain ⟨_, e⟩ := hl; exact Heap.lt_size e
      refine call_sum_walkG (wpAny_pyIter_list hl' ⟨s.heap.objs.size, _, _, _, _, _, fun i => ns.getD i 0, rfl, Walks.list (A := C.A.in1) G.hh s.heap.objs.size l (Nat.ne_of_lt hlt) vs.toArray,
        ⟨⟨_, Heap.get?_push_size _ rfl, rfl, rfl⟩, hl'.at fun o e => Heap.get?_push_of_some _ e⟩, fun b hb => ?_, fun i v hv => ?_, fun h' tk t' k => ?_⟩)
      · show b < (s.heap.push _).objs.size
        rw [Heap.size_push]
        rcases List.mem_cons.mp hb with rfl | hb
        · exact Nat.lt_succ_self _
        · rw [List.mem_singleton.mp hb]; exact Nat.lt_succ_of_lt hlt
      · obtain ⟨d, hd, R'⟩ := R.get (i := i) (v := v) (by simpa using hv)
        simp only [dI, List.getElem?_map, Option.map_eq_some_iff] at hd
        obtain ⟨m, hm, rfl⟩ := hd
        cases R'
        rename_i t
        exact ⟨t, by simp [List.getD, hm]⟩
      · have e2 : vs.toArray.size = ns.length := by simpa using e1
        rw [e2]
        refine ⟨keeps_of fun b o e => k b o (fun hm => ?_) (Heap.get?_push_of_some _ e), .int _ _⟩
        have := Heap.lt_size e
        rw [List.mem_singleton.mp hm] at this
        exact Nat.lt_irrefl _ this) hse

/-- list(range(m)) -/
theorem Ev.listRange {e : Expr} {fp fp₂ p₂ pos : Pos} {m : Nat} {f₁ : Bool} (G : Good C n) (hf : Built C "list" (.type "list")) (hf₂ : Built C "range" (.type "range")) (he : Ev C ρ e (.int m) f₁) (hm : m ≤ 16777216)
    (hse : starEach [e] C.env = [(false, eval e C.env)] := by rfl) (hse₂ : starEach [.Call (.Name "range" fp₂) [e] [] p₂] C.env = [(false, eval (.Call (.Name "range" fp₂) [e] [] p₂) C.env)] := by rfl) :
    Ev C ρ (.Call (.Name "list" fp) [.Call (.Name "range" fp₂) [e] [] p₂] [] pos) (.list (dI (Mine.upto m))) true := fun s o =>
  Call_Name (trees := backTo pos (starEach [.Call (.Name "range" fp₂) [e] [] p₂] C.env)) rfl (built_name G hf.no hf.bo hf.nn hf.kd hf.db o (PyProof.Rows.callWith_type1 (args_cons
    (Call_Name (trees := backTo p₂ (starEach [e] C.env)) rfl (built_name G hf₂.no hf₂.bo hf₂.nn hf₂.kd hf₂.db o (PyProof.Rows.callWith_type1 (args_cons (wpAny_mono (he s o) (fun v s₁ g => args_nil (by
    have x := g.2
    have k := g.1
    cases x
    rename_i t
    obtain ⟨mm, F⟩ := (o.keeps k).fr
    refine wpAny_mono (wpAny_toks_of (Nat.le_refl _) (range_at (o := fun _ => True) (E := bot) F (Q := fun v s₂ => ∃ h' tk t₁ u₁ v₁, s₂ = { s₁ with heap := h', toks := tk } ∧ v = .ref s₁.heap.objs.size ∧ IsRange h' s₁.heap.objs.size 0 m 1 t₁ u₁ v₁ ∧ (∀ b o, s₁.heap.get? b = some o → h'.get? b = some o)) (fun h' tk t₁ u₁ v₁ hr k => ⟨h', tk, t₁, u₁, v₁, rfl, rfl, hr, k⟩))) (fun v s₂ q => ?_) fun _ _ x => x.2
    obtain ⟨htk, h', tk, t₁, u₁, v₁, rfl, rfl, hr, hk⟩ := q
    have k2 : Kp s₁ { s₁ with heap := h', toks := tk } := ⟨keeps_of hk, htk⟩
    have hsm : Builtin.Range.small 0 m 1 = true := small_one (by omega) (by omega) (by omega) (by omega)
    refine args_nil (wpAny_mono (wpAny_toks_of (Nat.le_refl _) (call_list_range (E := bot) (n := m) (Q := fun v s'' => PySem.Keeps { s₁ with heap := h', toks := tk } s'' ∧ Rep s''.heap (okF true s) v (.list (dI (Mine.upto m)))) G.hh hr hsm (range_size m) (by omega) fun h'' tk'' acc' c' hk'' hS' hacc => ⟨keeps_of hk'', ?_⟩)) (fun _ _ q => ⟨(k.trans k2).trans ⟨q.2.1, q.1⟩, q.2.2⟩) fun _ _ q => q.2)
    have key : ∀ (l : List Value) (i m : Nat), l.length = m → (∀ (j : Nat) (v : Value), l[j]? = some v → ∃ t, v = Value.int ((i + j : Nat) : Int) t) → Reps h'' (okF true s) l (dI ((List.range' i m).map fun (i : Nat) => (i : Int))) := by
      intro l
      induction l with
      | nil => intro i m hl _; cases hl; exact .nil
      | cons v l ih =>
        intro i m hl H
        cases m with
        | zero => cases hl
        | succ m =>
          obtain ⟨t, rfl⟩ := H 0 v rfl
          refine .cons (.int _ _) (ih (i + 1) m (by simpa using hl) fun j v hv => ?_)
          obtain ⟨t, rfl⟩ := H (j + 1) v (by simpa using hv)
          exact ⟨t, by rw [show i + (j + 1) = i + 1 + j by omega]⟩
    have hS'' : h''.PlainList h'.objs.size (List.toArray acc'.toList) := ⟨c', by simpa using hS'⟩
    refine .list (fun _ => (k.trans k2).none (fresh_new _)) hS'' ?_
    rw [Mine.upto, List.range_eq_range']
    refine key acc'.toList 0 m (by simpa using hacc.1) fun j v hv => ?_
    obtain ⟨t, e⟩ := hacc.2 j v (by simpa using hv)
    exact ⟨t, by rw [e, show (0 : Int) + (j : Int) * 1 = ((0 + j : Nat) : Int) by omega]⟩)) fun _ _ x => x) hse) hse rfl))) hse₂) hse₂ rfl))
end
end Mine
end

section
open PySem PySem.W PyProof.Rows
set_option Elab.async false
set_option linter.unusedVariables false
namespace Mine

/-! the machine's sort, its questions answered by an order -/
def kasRun (lt : Nat → Nat → Bool) {α : Type} : KasT α → α
  | .ret a => a
  | .ask i j k => kasRun lt (k (lt i j))
theorem kasRun_bind (lt : Nat → Nat → Bool) {α β : Type} (f : α → KasT β) : ∀ t : KasT α, kasRun lt (t.bind f) = kasRun lt (f (kasRun lt t))
  | .ret _ => rfl
  | .ask i j k => kasRun_bind lt f (k (lt i j))

structure Ord (lt : Nat → Nat → Bool) (n : Nat) : Prop where
  tr : ∀ a b c, a < n → b < n → c < n → lt a b = true → lt b c = true → lt a c = true
  tot : ∀ a b, a < n → b < n → a ≠ b → lt a b = false → lt b a = true
  ir : ∀ a b, a < n → b < n → lt a b = true → lt b a = false

def at' (p : Array Nat) (i : Nat) : Nat := p.getD i 0
theorem at_eq (p : Array Nat) (i : Nat) : at' p i = (p[i]?).getD 0 := by
  unfold at'
  by_cases h : i < p.size <;> simp [Array.getD, h]

structure PermN (n : Nat) (p : Array Nat) : Prop where
  size : p.size = n
  lt : ∀ i, i < n → at' p i < n
  inj : ∀ i j, i < n → j < n → at' p i = at' p j → i = j

def Asc (lt : Nat → Nat → Bool) (p : Array Nat) (k : Nat) : Prop := ∀ i j, i < j → j < k → lt (at' p i) (at' p j) = true
def Des (lt : Nat → Nat → Bool) (p : Array Nat) (k : Nat) : Prop := ∀ i j, i < j → j < k → lt (at' p j) (at' p i) = true

section
variable {lt : Nat → Nat → Bool} {n : Nat} (O : Ord lt n) {p : Array Nat}
include O

theorem asc_step (P : PermN n p) {k : Nat} (h1 : 1 ≤ k) (hk : k < n) (A : Asc lt p k) (h : lt (at' p k) (at' p (k - 1)) = false) : Asc lt p (k + 1) := by
  have base : lt (at' p (k - 1)) (at' p k) = true := O.tot _ _ (P.lt _ hk) (P.lt _ (by omega)) (fun e => by have := P.inj _ _ hk (by omega) e; omega) h
  intro i j hij hj
  by_cases hjk : j = k
  · subst hjk
    by_cases hi : i = j - 1
    · rw [hi]; exact base
    · exact O.tr _ _ _ (P.lt _ (by omega)) (P.lt _ (by omega)) (P.lt _ hk) (A i (j - 1) (by omega) (by omega)) base
  · exact A i j hij (by omega)
theorem des_step (P : PermN n p) {k : Nat} (h1 : 1 ≤ k) (hk : k < n) (A : Des lt p k) (h : lt (at' p k) (at' p (k - 1)) = true) : Des lt p (k + 1) := by
  intro i j hij hj
  by_cases hjk : j = k
  · subst hjk
    by_cases hi : i = j - 1
    · rw [hi]; exact h
    · exact O.tr _ _ _ (P.lt _ hk) (P.lt _ (by omega)) (P.lt _ (by omega)) h (A i (j - 1) (by omega) (by omega))
  · exact A i j hij (by omega)

theorem run_asc (P : PermN n p) : ∀ (f m : Nat), 1 ≤ m → m + f ≤ n → Asc lt p m → m ≤ kasRun lt (kas_asc p f m) ∧ kasRun lt (kas_asc p f m) ≤ m + f ∧ Asc lt p (kasRun lt (kas_asc p f m))
  | 0, m, h1, hn, A => ⟨Nat.le_refl _, Nat.le_refl _, A⟩
  | f + 1, m, h1, hn, A => by
    show m ≤ kasRun lt (if lt (at' p m) (at' p (m - 1)) = true then KasT.ret m else kas_asc p f (m + 1)) ∧ kasRun lt (if lt (at' p m) (at' p (m - 1)) = true then KasT.ret m else kas_asc p f (m + 1)) ≤ m + (f + 1) ∧ Asc lt p (kasRun lt (if lt (at' p m) (at' p (m - 1)) = true then KasT.ret m else kas_asc p f (m + 1)))
    cases h : lt (at' p m) (at' p (m - 1)) with
    | true => exact ⟨Nat.le_refl _, Nat.le_add_right _ _, A⟩
    | false =>
      have := run_asc P f (m + 1) (by omega) (by omega) (asc_step O P h1 (by omega) A h)
      simp only [Bool.false_eq_true, if_false]
      exact ⟨by omega, by omega, this.2.2⟩

theorem run_des (P : PermN n p) : ∀ (f m : Nat), 1 ≤ m → m + f ≤ n → Des lt p m → ∃ m', kasRun lt (kas_desc f p m 0) = (p, m', 0) ∧ m ≤ m' ∧ m' ≤ m + f ∧ Des lt p m'
  | 0, m, h1, hn, A => ⟨m, rfl, Nat.le_refl _, Nat.le_refl _, A⟩
  | f + 1, m, h1, hn, A => by
    have e : kasRun lt (kas_desc (f + 1) p m 0) = kasRun lt (if lt (at' p m) (at' p (m - 1)) = true then (if 0 > 0 then kas_desc f (kas_rev p (m - (0 + 1)) m) (m + 1) 0 else kas_desc f p (m + 1) 0) else .ask (at' p (m - 1)) (at' p m) fun d => if d = true then .ret (p, m, 0) else kas_desc f p (m + 1) (0 + 1)) := rfl
    rw [e]
    cases h : lt (at' p m) (at' p (m - 1)) with
    | true =>
      obtain ⟨m', e', a, b, c⟩ := run_des P f (m + 1) (by omega) (by omega) (des_step O P h1 (by omega) A h)
      refine ⟨m', ?_, by omega, by omega, c⟩
      simpa using e'
    | false =>
      have t : lt (at' p (m - 1)) (at' p m) = true := O.tot _ _ (P.lt _ (by omega)) (P.lt _ (by omega)) (fun e => by have := P.inj _ _ (by omega) (by omega) e; omega) h
      refine ⟨m, ?_, Nat.le_refl _, by omega, A⟩
      simp only [Bool.false_eq_true, if_false, kasRun, t, if_true]
omit O in
theorem rev_at (P : PermN n p) {m : Nat} (hm : m ≤ n) (k : Nat) : at' (kas_rev p 0 m) k = if k < m then at' p (m - 1 - k) else at' p k := by
  have := getElem?_mirror_all (i := 0) (j := m) (xs := p) (by rw [P.size]; exact hm) k
  rw [at_eq, kas_rev, this]
  by_cases h : k < m
  · rw [if_pos ⟨Nat.zero_le _, h⟩, if_pos h, at_eq]; congr 3; omega
  · rw [if_neg (fun q => h q.2), if_neg h, at_eq]
omit O in
theorem rev_perm (P : PermN n p) {m : Nat} (hm : m ≤ n) : PermN n (kas_rev p 0 m) := by
  refine ⟨(mirror_size _ _ _ _).trans P.size, fun i hi => ?_, fun i j hi hj e => ?_⟩
  · rw [rev_at P hm]; split <;> exact P.lt _ (by omega)
  · rw [rev_at P hm, rev_at P hm] at e
    split at e <;> split at e
    · have := P.inj _ _ (by omega) (by omega) e; omega
    · have := P.inj _ _ (by omega) (by omega) e; omega
    · have := P.inj _ _ (by omega) (by omega) e; omega
    · exact P.inj _ _ hi hj e
omit O in
theorem rev_asc (P : PermN n p) {m : Nat} (hm : m ≤ n) (D : Des lt p m) : Asc lt (kas_rev p 0 m) m := fun i j hij hj => by
  rw [rev_at P hm, rev_at P hm, if_pos (by omega), if_pos hj]
  exact D _ _ (by omega) (by omega)

theorem run_tail (P : PermN n p) {m : Nat} (h1 : 1 ≤ m) (hm : m ≤ n) (D : Des lt p m) : ∃ q, kasRun lt (kas_tail3 m n p) = q ∧ PermN n q.2 ∧ 1 ≤ q.1 ∧ q.1 ≤ n ∧ Asc lt q.2 q.1 := by
  refine ⟨_, rfl, ?_⟩
  rw [kas_tail3, kasRun_bind]
  have := run_asc O (rev_perm P hm) (n - m) m h1 (by omega) (rev_asc P hm D)
  exact ⟨rev_perm P hm, by show 1 ≤ kasRun lt (kas_asc (kas_rev p 0 m) (n - m) m); omega, by show kasRun lt (kas_asc (kas_rev p 0 m) (n - m) m) ≤ n; omega, this.2.2⟩
theorem run_descPart (P : PermN n p) (hn : 2 ≤ n) (h : lt (at' p 1) (at' p 0) = true) : ∃ q, kasRun lt (kas_descPart 1 n p) = q ∧ PermN n q.2 ∧ 1 ≤ q.1 ∧ q.1 ≤ n ∧ Asc lt q.2 q.1 := by
  have D : Des lt p 2 := des_step O P (k := 1) (Nat.le_refl _) (by omega) (fun i j a b => by omega) h
  obtain ⟨m', e, a, b, c⟩ := run_des O P (n - (1 + 1)) (1 + 1) (by omega) (by omega) D
  obtain ⟨q, e2, r⟩ := run_tail O P (m := m') (by omega) (by omega) c
  refine ⟨q, ?_, r⟩
  rw [kas_descPart, kasRun_bind, e]
  exact e2
theorem run_count (P : PermN n p) (hn : 2 ≤ n) : ∃ q, kasRun lt (kas_count n p) = q ∧ PermN n q.2 ∧ 1 ≤ q.1 ∧ q.1 ≤ n ∧ Asc lt q.2 q.1 := by
  have ra := run_asc O P (n - 1) 1 (Nat.le_refl _) (by omega) (fun i j a b => by omega)
  rw [kas_count, kasRun_bind]
  generalize hm : kasRun lt (kas_asc p (n - 1) 1) = m at ra
  by_cases h1 : (m == n) = true
  · rw [if_pos h1]
    exact ⟨_, rfl, P, by show 1 ≤ m; omega, by show m ≤ n; omega, ra.2.2⟩
  · rw [if_neg h1]
    by_cases h2 : m > 1
    · rw [if_pos h2]
      have t := ra.2.2 0 (m - 1) (by omega) (by omega)
      have t' : lt (p.getD 0 0) (p.getD (m - 1) 0) = true := t
      simp only [kasRun, t', if_true]
      exact ⟨_, rfl, P, by show 1 ≤ m; omega, by show m ≤ n; omega, ra.2.2⟩
    · rw [if_neg h2]
      have hm1 : m = 1 := by omega
      rw [hm1]
      refine run_descPart O P hn ?_
      cases h : lt (at' p 1) (at' p 0) with
      | true => rfl
      | false =>
        exfalso
        have : kasRun lt (kas_asc p (n - 1) 1) ≥ 2 := by
          have e : n - 1 = (n - 2) + 1 := by omega
          rw [e]
          show 2 ≤ kasRun lt (if lt (at' p 1) (at' p (1 - 1)) = true then KasT.ret 1 else kas_asc p (n - 2) (1 + 1))
          rw [show (1 - 1) = 0 from rfl, h]
          simp only [Bool.false_eq_true, if_false]
          exact (run_asc O P (n - 2) 2 (by omega) (by omega) (asc_step O P (k := 1) (Nat.le_refl _) (by omega) (fun i j a b => by omega) h)).1
        omega

theorem run_place (P : PermN n p) {k : Nat} (hk : k < n) (A : Asc lt p k) : ∀ (f l r : Nat), l ≤ r → r ≤ k → r - l ≤ f → (∀ i, i < l → lt (at' p i) (at' p k) = true) → (∀ i, r ≤ i → i < k → lt (at' p k) (at' p i) = true) →
    ∃ l', kasRun lt (kas_place p k f l r) = l' ∧ l' ≤ k ∧ (∀ i, i < l' → lt (at' p i) (at' p k) = true) ∧ ∀ i, l' ≤ i → i < k → lt (at' p k) (at' p i) = true
  | 0, l, r, h1, h2, h3, a, b => ⟨l, rfl, by omega, a, fun i x y => b i (by omega) y⟩
  | f + 1, l, r, h1, h2, h3, a, b => by
    by_cases hlr : l ≥ r
    · exact ⟨l, by simp [kas_place, hlr, kasRun], by omega, a, fun i x y => b i (by omega) y⟩
    · have e : kasRun lt (kas_place p k (f + 1) l r) = kasRun lt (if lt (at' p k) (at' p ((l + r) / 2)) = true then kas_place p k f l ((l + r) / 2) else kas_place p k f ((l + r) / 2 + 1) r) := by
        rw [kas_place, if_neg hlr]
        rfl
      rw [e]
      have hmid : (l + r) / 2 < r := by omega
      have hmid' : l ≤ (l + r) / 2 := by omega
      cases h : lt (at' p k) (at' p ((l + r) / 2)) with
      | true =>
        simp only [if_true]
        refine run_place P hk A f l ((l + r) / 2) hmid' (by omega) (by omega) a fun i x y => ?_
        by_cases hi : i = (l + r) / 2
        · rw [hi]; exact h
        · exact O.tr _ _ _ (P.lt _ hk) (P.lt _ (by omega)) (P.lt _ (by omega)) h (A _ _ (by omega) y)
      | false =>
        simp only [Bool.false_eq_true, if_false]
        have h' : lt (at' p ((l + r) / 2)) (at' p k) = true := O.tot _ _ (P.lt _ hk) (P.lt _ (by omega)) (fun e => by have := P.inj _ _ hk (by omega) e; omega) h
        refine run_place P hk A f ((l + r) / 2 + 1) r (by omega) h2 (by omega) (fun i x => ?_) b
        by_cases hi : i = (l + r) / 2
        · rw [hi]; exact h'
        · exact O.tr _ _ _ (P.lt _ (by omega)) (P.lt _ (by omega)) (P.lt _ hk) (A _ _ (by omega) (by omega)) h'
omit O in
theorem bub_at (P : PermN n p) {k l : Nat} (hk : k < n) (hl : l ≤ k) (i : Nat) : at' (bubble p k (k - l)) i = if i = l then at' p k else if l < i ∧ i ≤ k then at' p (i - 1) else at' p i := by
  have := getElem?_bubble (xs := p) (src := k) (by rw [P.size]; exact hk) (k - l) (by omega) i
  rw [at_eq, this]
  have e : k - (k - l) = l := by omega
  rw [e]
  by_cases h1 : i = l
  · rw [if_pos h1, if_pos h1, at_eq]
  · rw [if_neg h1, if_neg h1]
    by_cases h2 : l < i ∧ i ≤ k
    · rw [if_pos h2, if_pos h2, at_eq]
    · rw [if_neg h2, if_neg h2, at_eq]
omit O in
theorem bub_perm (P : PermN n p) {k l : Nat} (hk : k < n) (hl : l ≤ k) : PermN n (bubble p k (k - l)) := by
  refine ⟨(bubble_size _ _ _).trans P.size, fun i hi => ?_, fun i j hi hj e => ?_⟩
  · rw [bub_at P hk hl]; split
    · exact P.lt _ hk
    · split <;> exact P.lt _ (by omega)
  · rw [bub_at P hk hl, bub_at P hk hl] at e
    repeat' split at e
    all_goals (have := P.inj _ _ (by omega) (by omega) e; omega)
theorem run_bin : ∀ (f : Nat) (p : Array Nat) (k : Nat), PermN n p → k + f = n → Asc lt p k → ∃ q, kasRun lt (kas_bin f p k) = q ∧ PermN n q ∧ Asc lt q n
  | 0, p, k, P, h, A => ⟨p, rfl, P, by rw [← h]; simpa using A⟩
  | f + 1, p, k, P, h, A => by
    have hk : k < n := by omega
    obtain ⟨l, e, hl, a, b⟩ := run_place O P hk A k 0 k (Nat.zero_le _) (Nat.le_refl _) (by omega) (fun i x => by omega) (fun i x y => by omega)
    rw [kas_bin, kasRun_bind, e]
    refine run_bin f _ (k + 1) (bub_perm P hk hl) (by omega) fun i j hij hj => ?_
    rw [bub_at P hk hl, bub_at P hk hl]
    by_cases hi1 : i = l
    · rw [if_pos hi1, if_neg (by omega)]
      by_cases hj2 : l < j ∧ j ≤ k
      · rw [if_pos hj2]; exact b _ (by omega) (by omega)
      · omega
    · rw [if_neg hi1]
      by_cases hi2 : l < i ∧ i ≤ k
      · rw [if_pos hi2, if_neg (by omega), if_pos (by omega)]
        exact A _ _ (by omega) (by omega)
      · rw [if_neg hi2]
        by_cases hj1 : j = l
        · rw [if_pos hj1]; exact a _ (by omega)
        · rw [if_neg hj1]
          by_cases hj2 : l < j ∧ j ≤ k
          · rw [if_pos hj2]; exact A _ _ (by omega) (by omega)
          · rw [if_neg hj2]; exact A _ _ hij (by omega)
theorem run_sort (hn : 2 ≤ n) : ∃ q, kasRun lt (kas_sort n) = q ∧ PermN n q ∧ Asc lt q n := by
  have P₀ : PermN n (List.toArray (List.range n)) := by
    have ev : ∀ i, i < n → at' (List.toArray (List.range n)) i = i := fun i hi => by rw [at_eq]; simp [hi]
    exact ⟨by simp, fun i hi => by rw [ev i hi]; exact hi, fun i j hi hj e => by rw [ev i hi, ev j hj] at e; exact e⟩
  obtain ⟨q, e, P, h1, h2, A⟩ := run_count O P₀ hn
  rw [kas_sort, kasRun_bind, e]
  by_cases h : q.1 < n
  · rw [if_pos h]
    have em : max q.1 1 = q.1 := by omega
    rw [em]
    exact run_bin O (n - q.1) q.2 q.1 P (by omega) A
  · rw [if_neg h]
    have en : q.1 = n := by omega
    exact ⟨q.2, rfl, P, en ▸ A⟩
end

/-! its questions are about items that are there -/
def kasOk (lt : Nat → Nat → Bool) (n : Nat) {α : Type} : KasT α → Prop
  | .ret _ => True
  | .ask i j k => i < n ∧ j < n ∧ kasOk lt n (k (lt i j))
theorem kasOk_bind {lt : Nat → Nat → Bool} {n : Nat} {α β : Type} {f : α → KasT β} : ∀ {t : KasT α}, kasOk lt n t → kasOk lt n (f (kasRun lt t)) → kasOk lt n (t.bind f)
  | .ret _, _, h => h
  | .ask i j k, h, h' => ⟨h.1, h.2.1, kasOk_bind h.2.2 h'⟩

section
variable {lt : Nat → Nat → Bool} {n : Nat} (O : Ord lt n) {p : Array Nat}

theorem ok_asc (P : PermN n p) : ∀ (f m : Nat), 1 ≤ m → m + f ≤ n → kasOk lt n (kas_asc p f m)
  | 0, _, _, _ => trivial
  | f + 1, m, h1, hn => by
    refine ⟨P.lt _ (by omega), P.lt _ (by omega), ?_⟩
    dsimp only
    split
    · trivial
    · exact ok_asc P f (m + 1) (by omega) (by omega)
include O
theorem ok_des (P : PermN n p) : ∀ (f m : Nat), 1 ≤ m → m + f ≤ n → kasOk lt n (kas_desc f p m 0)
  | 0, _, _, _ => trivial
  | f + 1, m, h1, hn => by
    refine ⟨P.lt _ (by omega), P.lt _ (by omega), ?_⟩
    cases h : lt (p.getD m 0) (p.getD (m - 1) 0) with
    | true =>
      simp only [if_true, gt_iff_lt, Nat.lt_irrefl, if_false]
      exact ok_des P f (m + 1) (by omega) (by omega)
    | false =>
      have t : lt (p.getD (m - 1) 0) (p.getD m 0) = true := O.tot _ _ (P.lt _ (by omega)) (P.lt _ (by omega)) (fun e => by have := P.inj _ _ (by omega) (by omega) e; omega) h
      simp only [Bool.false_eq_true, if_false]
      refine ⟨P.lt _ (by omega), P.lt _ (by omega), ?_⟩
      rw [t]
      trivial
omit O in
theorem ok_tail (P : PermN n p) {m : Nat} (h1 : 1 ≤ m) (hm : m ≤ n) : kasOk lt n (kas_tail3 m n p) :=
  kasOk_bind (ok_asc (rev_perm P hm) _ _ h1 (by omega)) trivial
theorem ok_descPart (P : PermN n p) (hn : 2 ≤ n) (h : lt (at' p 1) (at' p 0) = true) : kasOk lt n (kas_descPart 1 n p) := by
  have D : Des lt p 2 := des_step O P (k := 1) (Nat.le_refl _) (by omega) (fun i j a b => by omega) h
  obtain ⟨m', e, a, b, c⟩ := run_des O P (n - (1 + 1)) (1 + 1) (by omega) (by omega) D
  refine kasOk_bind (ok_des O P _ _ (by omega) (by omega)) ?_
  rw [e]
  exact ok_tail P (m := m') (by omega) (by omega)
theorem ok_count (P : PermN n p) (hn : 2 ≤ n) : kasOk lt n (kas_count n p) := by
  have ra := run_asc O P (n - 1) 1 (Nat.le_refl _) (by omega) (fun i j a b => by omega)
  refine kasOk_bind (ok_asc P _ _ (Nat.le_refl _) (by omega)) ?_
  generalize hm : kasRun lt (kas_asc p (n - 1) 1) = m at ra
  by_cases h1 : (m == n) = true
  · rw [if_pos h1]; trivial
  · rw [if_neg h1]
    by_cases h2 : m > 1
    · rw [if_pos h2]
      have t := ra.2.2 0 (m - 1) (by omega) (by omega)
      have t' : lt (p.getD 0 0) (p.getD (m - 1) 0) = true := t
      refine ⟨P.lt _ (by omega), P.lt _ (by omega), ?_⟩
      rw [t']
      trivial
    · rw [if_neg h2]
      have hm1 : m = 1 := by omega
      rw [hm1]
      refine ok_descPart O P hn ?_
      cases h : lt (at' p 1) (at' p 0) with
      | true => rfl
      | false =>
        exfalso
        have : kasRun lt (kas_asc p (n - 1) 1) ≥ 2 := by
          have e : n - 1 = (n - 2) + 1 := by omega
          rw [e]
          show 2 ≤ kasRun lt (if lt (at' p 1) (at' p (1 - 1)) = true then KasT.ret 1 else kas_asc p (n - 2) (1 + 1))
          rw [show (1 - 1) = 0 from rfl, h]
          simp only [Bool.false_eq_true, if_false]
          exact (run_asc O P (n - 2) 2 (by omega) (by omega) (asc_step O P (k := 1) (Nat.le_refl _) (by omega) (fun i j a b => by omega) h)).1
        omega
omit O in
theorem ok_place (P : PermN n p) {k : Nat} (hk : k < n) : ∀ (f l r : Nat), r ≤ k → kasOk lt n (kas_place p k f l r)
  | 0, _, _, _ => trivial
  | f + 1, l, r, h => by
    rw [kas_place]
    split
    · trivial
    · refine ⟨P.lt _ hk, P.lt _ (by omega), ?_⟩
      dsimp only
      split
      · exact ok_place P hk f _ _ (by omega)
      · exact ok_place P hk f _ _ (by omega)
theorem ok_bin : ∀ (f : Nat) (p : Array Nat) (k : Nat), PermN n p → k + f = n → Asc lt p k → kasOk lt n (kas_bin f p k)
  | 0, p, k, P, h, A => trivial
  | f + 1, p, k, P, h, A => by
    have hk : k < n := by omega
    obtain ⟨l, e, hl, a, b⟩ := run_place O P hk A k 0 k (Nat.zero_le _) (Nat.le_refl _) (by omega) (fun i x => by omega) (fun i x y => by omega)
    refine kasOk_bind (ok_place P hk _ _ _ (Nat.le_refl _)) ?_
    rw [e]
    refine ok_bin f _ (k + 1) (bub_perm P hk hl) (by omega) fun i j hij hj => ?_
    rw [bub_at P hk hl, bub_at P hk hl]
    by_cases hi1 : i = l
    · rw [if_pos hi1, if_neg (by omega)]
      by_cases hj2 : l < j ∧ j ≤ k
      · rw [if_pos hj2]; exact b _ (by omega) (by omega)
      · omega
    · rw [if_neg hi1]
      by_cases hi2 : l < i ∧ i ≤ k
      · rw [if_pos hi2, if_neg (by omega), if_pos (by omega)]
        exact A _ _ (by omega) (by omega)
      · rw [if_neg hi2]
        by_cases hj1 : j = l
        · rw [if_pos hj1]; exact a _ (by omega)
        · rw [if_neg hj1]
          by_cases hj2 : l < j ∧ j ≤ k
          · rw [if_pos hj2]; exact A _ _ (by omega) (by omega)
          · rw [if_neg hj2]; exact A _ _ hij (by omega)
theorem ok_sort (hn : 2 ≤ n) : kasOk lt n (kas_sort n) := by
  have P₀ : PermN n (List.toArray (List.range n)) := by
    have ev : ∀ i, i < n → at' (List.toArray (List.range n)) i = i := fun i hi => by rw [at_eq]; simp [hi]
    exact ⟨by simp, fun i hi => by rw [ev i hi]; exact hi, fun i j hi hj e => by rw [ev i hi, ev j hj] at e; exact e⟩
  obtain ⟨q, e, P, h1, h2, A⟩ := run_count O P₀ hn
  refine kasOk_bind (ok_count O P₀ hn) ?_
  rw [e]
  by_cases h : q.1 < n
  · rw [if_pos h]
    have em : max q.1 1 = q.1 := by omega
    rw [em]
    exact ok_bin O (n - q.1) q.2 q.1 P (by omega) A
  · rw [if_neg h]; trivial
end

theorem kasWp_run {lt : Nat → Nat → Bool} {n : Nat} {α : Type} {cmp : Nat → Nat → (Bool → Shared → Prop) → Shared → Prop} {Q : α → Shared → Prop} {s : Shared} (hc : ∀ i j (C : Bool → Shared → Prop), i < n → j < n → C (lt i j) s → cmp i j C s) :
    ∀ (t : KasT α), kasOk lt n t → Q (kasRun lt t) s → t.kasWp cmp Q s
  | .ret a, _, h => h
  | .ask i j k, ho, h => hc i j _ ho.1 ho.2.1 (kasWp_run hc (k (lt i j)) ho.2.2 h)
end Mine
end

section
open PySem PySem.W PyProof.Rows
set_option Elab.async false
set_option maxRecDepth 100000
set_option linter.unusedVariables false
namespace Mine

/-! sorted, of lists of ints -/
theorem key_lists {prog : Program} {w : World} {A : Around} {E : Value → Shared → Prop} {s : Shared} {v u : Value} {as bs : List D} {ok ok' : Addr → Prop} {Q : Bool → Shared → Prop} (hu : A.units < cLine) (hk : kinds as bs = true) (x : Rep s.heap ok v (.list as)) (y : Rep s.heap ok' u (.list bs))
    (h : Q (lexD as bs) s) : wpAny (model prog w) A (keyLt' oneType' v u) Q E s := by
  cases x with
  | list oa hl R =>
    rename_i l vs
    cases y with
    | list oa' hl' R' =>
      rename_i b us
      have e1 := R.length
      have e2 := R'.length
      have e3 := kinds_len hk
      have val : lexF (fun j => eqD (as.getD j .none) (bs.getD j .none)) (fun j => ltD (as.getD j .none) (bs.getD j .none)) (vs.toArray).size 0 = lexD as bs := by
        rw [List.size_toArray, e1]
        refine lexF_D as bs 0 _ _ e3 fun j a b h1 h2 => ?_
        simp [List.getD, h1, h2]
      obtain ⟨⟨cls, dd, data, sl⟩, ho, hc, n, hd⟩ := id hl.isList
      obtain ⟨⟨cls2, dd2, data2, sl2⟩, ho2, hc2, n2, hd2⟩ := id hl'.isList
      simp only at hc hd hc2 hd2
      subst hc hd hc2 hd2
      rw [keyLt'_oneType, oneLt'_eq]
      simp only [if_true]
      refine wpAny_bind (wpAny_cRoomFor hu ?_)
      refine wpAny_bind (wpAny_callSpecialIfBound?_slot ⟨_, ho, rfl⟩ PySem.F.slot_list_lt (call_meets PySem.F.slot_list_lt ⟨_, ho, rfl⟩ PySem.F.entry_list_lt (PySem.F.args_list_lt_2 _ _)
        (list_ltAt l b vs.toArray us.toArray n n2 dd dd2 sl sl2 (by simp [e1, e2, e3]) (fun j => eqD (as.getD j .none) (bs.getD j .none)) (fun j => ltD (as.getD j .none) (bs.getD j .none))) ⟨ho, ho2, fun j h1 h2 => ?_, ?_⟩))
      · obtain ⟨a, ha, Ra⟩ := R.get (i := j) (v := vs.toArray[j]) (by simp)
        obtain ⟨b, hb, Rb⟩ := R'.get (i := j) (v := us.toArray[j]) (by simp)
        have := atD (A := A.in1) (s := s) (kinds_get hk ha hb) Ra Rb
        simp only [List.getD, ha, hb, Option.getD_some]
        exact ⟨this.1, fun _ => this.2⟩
      · rw [val]
        exact wpAny_truthy_bool h

def newsOf (h h₀ : Heap) (L : Addr) : List (Addr × Obj) := (List.range h.objs.size).filterMap fun a => if a = L ∨ (h₀.get? a).isSome = true then none else (h.get? a).map fun o => (a, o)
theorem newsOf_mem {h h₀ : Heap} {L a : Addr} {o : Obj} (ha : a ≠ L) (h0 : h₀.get? a = none) (e : h.get? a = some o) : (a, o) ∈ newsOf h h₀ L := by
  refine List.mem_filterMap.mpr ⟨a, List.mem_range.mpr (Heap.lt_size e), ?_⟩
  rw [if_neg (fun q => by rcases q with q | q; exact ha q; rw [h0] at q; cases q), e]
  rfl
theorem newsOf_news {h h₀ : Heap} {L : Addr} : News h₀ L h (newsOf h h₀ L) := fun p hp => by
  obtain ⟨a, _, e⟩ := List.mem_filterMap.mp hp
  split at e
  · cases e
  · rename_i hn
    obtain ⟨o, e1, rfl⟩ := Option.map_eq_some_iff.mp e
    refine ⟨e1, fun q => hn (.inl q), ?_⟩
    cases q : h₀.get? a with
    | none => rfl
    | some o => exact absurd (.inr (by rw [q]; rfl)) hn

section
variable {C : Cx} {ρ ρ₁ : Rho} {W : Addr → Prop} {n : Nat}

/-- all but the frame's dict stands, and that says the same -/
theorem StX.weak {h h' : Heap} {m cm ω} (X : StX C ρ W h m cm ω) (F' : Fr C.h₀ C.L h' m) (hk : ∀ b o, b ≠ C.L → h.get? b = some o → h'.get? b = some o) : StX C ρ W h' m cm ω := by
  refine ⟨F', ⟨fun y c e => ?_, X.cl.apart, X.cl.above⟩, X.wl, X.wc, fun a ha => ?_, X.nw, fun e he => ?_, X.sep⟩
  · obtain ⟨o, e1, e2⟩ := X.cl.cell y c e
    exact ⟨o, hk _ o (Nat.ne_of_gt (X.cl.above y c (mem_of_lookup e))) e1, e2⟩
  · by_cases hq : a = C.L
    · obtain ⟨o, _, _, e, _⟩ := F'.ns
      exact ⟨o, hq ▸ e⟩
    · obtain ⟨o, e⟩ := X.al a ha
      exact ⟨o, hk a o hq e⟩
  · obtain ⟨v, V, I⟩ := X.vars e he
    refine ⟨v, V, ?_⟩
    obtain ⟨y, o, d⟩ := e
    cases o with
    | false => exact Rep.mono (fun b o hb e => hk b o (fun q => hb (q ▸ X.wl)) e) (fun _ _ a _ => a) I
    | true =>
      obtain ⟨rfl, hw, h1, h2, ds, vs, rfl, hl, R⟩ := I
      exact ⟨rfl, hw, h1, h2, ds, vs, rfl, hl.at fun o e => hk _ o h1 e, R.mono (fun b o q _ => q.elim) fun _ _ a _ => a⟩

theorem Reps.pick {h : Heap} {ok : Addr → Prop} {vs : List Value} {ds : List D} (R : Reps h ok vs ds) : ∀ (l : List Nat), (∀ i ∈ l, i < ds.length) → Reps h ok (l.map fun i => vs.getD i Value.none) (l.map fun i => ds.getD i D.none)
  | [], _ => .nil
  | i :: l, H => by
    have hi : i < ds.length := H i (.head _)
    have hi' : i < vs.length := by rw [R.length]; exact hi
    obtain ⟨d, hd, Rd⟩ := R.get (i := i) (v := vs[i]) (by simp)
    have e1 : vs.getD i Value.none = vs[i] := by simp [List.getD, hi']
    have e2 : ds.getD i D.none = d := by simp [List.getD, hd]
    rw [List.map_cons, List.map_cons, e1, e2]
    exact .cons Rd (Reps.pick R l fun j hj => H j (.tail _ hj))

def rowLt (ds : List D) (i j : Nat) : Bool := ltLL (ds.getD i .none) (ds.getD j .none)

/-- an iterable that may let the frame's dict move -/
def ItS (C : Cx) (ρ : Rho) (e : Expr) (ds : List D) : Prop := ∀ s W, St C ρ W s → ∀ Q : Value → Shared → Prop, (∀ it s₁ s₂ N, Fram W W s s₁ → St C ρ W s₁ → (∀ b, s₁.heap.get? b = none → s.heap.get? b = none) → Kp s₁ s₂ → WalkAt C N s₁ s₂ it ds → Q it s₂) →
  wpAny (model C.prog C.w) C.A (eval e C.env) (fun xv s₁ => wpAny (model C.prog C.w) C.A (pyIter xv) Q bot s₁) bot s

theorem ItS.sorted {e : Expr} {fp pos : Pos} {ds : List D} {f₁ : Bool} (G : Own C n) (hf : Built C "sorted" (.builtin "sorted")) (he : Ev C (rd ρ) e (.list ds) f₁) (h2 : 2 ≤ ds.length) (h64 : ds.length < 64)
    (hk : ∀ (i j : Nat) (a b : D), ds[i]? = some a → ds[j]? = some b → ∃ as bs, a = .list as ∧ b = .list bs ∧ kinds as bs = true) (hO : Ord (rowLt ds) ds.length) (hse : starEach [e] C.env = [(false, eval e C.env)] := by rfl) :
    ItS C ρ (.Call (.Name "sorted" fp) [e] [] pos) ((kasRun (rowLt ds) (kas_sort ds.length)).toList.map fun i => ds.getD i .none) := by
  obtain ⟨q, eq, P, As⟩ := run_sort hO h2
  rw [eq]
  intro s W S Q hQ
  refine Call_Name (trees := backTo pos (starEach [e] C.env)) rfl (built_name G.toGood hf.no hf.bo hf.nn hf.kd hf.db (S.ok G) (PyProof.Rows.callWith_builtin1 (args_cons (wpAny_mono (he s (S.ok G)) (fun v s₁ g => args_nil ?_) fun _ _ x => x) hse) hse rfl))
  have S₁ := S.keeps g.1
  have R₀ := g.any
  have k₁ := g.1
  cases R₀ with
  | list oa hl R =>
    rename_i l vs
    have e1 := R.length
    obtain ⟨m, cm, ω, X⟩ := S₁.ex
    have keep : ∀ {h : Heap}, Fr C.h₀ C.L h m → News C.h₀ C.L h (newsOf s₁.heap C.h₀ C.L) → ∀ b o, b ≠ C.L → s₁.heap.get? b = some o → h.get? b = some o := fun {h} F N b o hb e => by
      cases q0 : C.h₀.get? b with
      | none => exact (N _ (newsOf_mem hb q0 e)).1
      | some o' =>
        have : o' = o := by have := X.fr.keep b o' q0; rw [e] at this; exact (Option.some.inj this).symm
        exact this ▸ F.keep b o' q0
    have nseq : ∀ {b : Addr} {o : Obj} {xs c}, s₁.heap.get? b = some o → o.data = .seq xs c → b ≠ C.L := fun {b o xs c} e hd q => by
      obtain ⟨o', _, _, e', hd', _⟩ := X.fr.ns
      rw [← q, e] at e'; cases e'; rw [hd] at hd'; cases hd'
    have repK : ∀ {h : Heap}, Fr C.h₀ C.L h m → News C.h₀ C.L h (newsOf s₁.heap C.h₀ C.L) → ∀ {v d}, Rep s₁.heap (fun _ => True) v d → Rep h (fun _ => True) v d := by
      intro h F N v d x
      exact Rep.seq (fun b o xs c hd e => keep F N b o (nseq e hd) e) x
    refine wpAny_mono (wpAny_toks_of (Nat.le_refl _) (kas_sorted (T := .type "list") (Q := fun v s₂ => ∃ Da h' tk c, v = .ref Da ∧ s₂ = { s₁ with heap := h', toks := tk } ∧ Fr C.h₀ C.L h' m ∧ News C.h₀ C.L h' ((Da, listOf (List.toArray (q.toList.map fun i => vs.getD i Value.none)) c) :: newsOf s₁.heap C.h₀ C.L))
      X.fr newsOf_news hl.isList (by omega) (by omega) (fun h F N v hv => ?_) (by decide) fun Da e1' h' F' N' hD => ?_)) (fun v s₂ q => ?_) fun _ _ q => q.2
    · obtain ⟨i, hi, ev⟩ := List.getElem_of_mem hv
      obtain ⟨d, hd, Rd⟩ := R.get (i := i) (v := v) (by rw [← ev]; simp)
      obtain ⟨as, bs, rfl, _, _⟩ := hk i i d d hd hd
      have Rd' := repK F N Rd
      intro A' Q' E' s' k' hq
      cases Rd' with
      | list _ hl' _ => exact wpAny_typeOf (hl'.isList.at fun o e => k' _ o e).typeIs hq
    · have N'' : News C.h₀ C.L h' (newsOf s₁.heap C.h₀ C.L) := fun p hp => N' p (.tail _ hp)
      have en : vs.length = ds.length := e1
      rw [en]
      refine kasWp_run (lt := rowLt ds) (n := ds.length) (fun i j Cc hi hj hC => ?_) _ (ok_sort hO h2) ?_
      · unfold kas_ask
        have hi' : i < vs.length := by omega
        have hj' : j < vs.length := by omega
        have ei : vs.getD i Value.none = vs[i] := by simp [List.getD, hi']
        have ej : vs.getD j Value.none = vs[j] := by simp [List.getD, hj']
        rw [ei, ej]
        obtain ⟨x, hx, Rx⟩ := R.get (i := i) (v := vs[i]) (by simp)
        obtain ⟨y, hy, Ry⟩ := R.get (i := j) (v := vs[j]) (by simp)
        obtain ⟨as, bs, rfl, rfl, hks⟩ := hk i j x y hx hy
        refine key_lists (by have := G.units; show C.A.units + 1 + 1 < cLine; omega) hks (repK F' N'' Rx) (repK F' N'' Ry) ?_
        have ux : ds.getD i D.none = D.list as := by simp [List.getD, hx]
        have uy : ds.getD j D.none = D.list bs := by simp [List.getD, hy]
        unfold rowLt at hC
        rw [ux, uy] at hC
        exact hC
      · rw [eq]
        refine KasFin.intro F' N' (.head fun p hp => ?_) fun h'' c F'' N'' => ⟨Da, h'', _, c, rfl, rfl, F'', N''⟩
        exact Nat.ne_of_lt (hD p hp)
    · obtain ⟨htk, Da, h', tk, c, rfl, rfl, F', N'⟩ := q
      have N'' : News C.h₀ C.L h' (newsOf s₁.heap C.h₀ C.L) := fun p hp => N' p (.tail _ hp)
      have F₂ : Fram W W s₁ { s₁ with heap := h', toks := tk } := ⟨⟨h', tk, rfl⟩, htk, fun b o hb e => keep F' N'' b o (fun q => hb (q ▸ X.wl)) e, fun b hb => .inl hb⟩
      have S₂ : St C ρ W { s₁ with heap := h', toks := tk } := ⟨fun q => Nat.lt_of_lt_of_le (S₁.tk q) htk, m, cm, ω, X.weak F' (keep F' N'')⟩
      have hD := (N' _ (.head _)).1
      have hlD : h'.IsList Da (List.toArray (q.toList.map fun i => vs.getD i Value.none)) := ⟨_, hD, rfl, c, rfl⟩
      have hin : ∀ i ∈ q.toList, i < ds.length := fun i hi => by
        obtain ⟨j, hj, ej⟩ := List.getElem_of_mem hi
        have hj' : j < ds.length := by rw [← P.size]; simpa using hj
        have := P.lt j hj'
        rw [at_eq] at this
        have e : q[j]? = some i := by rw [← ej]; simp
        rw [e] at this
        exact this
      have RD : Reps h' (fun _ => True) (q.toList.map fun i => vs.getD i Value.none) (q.toList.map fun i => ds.getD i D.none) := by
        refine Reps.seq (h := s₁.heap) (fun b o xs c hd e => keep F' N'' b o (nseq e hd) e) (R.pick _ hin)
      refine walk_list (N := fun _ => True) G.toGood (.refl _) trivial (fun _ _ => trivial) hlD RD fun it s₃ k₃ w₃ => ?_
      refine hQ it _ s₃ _ ((Fram.of_kp k₁).trans F₂) S₂ (fun b e => ?_) k₃ w₃
      cases e0 : s.heap.get? b with
      | none => rfl
      | some o =>
        exfalso
        have e1 := k₁.get b o e0
        by_cases hb : b = C.L
        · obtain ⟨o', _, _, e', _⟩ := F'.ns
          rw [← hb] at e'
          rw [show h'.get? b = none from e] at e'; cases e'
        · have := keep F' N'' b o hb e1
          rw [show h'.get? b = none from e] at this; cases this
theorem Ex.compS {own : Bool} {elt iter : Expr} {x y : Str} {px py : Pos} {ifs : List Expr} {scope : Scope} {cl : List (Str × Addr)} {pos spos : Pos} {ds : List D} {ρ' : List (Str × D)} (G : Own C n) (hi : ItS C ρ iter ds) (hds : ds.length ≤ 16777216) (H : CompOk C scope cl x (rd ρ) ρ') (p : D → Bool) (g : D → D)
    (tests : ∀ Ca, ∀ d ∈ ds, Tsts (C.comp scope cl Ca) ((x, d) :: ρ') ifs (p d))
    (body : ∀ Ca, ∀ d ∈ ds, p d = true → Ev (C.comp scope cl Ca) ((x, d) :: ρ') elt (g d) true)
    (hown : own = true → ∀ d ∈ (ds.filter p).map g, d.atom) (hy : Stor C y) (hr : Rm y ρ ρ₁)
    (hsw : swapsWith (.ListComp elt [⟨.Name x px, iter, ifs, 0⟩] scope pos) (some (.Name y py)) spos.line C.env = pure true)
    (hs : ∀ x, foldedSetIterable iter C.env x = pure x := by intro _; rfl) :
    Ex C ρ (.Assign [.Name y py] (.ListComp elt [⟨.Name x px, iter, ifs, 0⟩] scope pos) spos) (.next ((y, own, .list ((ds.filter p).map g)) :: ρ₁)) := fun s W S => by
  rw [exec_Assign_Name_used _ _ _ _ hsw]
  refine wpAny_bind (wpAny_standAt (wpAny_bind ?_))
  show wpAny _ _ (do let _ ← comprehension (.ListComp elt [⟨.Name x px, iter, ifs, 0⟩] scope pos) scope C.env _ (newList []) false (eval iter C.env) (some (assign (.Name y py) C.env))) _ _ s
  have fin : wpAny (model C.prog C.w) C.A (comprehension (.ListComp elt [⟨.Name x px, iter, ifs, 0⟩] scope pos) scope C.env (firstIterPos [⟨.Name x px, iter, ifs, 0⟩] pos) (newList []) false (eval iter C.env) (some (assign (.Name y py) C.env)))
      (fun _ s' => Post C s W (.next ((y, own, .list ((ds.filter p).map g)) :: ρ₁)) .next s') bot s := by
    refine wpAny_comprehension_free (use := some (assign (.Name y py) C.env)) rfl hs H.clos H.kind H.names (hi s W S _ fun it s₁ s₂ N F₁ S₁ back k Wk => ?_)
    refine comp_core G.toGood (S₁.ok G) k Wk hds H p g tests body (RR := fun acc Ca => compPost (model C.prog C.w) C.A bot (some (assign (.Name y py) C.env)) (fun _ s' => Post C s W (.next ((y, own, .list ((ds.filter p).map g)) :: ρ₁)) .next s') acc Ca) fun D Ca s' k' hD hC hne hns R => ?_
    obtain ⟨m₀, hn⟩ := hns
    show wpAny _ _ (assign (.Name y py) C.env (.ref D)) _ _ _
    have hWC : ¬ W Ca := fun hw => by obtain ⟨m, cm, ω, X⟩ := S₁.ex; obtain ⟨o, e⟩ := X.al Ca hw; rw [hC] at e; cases e
    have h0C : C.h₀.get? Ca = none := by
      obtain ⟨m, F⟩ := (S₁.ok G).fr
      cases e : C.h₀.get? Ca with
      | none => rfl
      | some o => rw [F.keep _ o e] at hC; cases hC
    have gv : Got s₁ true (.list ((ds.filter p).map g)) (.ref D) s' := ⟨k', R.mono_to fun a h _ => h.1⟩
    have done : ∀ {W' : Addr → Prop}, NewVal C W W' s₁ s' own (.list ((ds.filter p).map g)) (.ref D) → ¬ W' Ca → wpAny (model C.prog C.w) C.A (assign (.Name y py) C.env (.ref D)) (fun _ s'' => ∃ m, s''.heap.Ns Ca m ∧ ∀ h', Heap.SameBut Ca s''.heap h' → Post C s W (.next ((y, own, .list ((ds.filter p).map g)) :: ρ₁)) .next { s'' with heap := h' }) bot s' := fun {W'} NV hW' => by
      -- the store keeps the block's dict: it is none of the frame's own
      refine wpAny_assign_Name (wpAny_mono (store_one G S₁ k' NV hr hy) (fun _ s'' q => ?_) fun _ _ x => x)
      obtain ⟨F, S', kk⟩ := q
      obtain ⟨oc, es, ep, ho, r⟩ := id hn
      have hn'' : s''.heap.Ns Ca m₀ := ⟨oc, es, ep, kk _ _ hWC ho, r⟩
      refine ⟨m₀, hn'', fun h'' hs'' => Post.later F₁ ⟨W', ?_, rfl, S'.dict hn'' hW' h0C hs''⟩⟩
      obtain ⟨⟨h₁, t₁, e₁⟩, a, b, c⟩ := F
      subst e₁
      exact ⟨⟨h'', t₁, rfl⟩, a, fun p o hp e => hs''.extBut p o (fun q => by rw [q, hC] at e; cases e) (b p o hp e), c⟩
    cases own with
    | false => exact done (newval_ro S₁ gv (.inl rfl)) hWC
    | true =>
      cases R with
      | list hb hl R =>
        rename_i vs
        refine done (W' := fun b => W b ∨ b = D) ⟨D, _, vs, rfl, rfl, hD, rfl, hl, R.atoms (hown rfl)⟩ fun h => ?_
        rcases h with h | h
        · exact hWC h
        · exact hne h.symm
  exact wpAny_bind (wpAny_mono fin (fun _ s' hq => wpAny_pure (wpAny_pure hq)) fun _ _ e => e)
end
end Mine
end

section
open PySem PySem.W PyProof.Rows
set_option Elab.async false
set_option maxRecDepth 100000
set_option linter.unusedVariables false
namespace Mine

theorem mem_rd {ρ : Rho} {x : Str} {o : Bool} {d : D} (h : (x, o, d) ∈ ρ) : (x, d) ∈ rd ρ := List.mem_map.mpr ⟨_, h, rfl⟩
theorem built_no {C : Cx} {P : PySem.Params} (hK : C.K = hd.heap_1 P) {x : Str} (h : nsIn (hd.heap_1 P) mainGlobals x = some none) : nsIn C.K mainGlobals x = some none := by rw [hK]; exact h
theorem top_at {C : Cx} {P : PySem.Params} (hK : C.K = hd.heap_1 P) {x : Str} {v : Value} (h : nsIn (hd.heap_1 P) mainGlobals x = some (some v)) : nsIn C.K mainGlobals x = some (some v) := by rw [hK]; exact h
theorem keep_at {C : Cx} {P : PySem.Params} (hK : C.K = hd.heap_1 P) {v : Value} (h : keepIn (hd.heap_1 P) v = true) : keepIn C.K v = true := by rw [hK]; exact h
theorem code_at {C : Cx} {P : PySem.Params} (hK : C.K = hd.heap_1 P) {v : Value} {q : Str} (h : codeIn (hd.heap_1 P) v q = true) : codeIn C.K v q = true := by rw [hK]; exact h
theorem look_at {C : Cx} {P : PySem.Params} (hK : C.K = hd.heap_1 P) {f : Addr} {o : Obj} (h : (hd.heap_1 P).lookup f = some o) : C.K.lookup f = some o := by rw [hK]; exact h

/-! the judgements, shut: what they say is not to be unfolded on the way -/
structure Er (C : Cx) (ρ : List (Str × D)) (e : Expr) (d : D) : Prop where
  h : Ev C ρ e d false
structure En (C : Cx) (ρ : List (Str × D)) (e : Expr) (d : D) : Prop where
  h : Ev C ρ e d true
structure Et (C : Cx) (ρ : List (Str × D)) (e : Expr) (b : Bool) : Prop where
  h : Tr C ρ e b
structure Vr (C : Cx) (ρ : List (Str × D)) (es : List Expr) (ds : List D) : Prop where
  h : Evs C ρ es ds false
structure Vn (C : Cx) (ρ : List (Str × D)) (es : List Expr) (ds : List D) : Prop where
  h : Evs C ρ es ds true
structure Ei (C : Cx) (ρ : List (Str × D)) (e : Expr) (ds : List D) : Prop where
  h : It C ρ e ds
structure Es (C : Cx) (ρ : Rho) (e : Expr) (ds : List D) : Prop where
  h : ItS C ρ e ds
structure Ef (C : Cx) (ρ : Rho) (e tgt : Expr) (ds : List D) : Prop where
  h : Fd C ρ e tgt ds
structure Ea (C : Cx) (tgt : Expr) (d : D) (ρ ρ₁ : Rho) : Prop where
  h : Asg C tgt d ρ ρ₁
structure Xe (C : Cx) (ρ : Rho) (st : Stmt) (out : Out) : Prop where
  h : Ex C ρ st out
structure Xs (C : Cx) (ρ : Rho) (b : List Stmt) (out : Out) : Prop where
  h : Exs C ρ b out
structure Ff (C : Cx) (f : Addr) (ds : List D) (d : D) : Prop where
  h : Fn C f ds d
structure Me (env : Env) (o : Expr) (name : Str) (apos : Pos) (args : List Expr) (pos : Pos) : Prop where
  h : ∃ pl, MethEq env o name apos args pos pl

theorem small_div {a b : Int} (h : b.natAbs < 2 ^ 64) : Builtin.divisionGoesByPylong a b = false := by
  unfold Builtin.divisionGoesByPylong
  have : b.natAbs.log2 < 64 := by
    by_cases h0 : b.natAbs = 0
    · rw [h0]; decide
    · exact (Nat.log2_lt h0).mpr h
  simp only [Bool.and_eq_false_iff, decide_eq_false_iff_not]
  left
  split <;> omega

section
variable {C : Cx} {ρ ρ' : List (Str × D)} {n : Nat}
theorem E.int (i : Int) (k : Nat) (pos : Pos) : Er C ρ (.Constant (.int i) k pos) (.int i) := ⟨.int i k pos⟩
theorem E.str (x : Str) (k : Nat) (pos : Pos) : Er C ρ (.Constant (.str x) k pos) (.str x) := ⟨.str x k pos⟩
theorem E.bool (b : Bool) (k : Nat) (pos : Pos) : Er C ρ (.Constant (.bool b) k pos) (.bool b) := ⟨.bool b k pos⟩
theorem E.nm {x : Str} {d : D} {pos : Pos} (G : Good C n) (hm : (x, d) ∈ ρ) (hd : (x == ("__debug__" : Str)) = false) : Er C ρ (.Name x pos) d := ⟨.name G hm hd⟩
theorem E.nmR {ρ : Rho} {x : Str} {o : Bool} {d : D} {pos : Pos} (G : Good C n) (hm : (x, o, d) ∈ ρ) (hd : (x == ("__debug__" : Str)) = false) : Er C (rd ρ) (.Name x pos) d := ⟨.name G (mem_rd hm) hd⟩
theorem E.add {l r : Expr} {pos : Pos} {a b : Int} (hl : Er C ρ l (.int a)) (hr : Er C ρ r (.int b)) : Er C ρ (.BinOp l .Add r pos) (.int (a + b)) := ⟨.add hl.h hr.h⟩
theorem E.sub {l r : Expr} {pos : Pos} {a b : Int} (hl : Er C ρ l (.int a)) (hr : Er C ρ r (.int b)) : Er C ρ (.BinOp l .Sub r pos) (.int (a - b)) := ⟨.sub hl.h hr.h⟩
theorem E.mul {l r : Expr} {pos : Pos} {a b : Int} (hl : Er C ρ l (.int a)) (hr : Er C ρ r (.int b)) (hm : IntMulOk a b) : Er C ρ (.BinOp l .Mult r pos) (.int (a * b)) := ⟨.mul hl.h hr.h hm⟩
theorem E.mod {l r : Expr} {pos : Pos} {a b : Int} (hl : Er C ρ l (.int a)) (hr : Er C ρ r (.int b)) (hb : b ≠ 0) : Er C ρ (.BinOp l .Mod r pos) (.int (a.fmod b)) := ⟨.mod hl.h hr.h hb⟩
theorem E.band {l r : Expr} {pos : Pos} {a b : Int} (hl : Er C ρ l (.int a)) (hr : Er C ρ r (.int b)) : Er C ρ (.BinOp l .BitAnd r pos) (.int (Builtin.bitAnd a b)) := ⟨.band hl.h hr.h⟩
theorem E.fdiv {l r : Expr} {pos : Pos} {a b : Int} (hl : Er C ρ l (.int a)) (hr : Er C ρ r (.int b)) (hb : b ≠ 0) (hs : b.natAbs < 2 ^ 64) : Er C ρ (.BinOp l .FloorDiv r pos) (.int (a.fdiv b)) := ⟨.fdiv hl.h hr.h hb (small_div hs)⟩
theorem E.neg {e : Expr} {pos : Pos} {a : Int} (he : Er C ρ e (.int a)) : Er C ρ (.UnaryOp .USub e pos) (.int (-a)) := ⟨.neg he.h⟩
theorem E.cat {l r : Expr} {pos : Pos} {a b : Str} (hl : Er C ρ l (.str a)) (hr : Er C ρ r (.str b)) (hs : a.length + b.length ≤ 16777216) : Er C ρ (.BinOp l .Add r pos) (.str (a ++ b)) := ⟨.cat hl.h hr.h (le_line hs)⟩
theorem E.cmp {l r : Expr} {op : CmpOp} {pos : Pos} {a b : D} {k : Bool} (hl : Er C ρ l a) (hr : Er C ρ r b) (hc : Cmp C op a b k) (hm : behindInMarks op r = false) : Er C ρ (.Compare l [op] [r] pos) (.bool k) := ⟨.cmp hl.h hr.h hc hm⟩
theorem E.read {e : Expr} {d : D} (h : En C ρ e d) : Er C ρ e d := ⟨h.h.read⟩
theorem E.idx {l i : Expr} {pos : Pos} {ds : List D} {k : Int} {d : D} (hl : Er C ρ l (.list ds)) (hi : Er C ρ i (.int k)) (h0 : 0 ≤ k) (hk : ds[k.toNat]? = some d) (hb : k < 2 ^ 63)
    (hs : ∀ o u, subscripted i false o u = operate [o, u] (getItem o u)) : Er C ρ (.Subscript l i pos) d := ⟨.idx hl.h hi.h h0 hk hb hs⟩
theorem E.last {l i : Expr} {pos : Pos} {ds : List D} {d : D} (hl : Er C ρ l (.list ds)) (hi : Er C ρ i (.int (-1))) (hk : ds.getLast? = some d)
    (hs : ∀ o u, subscripted i false o u = operate [o, u] (getItem o u)) : Er C ρ (.Subscript l i pos) d := ⟨.last hl.h hi.h hk hs⟩
theorem E.ite {t b e : Expr} {pos : Pos} {c : Bool} {d : D} (ht : Et C ρ t c) (hb : c = true → Er C ρ b d) (he : c = false → Er C ρ e d) : Er C ρ (.IfExp t b e pos) d := ⟨.ite ht.h (fun h => (hb h).h) fun h => (he h).h⟩
theorem E.iteS {t b e : Expr} {pos : Pos} {c : Bool} {x y : Str} (ht : Et C ρ t c) (hb : Er C ρ b (.str x)) (he : Er C ρ e (.str y)) : Er C ρ (.IfExp t b e pos) (.str (if c = true then x else y)) := by
  refine E.ite ht (fun h => ?_) fun h => ?_
  · rw [if_pos h]; exact hb
  · rw [if_neg (by rw [h]; exact Bool.false_ne_true)]; exact he
theorem E.iteI {t b e : Expr} {pos : Pos} {c : Bool} {x y : Int} (ht : Et C ρ t c) (hb : Er C ρ b (.int x)) (he : Er C ρ e (.int y)) : Er C ρ (.IfExp t b e pos) (.int (if c = true then x else y)) := by
  refine E.ite ht (fun h => ?_) fun h => ?_
  · rw [if_pos h]; exact hb
  · rw [if_neg (by rw [h]; exact Bool.false_ne_true)]; exact he
theorem E.cast {e : Expr} {d d' : D} (h : Er C ρ e d) (q : d = d') : Er C ρ e d' := q ▸ h
theorem E.castN {e : Expr} {d d' : D} (h : En C ρ e d) (q : d = d') : En C ρ e d' := q ▸ h
theorem E.new {e : Expr} {d : D} (hd : d.atom) (h : Er C ρ e d) : En C ρ e d := ⟨h.h.atom hd⟩
theorem E.mulS {l r : Expr} {pos : Pos} {x : Str} {k : Nat} (hl : Er C ρ l (.str x)) (hr : Er C ρ r (.int k)) (hx : x.length = 1) (hk : k ≤ 16777216) : Er C ρ (.BinOp l .Mult r pos) (.str (Txt.mul x k)) :=
  ⟨.bin hl.h hr.h fun v u s _ x' y' => by
    cases x'; cases y'
    refine SB.mul ⟨?_, fun _ _ => ?_, fun _ _ => ?_⟩ fun _ _ => ⟨keeps_tok, .str _ _⟩
    · simp only [Bool.or_eq_false_iff, decide_eq_false_iff_not]
      constructor <;> omega
    · rw [hx]
      rename_i h1 _
      have h1' : (1 : Int) ≤ (k : Int) := by omega
      have : (1 : Int) ≤ (2 ^ 63 - 1) / (k : Int) := by
        apply (Int.le_ediv_iff_mul_le (by omega)).mpr
        omega
      omega
    · rw [hx]
      simp only [Builtin.Str.tooLong, decide_eq_false_iff_not]
      have : (k : Int).toNat = k := by omega
      rw [this, Nat.one_mul]
      exact Nat.not_lt_of_le (le_line hk)⟩
theorem E.meth {o e : Expr} {name : Str} {apos pos : Pos} {args : List Expr} (h : Me C.env o name apos args pos) {Q : Prop} (k : ∀ pl, MethEq C.env o name apos args pos pl → Q) : Q := let ⟨pl, q⟩ := h.h; k pl q
theorem E.startswith {o e : Expr} {apos pos : Pos} {x y : Str} (ho : Er C ρ o (.str x)) (he : Er C ρ e (.str y)) (hm : Me C.env o "startswith" apos [e] pos) (hse : starEach [e] C.env = [(false, eval e C.env)]) : Er C ρ (.Call (.Attribute o "startswith" apos) [e] [] pos) (.bool (Txt.startswith x y)) :=
  let ⟨_, q⟩ := hm.h; ⟨.startswith ho.h he.h q hse⟩
theorem E.endswith {o e : Expr} {apos pos : Pos} {x y : Str} (ho : Er C ρ o (.str x)) (he : Er C ρ e (.str y)) (hm : Me C.env o "endswith" apos [e] pos) (hse : starEach [e] C.env = [(false, eval e C.env)]) : Er C ρ (.Call (.Attribute o "endswith" apos) [e] [] pos) (.bool (Txt.endswith x y)) :=
  let ⟨_, q⟩ := hm.h; ⟨.endswith ho.h he.h q hse⟩
theorem E.rfind {o e : Expr} {apos pos : Pos} {x y : Str} (ho : Er C ρ o (.str x)) (he : Er C ρ e (.str y)) (hm : Me C.env o "rfind" apos [e] pos) (hse : starEach [e] C.env = [(false, eval e C.env)]) : Er C ρ (.Call (.Attribute o "rfind" apos) [e] [] pos) (.int (Txt.rfind x y)) :=
  let ⟨_, q⟩ := hm.h; ⟨.rfind ho.h he.h q hse⟩
theorem E.rstrip {o e : Expr} {apos pos : Pos} {x y : Str} (ho : Er C ρ o (.str x)) (he : Er C ρ e (.str y)) (hx : x.length ≤ 16777216) (hm : Me C.env o "rstrip" apos [e] pos) (hse : starEach [e] C.env = [(false, eval e C.env)]) : Er C ρ (.Call (.Attribute o "rstrip" apos) [e] [] pos) (.str (Txt.rstripChars x y)) :=
  let ⟨_, q⟩ := hm.h; ⟨.rstrip ho.h he.h hx q hse⟩
theorem E.split {o e : Expr} {apos pos : Pos} {x y : Str} (ho : Er C ρ o (.str x)) (he : Er C ρ e (.str y)) (hx : x.length + 2 ≤ 16777216) (hy : (y.length == 0) = false) (hm : Me C.env o "split" apos [e] pos) (hse : starEach [e] C.env = [(false, eval e C.env)]) : En C ρ (.Call (.Attribute o "split" apos) [e] [] pos) (.list (dS (Txt.split x y))) :=
  let ⟨_, q⟩ := hm.h; ⟨.split ho.h he.h hx hy q hse⟩
theorem E.join {o e : Expr} {apos pos : Pos} {x : Str} {xs : List Str} (ho : Er C ρ o (.str x)) (he : Er C ρ e (.list (dS xs))) (hj : JoinOk x xs = true) (hm : Me C.env o "join" apos [e] pos) (hse : starEach [e] C.env = [(false, eval e C.env)]) : Er C ρ (.Call (.Attribute o "join" apos) [e] [] pos) (.str (Txt.join x xs)) :=
  let ⟨_, q⟩ := hm.h; ⟨.join ho.h he.h hj q hse⟩
theorem E.repl {o : Expr} {k₁ k₂ : Nat} {p₁ p₂ apos pos : Pos} {x y z : Str} (htz : C.tz = true) (ho : Er C ρ o (.str x)) (hyz : (y == z) = false) (hb : x.length + (x.length + 1) * z.length ≤ 16777216)
    (hm : Me C.env o "replace" apos [.Constant (.str y) k₁ p₁, .Constant (.str z) k₂ p₂] pos) : Er C ρ (.Call (.Attribute o "replace" apos) [.Constant (.str y) k₁ p₁, .Constant (.str z) k₂ p₂] [] pos) (.str (Txt.replace x y z)) :=
  let ⟨_, q⟩ := hm.h; ⟨.repl htz ho.h hyz hb q⟩
theorem E.sSS {l a b : Expr} {pos p : Pos} {x : Str} {i j : Int} (hl : Er C ρ l (.str x)) (ha : Er C ρ a (.int i)) (hb : Er C ρ b (.int j)) (hx : x.length ≤ 16777216) : Er C ρ (.Subscript l (.Slice (some a) (some b) none p) pos) (.str (Txt.slice x (some i) (some j))) := ⟨.sSS hl.h ha.h hb.h hx⟩
theorem E.sFrom {l a : Expr} {pos p : Pos} {x : Str} {i : Int} (hl : Er C ρ l (.str x)) (ha : Er C ρ a (.int i)) (hx : x.length ≤ 16777216) : Er C ρ (.Subscript l (.Slice (some a) none none p) pos) (.str (Txt.slice x (some i) none)) := ⟨.sFrom hl.h ha.h hx⟩
theorem E.sUpto {l a : Expr} {pos p : Pos} {x : Str} {i : Int} (hl : Er C ρ l (.str x)) (ha : Er C ρ a (.int i)) (hx : x.length ≤ 16777216) : Er C ρ (.Subscript l (.Slice none (some a) none p) pos) (.str (Txt.slice x none (some i))) := ⟨.sUpto hl.h ha.h hx⟩
theorem E.lenL {e : Expr} {fp pos : Pos} {ds : List D} (G : Good C n) (hf : Built C "len" (.builtin "len")) (he : Er C ρ e (.list ds)) (hn : ds.length ≤ 16777216) (hse : starEach [e] C.env = [(false, eval e C.env)]) : Er C ρ (.Call (.Name "len" fp) [e] [] pos) (.int ds.length) := ⟨.lenL G hf he.h hn hse⟩
theorem E.lenS {e : Expr} {fp pos : Pos} {x : Str} (G : Good C n) (hf : Built C "len" (.builtin "len")) (he : Er C ρ e (.str x)) (hn : x.length ≤ 16777216) (hse : starEach [e] C.env = [(false, eval e C.env)]) : Er C ρ (.Call (.Name "len" fp) [e] [] pos) (.int x.length) := ⟨.lenS G hf he.h hn hse⟩
theorem E.strI {e : Expr} {fp pos : Pos} {i : Int} (G : Good C n) (hf : Built C "str" (.type "str")) (he : Er C ρ e (.int i)) (hn : i.natAbs.log2 < 1920) (hse : starEach [e] C.env = [(false, eval e C.env)]) : Er C ρ (.Call (.Name "str" fp) [e] [] pos) (.str (Str.ofString (toString i))) := ⟨.strI G hf he.h hn hse⟩
theorem E.topInt {x : Str} {i : Int} {t : Tok} {pos : Pos} (G : Good C n) (e : nsIn C.K mainGlobals x = some (some (.int i t))) (hx : C.env.kindOf x = some .globalImplicit) (hd : (x == ("__debug__" : Str)) = false) : Er C ρ (.Name x pos) (.int i) := ⟨.topInt G e hx hd⟩
theorem E.builtTy {x : Str} {T : String} {p : Pos} (G : Good C n) (hf : Built C x (.type T)) : Er C ρ (.Name x p) (.ty T) := ⟨.builtTy G hf⟩
theorem E.typeS {e : Expr} {fp pos : Pos} {x : Str} (G : Good C n) (hf : Built C "type" (.type "type")) (he : Er C ρ e (.str x)) (hse : starEach [e] C.env = [(false, eval e C.env)]) : Er C ρ (.Call (.Name "type" fp) [e] [] pos) (.ty "str") := ⟨.typeS G hf he.h hse⟩
theorem E.isBytes {e₁ e₂ : Expr} {fp pos : Pos} {x : Str} (G : Good C n) (hf : Built C "isinstance" (.builtin "isinstance")) (h₁ : Er C ρ e₁ (.str x)) (h₂ : Er C ρ e₂ (.ty "bytes"))
    (hse : starEach [e₁, e₂] C.env = (false, eval e₁ C.env) :: starEach [e₂] C.env) (hse₂ : starEach [e₂] C.env = [(false, eval e₂ C.env)]) (hpl : (backTo pos (starEach [e₂] C.env)).any (·.1) = false) : Er C ρ (.Call (.Name "isinstance" fp) [e₁, e₂] [] pos) (.bool false) := ⟨.isBytes G hf h₁.h h₂.h hse hse₂ hpl⟩
theorem E.isSub {e₁ e₂ : Expr} {fp pos : Pos} (G : Good C n) (hf : Built C "issubclass" (.builtin "issubclass")) (h₁ : Er C ρ e₁ (.ty "str")) (h₂ : Er C ρ e₂ (.tup [.ty "str", .ty "bytes"]))
    (hse : starEach [e₁, e₂] C.env = (false, eval e₁ C.env) :: starEach [e₂] C.env) (hse₂ : starEach [e₂] C.env = [(false, eval e₂ C.env)]) (hpl : (backTo pos (starEach [e₂] C.env)).any (·.1) = false) : Er C ρ (.Call (.Name "issubclass" fp) [e₁, e₂] [] pos) (.bool true) := ⟨.isSub G hf h₁.h h₂.h hse hse₂ hpl⟩
theorem E.minL {e : Expr} {fp pos : Pos} {ds : List D} {d : D} (G : Good C n) (hf : Built C "min" (.builtin "min")) (he : Er C ρ e (.list ds)) (hn : 0 < ds.length)
    (hk : ∀ (i j : Nat) (a b : D), ds[i]? = some a → ds[j]? = some b → ∃ as bs, a = .list as ∧ b = .list bs ∧ kinds as bs = true) (hd : ds[bestD ds]? = some d) (hse : starEach [e] C.env = [(false, eval e C.env)]) : Er C ρ (.Call (.Name "min" fp) [e] [] pos) d := ⟨.minL G hf he.h hn hk hd hse⟩
theorem E.sumI {e : Expr} {fp pos : Pos} {ns : List Int} (G : Good C n) (hf : Built C "sum" (.builtin "sum")) (he : Er C ρ e (.list (dI ns))) (hse : starEach [e] C.env = [(false, eval e C.env)]) : Er C ρ (.Call (.Name "sum" fp) [e] [] pos) (.int (preSum (fun i => ns.getD i 0) ns.length)) := ⟨.sumI G hf he.h hse⟩
theorem E.listRange {e : Expr} {fp fp₂ p₂ pos : Pos} {m : Nat} (G : Good C n) (hf : Built C "list" (.type "list")) (hf₂ : Built C "range" (.type "range")) (he : Er C ρ e (.int m)) (hm : m ≤ 16777216)
    (hse : starEach [e] C.env = [(false, eval e C.env)]) (hse₂ : starEach [.Call (.Name "range" fp₂) [e] [] p₂] C.env = [(false, eval (.Call (.Name "range" fp₂) [e] [] p₂) C.env)]) : En C ρ (.Call (.Name "list" fp) [.Call (.Name "range" fp₂) [e] [] p₂] [] pos) (.list (dI (Mine.upto m))) := ⟨.listRange G hf hf₂ he.h hm hse hse₂⟩
theorem V.nil : Vr C ρ [] [] := ⟨.nil⟩
theorem V.cons {e : Expr} {es : List Expr} {d : D} {ds : List D} (h : Er C ρ e d) (r : Vr C ρ es ds) (he : starEach (e :: es) C.env = (false, eval e C.env) :: starEach es C.env) : Vr C ρ (e :: es) (d :: ds) := ⟨.cons h.h r.h he⟩
theorem V.nilN : Vn C ρ [] [] := ⟨.nil⟩
theorem V.consN {e : Expr} {es : List Expr} {d : D} {ds : List D} (h : En C ρ e d) (r : Vn C ρ es ds) (he : starEach (e :: es) C.env = (false, eval e C.env) :: starEach es C.env) : Vn C ρ (e :: es) (d :: ds) := ⟨.cons h.h r.h he⟩
theorem E.list {es : List Expr} {ds : List D} {pos : Pos} (h : Vn C ρ es ds) (hs : ds.length ≤ 16777216) : En C ρ (.List es pos) (.list ds) := ⟨.list h.h hs⟩
theorem E.tup {es : List Expr} {ds : List D} {k : Nat} {pos : Pos} (h : Vn C ρ es ds) (hs : ds.length ≤ 16777216) : En C ρ (.Tuple es k pos) (.tup ds) := ⟨.tup h.h hs⟩
theorem E.addL {l r : Expr} {pos : Pos} {a b : List D} (hl : Er C ρ l (.list a)) (hr : Er C ρ r (.list b)) (hs : a.length + b.length ≤ 16777216) (fl : ∀ d ∈ a ++ b, d.atom) : En C ρ (.BinOp l .Add r pos) (.list (a ++ b)) := ⟨.addL hl.h hr.h hs fl⟩
theorem E.rep {e r : Expr} {p pos : Pos} {a k : Int} (he : Er C ρ e (.int a)) (hr : Er C ρ r (.int k)) (h0 : 0 ≤ k) (h1 : k ≤ 16777216) (hse : starEach [e] C.env = [(false, eval e C.env)]) : En C ρ (.BinOp (.List [e] p) .Mult r pos) (.list (List.replicate k.toNat (.int a))) := ⟨.rep he.h hr.h h0 h1 hse⟩
theorem E.lUpto {l : Expr} {pos p : Pos} {u : Expr} {ds : List D} {k : Nat} (hl : Er C ρ l (.list ds)) (hu : Er C ρ u (.int k)) (fl : ∀ d ∈ ds, d.atom) (hsz : ds.length ≤ 16777216) : En C ρ (.Subscript l (.Slice none (some u) none p) pos) (.list (ds.take k)) := ⟨.upto hl.h hu.h fl hsz⟩
theorem E.lFrom {l : Expr} {pos p : Pos} {u : Expr} {ds : List D} {k : Nat} (hl : Er C ρ l (.list ds)) (hu : Er C ρ u (.int k)) (fl : ∀ d ∈ ds, d.atom) (hsz : ds.length ≤ 16777216) : En C ρ (.Subscript l (.Slice (some u) none none p) pos) (.list (ds.drop k)) := ⟨.from hl.h hu.h fl hsz⟩
theorem E.fn {f : Str} {fa : Addr} {e : Expr} {es : List Expr} {fp pos : Pos} {ds : List D} {d : D} (G : Good C n) (hF : Ff C fa ds d) (ha : Vr C ρ (e :: es) ds) (hn : nsIn C.K mainGlobals f = some (some (.ref fa))) (hk : keepIn C.K (.ref fa) = true)
    (hg : C.env.kindOf f = some .globalImplicit) (hd : (f == ("__debug__" : Str)) = false) (he : starEach (e :: es) C.env = (false, eval e C.env) :: starEach es C.env) (hplain : (backTo pos (starEach es C.env)).any (·.1) = false) :
    En C ρ (.Call (.Name f fp) (e :: es) [] pos) d := ⟨.fn G hn hk hF.h ha.h hg hd he hplain⟩

theorem T.cmp {l r : Expr} {op : CmpOp} {pos : Pos} {a b : D} {k : Bool} (hl : Er C ρ l a) (hr : Er C ρ r b) (hc : Cmp C op a b k) (hm : behindInMarks op r = false) : Et C ρ (.Compare l [op] [r] pos) k := ⟨.cmp hl.h hr.h hc hm⟩
theorem T.bool {e : Expr} {b : Bool} (he : Er C ρ e (.bool b)) (ht : isTrue e C.env (eval e C.env) = (do let v ← eval e C.env; standAt e.pos; holding [v] (truthy v))) : Et C ρ e b := ⟨.boolT he.h ht⟩
theorem T.str {e : Expr} {x : Str} (he : Er C ρ e (.str x)) (hx : x.length ≤ 16777216) (ht : isTrue e C.env (eval e C.env) = (do let v ← eval e C.env; standAt e.pos; holding [v] (truthy v))) : Et C ρ e ((x.length : Int) != 0) := ⟨.strT he.h hx ht⟩
theorem T.not {e : Expr} {pos : Pos} {b : Bool} (he : Et C ρ e b) : Et C ρ (.UnaryOp .Not e pos) (!b) := ⟨.not he.h⟩
theorem T.cast {e : Expr} {b b' : Bool} (h : Et C ρ e b) (q : b = b') : Et C ρ e b' := q ▸ h
theorem T.and {a b : Expr} {pos : Pos} {c₁ c₂ : Bool} (ha : Et C ρ a c₁) (hb : c₁ = true → Et C ρ b c₂) : Et C ρ (.BoolOp .And [a, b] pos) (c₁ && c₂) := by
  cases c₁ with
  | false => exact ⟨.andF ha.h⟩
  | true => exact ⟨.andT ha.h (hb rfl).h⟩
theorem T.or {a b : Expr} {pos : Pos} {c₁ c₂ : Bool} (ha : Et C ρ a c₁) (hb : c₁ = false → Et C ρ b c₂) : Et C ρ (.BoolOp .Or [a, b] pos) (c₁ || c₂) := by
  cases c₁ with
  | true => exact ⟨.orT ha.h⟩
  | false => exact ⟨.orF ha.h (hb rfl).h⟩

/-! comprehensions -/
theorem I.list {e : Expr} {ds : List D} (G : Good C n) (he : Er C ρ e (.list ds)) : Ei C ρ e ds := ⟨.list G he.h⟩
theorem I.range {e : Expr} {fp pos : Pos} {m : Nat} (G : Good C n) (hf : Built C "range" (.type "range")) (he : Er C ρ e (.int m)) (hm : m ≤ 16777216) (hse : starEach [e] C.env = [(false, eval e C.env)]) : Ei C ρ (.Call (.Name "range" fp) [e] [] pos) (dI (Mine.upto m)) := ⟨.range G hf he.h hm hse⟩
theorem filter_all {ds : List D} : ds.filter (fun _ => true) = ds := List.filter_eq_self.mpr fun _ _ => rfl
theorem E.comp {elt iter : Expr} {x : Str} {px : Pos} {scope : Scope} {cl : List (Str × Addr)} {pos : Pos} {ds : List D} (G : Good C n) (hi : Ei C ρ iter ds) (hds : ds.length ≤ 16777216) (H : CompOk C scope cl x ρ ρ') (g : D → D)
    (body : ∀ Ca, Good (C.comp scope cl Ca) n → ∀ d ∈ ds, En (C.comp scope cl Ca) ((x, d) :: ρ') elt (g d)) (hs : ∀ x, foldedSetIterable iter C.env x = pure x) : En C ρ (.ListComp elt [⟨.Name x px, iter, [], 0⟩] scope pos) (.list (ds.map g)) := by
  have := Ev.comp (pos := pos) (px := px) (elt := elt) G hi.h hds H (fun _ => true) g (ifs := []) (fun _ _ _ => .nil) (fun Ca d hd _ => (body Ca (G.comp H.kind cl Ca) d hd).h) hs
  rw [filter_all] at this
  exact ⟨this⟩
theorem E.compIf {elt iter t : Expr} {x : Str} {px : Pos} {scope : Scope} {cl : List (Str × Addr)} {pos : Pos} {ds : List D} (G : Good C n) (hi : Ei C ρ iter ds) (hds : ds.length ≤ 16777216) (H : CompOk C scope cl x ρ ρ') (p : D → Bool) (g : D → D)
    (test : ∀ Ca, Good (C.comp scope cl Ca) n → ∀ d ∈ ds, Et (C.comp scope cl Ca) ((x, d) :: ρ') t (p d))
    (body : ∀ Ca, Good (C.comp scope cl Ca) n → ∀ d ∈ ds, p d = true → En (C.comp scope cl Ca) ((x, d) :: ρ') elt (g d)) (hs : ∀ x, foldedSetIterable iter C.env x = pure x) : En C ρ (.ListComp elt [⟨.Name x px, iter, [t], 0⟩] scope pos) (.list ((ds.filter p).map g)) :=
  ⟨.comp G hi.h hds H p g (fun Ca d hd => .one (test Ca (G.comp H.kind cl Ca) d hd).h) (fun Ca d hd h => (body Ca (G.comp H.kind cl Ca) d hd h).h) hs⟩
end

section
variable {C : Cx} {ρ ρ₁ ρ₂ ρ₃ ρ₄ : Rho} {n : Nat} {ρ' : List (Str × D)}
theorem X.nil : Xs C ρ [] (.next ρ) := ⟨.nil⟩
theorem X.cons {st : Stmt} {rest : List Stmt} {out : Out} (h : Xe C ρ st (.next ρ₁)) (r : Xs C ρ₁ rest out) : Xs C ρ (st :: rest) out := ⟨.cons h.h r.h⟩
theorem X.end {st : Stmt} {rest : List Stmt} {d : D} (h : Xe C ρ st (.ret d)) : Xs C ρ (st :: rest) (.ret d) := ⟨.ret h.h⟩
theorem X.stop {st : Stmt} {rest : List Stmt} (h : Xe C ρ st (.brk ρ₁)) : Xs C ρ (st :: rest) (.brk ρ₁) := ⟨.brk h.h⟩
theorem X.pre {b : List Stmt} {out : Out} (h : Xs C ρ₁ b out) (hs : ∀ e ∈ ρ₁, e ∈ ρ) : Xs C ρ b out := ⟨h.h.pre hs⟩
theorem X.drop (hs : ∀ e ∈ ρ₁, e ∈ ρ) : Xs C ρ [] (.next ρ₁) := X.pre X.nil hs
theorem X.brkTo {pos : Pos} (hs : ∀ e ∈ ρ₁, e ∈ ρ) : Xs C ρ [.Break pos] (.brk ρ₁) := X.pre (X.stop ⟨.brk⟩) hs
theorem X.set {x : Str} {p pos : Pos} {e : Expr} {d : D} (G : Own C n) (he : Er C (rd ρ) e d) (hd : d.atom) (hx : Stor C x) (hr : Rm x ρ ρ₁)
    (hs : swapsWith e (some (.Name x p)) pos.line C.env = pure false) : Xe C ρ (.Assign [.Name x p] e pos) (.next ((x, false, d) :: ρ₁)) := ⟨.set G he.h (.inr hd) hx hr hs⟩
theorem X.setN {x : Str} {p pos : Pos} {e : Expr} {d : D} (G : Own C n) (he : En C (rd ρ) e d) (hx : Stor C x) (hr : Rm x ρ ρ₁)
    (hs : swapsWith e (some (.Name x p)) pos.line C.env = pure false) : Xe C ρ (.Assign [.Name x p] e pos) (.next ((x, false, d) :: ρ₁)) := ⟨.set G he.h (.inl rfl) hx hr hs⟩
theorem X.own {x : Str} {p pos : Pos} {e : Expr} {ds : List D} (G : Own C n) (he : En C (rd ρ) e (.list ds)) (hd : ∀ d ∈ ds, d.atom) (hx : Stor C x) (hr : Rm x ρ ρ₁)
    (hs : swapsWith e (some (.Name x p)) pos.line C.env = pure false) : Xe C ρ (.Assign [.Name x p] e pos) (.next ((x, true, .list ds) :: ρ₁)) := ⟨.own G he.h hd hx hr hs⟩
theorem X.ret {e : Expr} {pos : Pos} {d : D} (G : Own C n) (he : Er C (rd ρ) e d) (hd : d.atom) : Xe C ρ (.Return (some e) pos) (.ret d) := ⟨.ret G (he.h.atom hd)⟩
theorem X.augS {x : Str} {p pos : Pos} {e : Expr} {a b : Str} (G : Own C n) (hm : (x, false, .str a) ∈ ρ) (he : Er C (rd ρ) e (.str b)) (hl : a.length + b.length ≤ 16777216) (hx : Stor C x) (hr : Rm x ρ ρ₁) :
    Xe C ρ (.AugAssign (.Name x p) .Add e pos) (.next ((x, false, .str (a ++ b)) :: ρ₁)) := ⟨.augS G hm he.h hl hx hr⟩
theorem X.if {t : Expr} {b e : List Stmt} {pos : Pos} {out : Out} {c : Bool} (G : Own C n) (ht : Et C (rd ρ) t c) (hb : c = true → Xs C ρ b out) (he : c = false → Xs C ρ e out) : Xe C ρ (.If t b e pos) out := by
  cases c with
  | true => exact ⟨.ifT G ht.h (hb rfl).h⟩
  | false => exact ⟨.ifF G ht.h (he rfl).h⟩
theorem X.ifT {t : Expr} {b e : List Stmt} {pos : Pos} {out : Out} (G : Own C n) (ht : Et C (rd ρ) t true) (hb : Xs C ρ b out) : Xe C ρ (.If t b e pos) out := ⟨.ifT G ht.h hb.h⟩
theorem X.ifF {t : Expr} {b e : List Stmt} {pos : Pos} {out : Out} (G : Own C n) (ht : Et C (rd ρ) t false) (he : Xs C ρ e out) : Xe C ρ (.If t b e pos) out := ⟨.ifF G ht.h he.h⟩
theorem X.try {body : List Stmt} {h₀ : ExceptHandler} {hs : List ExceptHandler} {pos : Pos} {out : Out} (h : Xs C ρ body out) : Xe C ρ (.Try body (h₀ :: hs) [] [] pos) out := ⟨.try h.h⟩
theorem X.append {x : Str} {e : Expr} {p ap cp pos : Pos} {ds : List D} {d : D} (G : Own C n) (hm : (x, true, .list ds) ∈ ρ) (he : Er C (rd ρ) e d) (hr : Rm x ρ ρ₁) (hd : d.atom) (hsz : ds.length ≤ 16777216)
    (hq : Me C.env (.Name x p) "append" ap [e] cp) (hdb : (x == ("__debug__" : Str)) = false) (hse : starEach [e] C.env = [(false, eval e C.env)]) (hi : interactive C.env = false)
    (hsw : swapsWith (.Call (.Attribute (.Name x p) "append" ap) [e] [] cp) none pos.line C.env = pure false) :
    Xe C ρ (.Expr (.Call (.Attribute (.Name x p) "append" ap) [e] [] cp) pos) (.next ((x, true, .list (ds ++ [d])) :: ρ₁)) := let ⟨_, q⟩ := hq.h; ⟨.append G hm hr he.h hd hsz q hdb hse hi hsw⟩
theorem X.remove {x : Str} {e : Expr} {p ap cp pos : Pos} {ns : List Int} {i : Int} {j : Nat} (G : Own C n) (hm : (x, true, .list (dI ns)) ∈ ρ) (he : Er C (rd ρ) e (.int i)) (hr : Rm x ρ ρ₁)
    (hj : ns[j]? = some i) (hno : ∀ k, k < j → ns[k]? ≠ some i) (hsz : ns.length ≤ 16777216)
    (hq : Me C.env (.Name x p) "remove" ap [e] cp) (hdb : (x == ("__debug__" : Str)) = false) (hse : starEach [e] C.env = [(false, eval e C.env)]) (hi : interactive C.env = false)
    (hsw : swapsWith (.Call (.Attribute (.Name x p) "remove" ap) [e] [] cp) none pos.line C.env = pure false) :
    Xe C ρ (.Expr (.Call (.Attribute (.Name x p) "remove" ap) [e] [] cp) pos) (.next ((x, true, .list (dI (ns.eraseIdx j))) :: ρ₁)) := let ⟨_, q⟩ := hq.h; ⟨.remove G hm hr he.h hj hno hsz q hdb hse hi hsw⟩
theorem X.setAt {x : Str} {i e : Expr} {p p' pos : Pos} {ds : List D} {k : Int} {d : D} (G : Own C n) (hm : (x, true, .list ds) ∈ ρ) (he : Er C (rd ρ) e d) (hi : Er C (rd ρ) i (.int k)) (hr : Rm x ρ ρ₁) (hd : d.atom) (h0 : 0 ≤ k) (hk : k < ds.length) (hb : k < 2 ^ 63)
    (hdb : (x == ("__debug__" : Str)) = false) (hsw : swapsWith e (some (.Subscript (.Name x p) i p')) pos.line C.env = pure false) :
    Xe C ρ (.Assign [.Subscript (.Name x p) i p'] e pos) (.next ((x, true, .list (ds.set k.toNat d)) :: ρ₁)) := ⟨.setAt G hm hr he.h hd hi.h h0 hk hb hdb hsw⟩
theorem X.empty {x : Str} {p lp pos : Pos} (G : Own C n) (hx : Stor C x) (hr : Rm x ρ ρ₁) (hs : swapsWith (.List [] lp) (some (.Name x p)) pos.line C.env = pure false) :
    Xe C ρ (.Assign [.Name x p] (.List [] lp) pos) (.next ((x, true, .list []) :: ρ₁)) := X.own G (E.list V.nilN (Nat.zero_le _)) (fun _ h => nomatch h) hx hr hs
theorem X.retOwn {x : Str} {p pos : Pos} {d : D} (G : Own C n) (hm : (x, true, d) ∈ ρ) (hd : (x == ("__debug__" : Str)) = false) : Xe C ρ (.Return (some (.Name x p)) pos) (.ret d) := ⟨.retOwn G hm hd⟩
theorem A.name {x : Str} {p : Pos} {d : D} (G : Own C n) (hx : Stor C x) (hr : Rm x ρ ρ₁) : Ea C (.Name x p) d ρ ((x, false, d) :: ρ₁) := ⟨.name G hx hr⟩
theorem A.two {x₁ x₂ : Str} {p₁ p₂ pos : Pos} {k : Nat} {d₁ d₂ : D} (G : Own C n) (h₁ : Stor C x₁) (h₂ : Stor C x₂) (r₁ : Rm x₁ ρ ρ₁) (r₂ : Rm x₂ ((x₁, false, d₁) :: ρ₁) ρ₂) :
    Ea C (.Tuple [.Name x₁ p₁, .Name x₂ p₂] k pos) (.tup [d₁, d₂]) ρ ((x₂, false, d₂) :: ρ₂) := ⟨.two G h₁ h₂ r₁ r₂⟩
theorem A.four {x₁ x₂ x₃ x₄ : Str} {p₁ p₂ p₃ p₄ pos : Pos} {k : Nat} {d₁ d₂ d₃ d₄ : D} (G : Own C n) (h₁ : Stor C x₁) (h₂ : Stor C x₂) (h₃ : Stor C x₃) (h₄ : Stor C x₄) (r₁ : Rm x₁ ρ ρ₁) (r₂ : Rm x₂ ((x₁, false, d₁) :: ρ₁) ρ₂)
    (r₃ : Rm x₃ ((x₂, false, d₂) :: ρ₂) ρ₃) (r₄ : Rm x₄ ((x₃, false, d₃) :: ρ₃) ρ₄) :
    Ea C (.Tuple [.Name x₁ p₁, .Name x₂ p₂, .Name x₃ p₃, .Name x₄ p₄] k pos) (.tup [d₁, d₂, d₃, d₄]) ρ ((x₄, false, d₄) :: ρ₄) := ⟨.four G h₁ h₂ h₃ h₄ r₁ r₂ r₃ r₄⟩
theorem F.range {e tgt : Expr} {fp pos : Pos} {m : Nat} (G : Own C n) (hf : Built C "range" (.type "range")) (he : Er C (rd ρ) e (.int m)) (hm : m ≤ 16777216) (hse : starEach [e] C.env = [(false, eval e C.env)]) : Ef C ρ (.Call (.Name "range" fp) [e] [] pos) tgt (dI (Mine.upto m)) := ⟨.range G hf he.h hm hse⟩
theorem F.list {x : Str} {p : Pos} {tgt : Expr} {ds : List D} (G : Own C n) (hm : (x, false, .list ds) ∈ ρ) (hd : (x == ("__debug__" : Str)) = false) : Ef C ρ (.Name x p) tgt ds := ⟨.name G (.inl hm) hd⟩
theorem F.tup {x : Str} {p : Pos} {tgt : Expr} {ds : List D} (G : Own C n) (hm : (x, false, .tup ds) ∈ ρ) (hd : (x == ("__debug__" : Str)) = false) : Ef C ρ (.Name x p) tgt ds := ⟨.name G (.inr hm) hd⟩
theorem F.newTup {e tgt : Expr} {ds : List D} (G : Own C n) (he : En C (rd ρ) e (.tup ds)) : Ef C ρ e tgt ds := ⟨.newTup G he.h⟩
theorem X.for {tgt iter : Expr} {body : List Stmt} {pos : Pos} {ρ₀ : Rho} (ds : List D) (ρs : Nat → Rho) (G : Own C n) (hi : Ef C ρ₀ iter tgt ds) (h0 : ρs 0 = ρ₀) (h1 : ρs ds.length = ρ₁)
    (turn : ∀ i d, ds[i]? = some d → ∃ ρ', Ea C tgt d (ρs i) ρ' ∧ Xs C ρ' body (.next (ρs (i + 1)))) (hs : ∀ x, foldedSetIterable iter C.env x = pure x) : Xe C ρ₀ (.For tgt iter body [] pos) (.next ρ₁) := by
  subst h0 h1
  exact ⟨Ex.for ρs G hi.h (fun i d h => let ⟨ρ', a, b⟩ := turn i d h; ⟨ρ', a.h, b.h⟩) hs⟩
theorem X.forTo {tgt iter : Expr} {body orelse : List Stmt} {pos : Pos} {ρ₀ : Rho} (ds : List D) (ρs : Nat → Rho) (k : Nat) (G : Own C n) (hi : Ef C ρ₀ iter tgt ds) (h0 : ρs 0 = ρ₀) (hk : k ≤ ds.length)
    (turn : ∀ i d, i < k → ds[i]? = some d → ∃ ρ', Ea C tgt d (ρs i) ρ' ∧ Xs C ρ' body (.next (ρs (i + 1))))
    (fin : (k = ds.length ∧ Xs C (ρs k) orelse (.next ρ₁)) ∨ ∃ d ρ', ds[k]? = some d ∧ Ea C tgt d (ρs k) ρ' ∧ Xs C ρ' body (.brk ρ₁)) (hs : ∀ x, foldedSetIterable iter C.env x = pure x) : Xe C ρ₀ (.For tgt iter body orelse pos) (.next ρ₁) := by
  subst h0
  exact ⟨Ex.forTo ρs k G hk hi.h (fun i d h h' => let ⟨ρ', a, b⟩ := turn i d h h'; ⟨ρ', a.h, b.h⟩) (fin.imp (fun h => ⟨h.1, h.2.h⟩) fun ⟨d, ρ', a, b, c⟩ => ⟨d, ρ', a, b.h, c.h⟩) hs⟩
theorem X.while {test : Expr} {body : List Stmt} {pos : Pos} {ρ₀ : Rho} (m : Nat) (ρs : Nat → Rho) (G : Own C n) (h0 : ρs 0 = ρ₀) (h1 : ρs m = ρ₁) (ht : ∀ i, i < m → Et C (rd (ρs i)) test true) (hb : ∀ i, i < m → Xs C (ρs i) body (.next (ρs (i + 1)))) (hf : Et C (rd (ρs m)) test false) :
    Xe C ρ₀ (.While test body [] pos) (.next ρ₁) := by
  subst h0 h1
  exact ⟨Ex.while ρs m G (fun i h => (ht i h).h) (fun i h => (hb i h).h) hf.h⟩
theorem X.comp {own : Bool} {elt iter : Expr} {x y : Str} {px py : Pos} {scope : Scope} {cl : List (Str × Addr)} {pos spos : Pos} {ds : List D} (G : Own C n) (hi : Ei C (rd ρ) iter ds) (hds : ds.length ≤ 16777216) (H : CompOk C scope cl x (rd ρ) ρ') (g : D → D)
    (body : ∀ Ca, Good (C.comp scope cl Ca) n → ∀ d ∈ ds, En (C.comp scope cl Ca) ((x, d) :: ρ') elt (g d))
    (hown : own = true → ∀ d ∈ ds.map g, d.atom) (hy : Stor C y) (hr : Rm y ρ ρ₁)
    (hsw : swapsWith (.ListComp elt [⟨.Name x px, iter, [], 0⟩] scope pos) (some (.Name y py)) spos.line C.env = pure true) (hs : ∀ x, foldedSetIterable iter C.env x = pure x) :
    Xe C ρ (.Assign [.Name y py] (.ListComp elt [⟨.Name x px, iter, [], 0⟩] scope pos) spos) (.next ((y, own, .list (ds.map g)) :: ρ₁)) := by
  have := Ex.compG (own := own) (pos := pos) (px := px) (py := py) (spos := spos) (elt := elt) G hi.h hds H (fun _ => true) g (ifs := []) (fun _ _ _ => .nil) (fun Ca d hd _ => (body Ca (G.toGood.comp H.kind cl Ca) d hd).h) (by rw [filter_all]; exact hown) hy hr hsw hs
  rw [filter_all] at this
  exact ⟨this⟩
theorem X.compIf {own : Bool} {elt iter t : Expr} {x y : Str} {px py : Pos} {scope : Scope} {cl : List (Str × Addr)} {pos spos : Pos} {ds : List D} (G : Own C n) (hi : Ei C (rd ρ) iter ds) (hds : ds.length ≤ 16777216) (H : CompOk C scope cl x (rd ρ) ρ') (p : D → Bool) (g : D → D)
    (test : ∀ Ca, Good (C.comp scope cl Ca) n → ∀ d ∈ ds, Et (C.comp scope cl Ca) ((x, d) :: ρ') t (p d))
    (body : ∀ Ca, Good (C.comp scope cl Ca) n → ∀ d ∈ ds, p d = true → En (C.comp scope cl Ca) ((x, d) :: ρ') elt (g d))
    (hown : own = true → ∀ d ∈ (ds.filter p).map g, d.atom) (hy : Stor C y) (hr : Rm y ρ ρ₁)
    (hsw : swapsWith (.ListComp elt [⟨.Name x px, iter, [t], 0⟩] scope pos) (some (.Name y py)) spos.line C.env = pure true) (hs : ∀ x, foldedSetIterable iter C.env x = pure x) :
    Xe C ρ (.Assign [.Name y py] (.ListComp elt [⟨.Name x px, iter, [t], 0⟩] scope pos) spos) (.next ((y, own, .list ((ds.filter p).map g)) :: ρ₁)) :=
  ⟨.compG G hi.h hds H p g (fun Ca d hd => .one (test Ca (G.toGood.comp H.kind cl Ca) d hd).h) (fun Ca d hd h => (body Ca (G.toGood.comp H.kind cl Ca) d hd h).h) hown hy hr hsw hs⟩
theorem X.compS {own : Bool} {elt iter : Expr} {x y : Str} {px py : Pos} {scope : Scope} {cl : List (Str × Addr)} {pos spos : Pos} {ds : List D} (G : Own C n) (hi : Es C ρ iter ds) (hds : ds.length ≤ 16777216) (H : CompOk C scope cl x (rd ρ) ρ') (g : D → D)
    (body : ∀ Ca, Good (C.comp scope cl Ca) n → ∀ d ∈ ds, En (C.comp scope cl Ca) ((x, d) :: ρ') elt (g d))
    (hown : own = true → ∀ d ∈ ds.map g, d.atom) (hy : Stor C y) (hr : Rm y ρ ρ₁)
    (hsw : swapsWith (.ListComp elt [⟨.Name x px, iter, [], 0⟩] scope pos) (some (.Name y py)) spos.line C.env = pure true) (hs : ∀ x, foldedSetIterable iter C.env x = pure x) :
    Xe C ρ (.Assign [.Name y py] (.ListComp elt [⟨.Name x px, iter, [], 0⟩] scope pos) spos) (.next ((y, own, .list (ds.map g)) :: ρ₁)) := by
  have := Ex.compS (own := own) (pos := pos) (px := px) (py := py) (spos := spos) (elt := elt) G hi.h hds H (fun _ => true) g (ifs := []) (fun _ _ _ => .nil) (fun Ca d hd _ => (body Ca (G.toGood.comp H.kind cl Ca) d hd).h) (by rw [filter_all]; exact hown) hy hr hsw hs
  rw [filter_all] at this
  exact ⟨this⟩
end

section
variable {C : Cx} {n : Nat}
theorem N.one {x : Str} {name qual : Str} {params : Arguments} {body : List Stmt} {scope : Scope} {dV kV doc pm cdv ct oc : Value} {an od : Option Addr} {osl : Array (Option Value)} {f : Addr} {a d : D} (G : Good C (n + 1))
    (ho : C.K.lookup f = some ⟨oc, od, .func (fnX name qual params body scope [] dV kV doc pm an cdv ct), osl⟩) (hcd : codeIn C.K cdv qual = true)
    (hbind : ∀ v, bindArgs (fnX name qual params body scope [] dV kV doc pm an cdv ct) ⟨[v], []⟩ = pure [(x, v)]) (hx : scope.names.lookup x = some .local)
    (hcell : ∀ x ∈ scope.names, x.2 ≠ .cell)
    (h : ∀ (h₀ : Heap) L, Own (C.callee (envX qual scope L f cdv []) h₀ L true) n → Xs (C.callee (envX qual scope L f cdv []) h₀ L true) [(x, false, a)] body (.ret d))
    (hco : scope.isCoroutine = false) (hgen : scope.isGenerator = false) (hk : scope.kind = .function) : Ff C f [a] d :=
  ⟨fn_one G ho hcd hbind hx hcell (fun h₀ L O => (h h₀ L O).h) hco hgen hk⟩
theorem N.more {x y : Str} {name qual : Str} {params : Arguments} {body : List Stmt} {scope : Scope} {dV kV doc pm cdv ct oc : Value} {an od : Option Addr} {osl : Array (Option Value)} {f : Addr} {a b d : D} (G : Good C (n + 1))
    (ho : C.K.lookup f = some ⟨oc, od, .func (fnX name qual params body scope [] dV kV doc pm an cdv ct), osl⟩) (hcd : codeIn C.K cdv qual = true)
    (hbind : ∀ v u, bindArgs (fnX name qual params body scope [] dV kV doc pm an cdv ct) ⟨[v, u], []⟩ = (do let t ← newTuple [u]; pure [(x, v), (y, t)])) (hx : scope.names.lookup x = some .local) (hy : scope.names.lookup y = some .local) (hxy : (x == y) = false)
    (hcell : ∀ x ∈ scope.names, x.2 ≠ .cell)
    (h : ∀ (h₀ : Heap) L, Own (C.callee (envX qual scope L f cdv []) h₀ L true) n → Xs (C.callee (envX qual scope L f cdv []) h₀ L true) [(x, false, a), (y, false, .tup [b])] body (.ret d))
    (hco : scope.isCoroutine = false) (hgen : scope.isGenerator = false) (hk : scope.kind = .function) : Ff C f [a, b] d :=
  ⟨fn_more G ho hcd hbind hx hy hxy hcell (fun h₀ L O => (h h₀ L O).h) hco hgen hk⟩
theorem N.cells {x y : Str} {name qual : Str} {params : Arguments} {body : List Stmt} {scope : Scope} {dV kV doc pm cdv ct oc : Value} {an od : Option Addr} {osl : Array (Option Value)} {f : Addr} {a b d : D} (G : Good C (n + 1))
    (ho : C.K.lookup f = some ⟨oc, od, .func (fnX name qual params body scope [] dV kV doc pm an cdv ct), osl⟩) (hcd : codeIn C.K cdv qual = true)
    (hbind : ∀ v u, bindArgs (fnX name qual params body scope [] dV kV doc pm an cdv ct) ⟨[v, u], []⟩ = pure [(x, v), (y, u)]) (hx : scope.names.lookup x = some .cell) (hy : scope.names.lookup y = some .cell)
    (hnd : ((cellsFrom 0 scope.names []).map (·.1)).Nodup)
    (hcm : ∀ L v u, bindC (envOfC qual scope L f cdv).kindOf [(x, v), (y, u)] (fun _ => none) x = some v ∧ bindC (envOfC qual scope L f cdv).kindOf [(x, v), (y, u)] (fun _ => none) y = some u)
    (h : ∀ (h₀ : Heap) L, Own (C.callee (envOfC qual scope L f cdv) h₀ L C.tz) n → Xs (C.callee (envOfC qual scope L f cdv) h₀ L C.tz) [(x, false, a), (y, false, b)] body (.ret d))
    (hco : scope.isCoroutine = false) (hgen : scope.isGenerator = false) (hk : scope.kind = .function) : Ff C f [a, b] d :=
  ⟨fn_cells G ho hcd hbind hx hy hnd hcm (fun h₀ L O => (h h₀ L O).h) hco hgen hk⟩
end
end Mine
end

section
open PySem PySem.W PyProof.Rows
namespace Mine
local macro_rules | `(tactic| walk_at "mem") => `(tactic| first | (with_reducible exact List.mem_cons_self) | (refine' List.mem_cons_of_mem _ ?_; walk_at "mem"))
local macro_rules | `(tactic| walk_at "bi") => `(tactic| exact Built.mk (built_no (by assumption) (by kernel_rfl)) (by kernel_rfl) (by decide) rfl (by decide))
local macro_rules | `(tactic| walk_at "rm") => `(tactic| first | exact Rm.nil | (with_reducible refine' Rm.skip ?b; case b => walk_at "rm") | (refine' Rm.keep ?a ?b; (case a => decide); (case b => walk_at "rm")))
local macro_rules | `(tactic| walk_at "nm") => `(tactic| first | (with_reducible refine' E.nmR ?g ?m ?h; (case g => assumption); (case m => walk_at "mem"); (case h => decide)) | (with_reducible refine' E.nm ?g ?m ?h; (case g => assumption); (case m => walk_at "mem"); (case h => decide)))
local macro_rules | `(tactic| walk_at "side") => `(tactic| first | assumption | decide | omega)
local macro_rules | `(tactic| walk_at "ev") => `(tactic| first
  | with_reducible exact E.int _ _ _
  | with_reducible exact E.str _ _ _
  | with_reducible exact E.bool _ _ _
  | walk_at "nm"
  | (with_reducible refine' E.add ?a ?b; (case a => walk_at "ev"); (case b => walk_at "ev"))
  | (with_reducible refine' E.sub ?a ?b; (case a => walk_at "ev"); (case b => walk_at "ev"))
  | (with_reducible refine' E.mul ?a ?b ?c; (case a => walk_at "ev"); (case b => walk_at "ev"); (case c => walk_at "side"))
  | (with_reducible refine' E.mod ?a ?b ?c; (case a => walk_at "ev"); (case b => walk_at "ev"); (case c => walk_at "side"))
  | (with_reducible refine' E.fdiv ?a ?b ?c ?d; (case a => walk_at "ev"); (case b => walk_at "ev"); (case c => walk_at "side"); (case d => walk_at "side"))
  | (with_reducible refine' E.band ?a ?b; (case a => walk_at "ev"); (case b => walk_at "ev")))

section
open PySem PySem.W PyProof.Rows
set_option Elab.async false
set_option maxRecDepth 100000
set_option linter.unusedVariables false




section
variable {C : Cx} {n : Nat} {P : PySem.Params}

theorem f_IFMT (G : Good C (n + 1)) (hK : C.K = hd.heap_1 P) (m : Int) : Ff C 150 [.int m] (.int (Builtin.bitAnd m 61440)) := by
  refine' N.one (x := "mode") (n := n) G (look_at hK (by exact rfl)) (code_at hK (by kernel_rfl)) (fun v => rfl) rfl (by decide) (fun h₀ L O => ?_) rfl rfl rfl
  have G' := O.toGood
  exact X.end (X.ret O (by walk_at "ev") trivial)
theorem f_ISDIR (G : Good C (n + 2)) (hK : C.K = hd.heap_1 P) (m : Int) : Ff C 157 [.int m] (.bool (Builtin.bitAnd m 61440 == 16384)) := by
  refine' N.one (x := "mode") (n := n + 1) G (look_at hK (by exact rfl)) (code_at hK (by kernel_rfl)) (fun v => rfl) rfl (by decide) (fun h₀ L O => ?_) rfl rfl rfl
  have G' := O.toGood
  exact X.end (X.ret O (E.cmp (E.read (E.fn G' (f_IFMT G' hK m) (V.cons (by walk_at "nm") V.nil rfl) (top_at hK (by kernel_rfl)) (keep_at hK (by kernel_rfl)) rfl (by decide) rfl rfl)) (E.topInt G' (top_at hK (by exact rfl)) rfl (by decide)) (Cmp.eqInt _ _) (by with_unfolding_all rfl)) trivial)
theorem f_sep (G : Good C (n + 1)) (hK : C.K = hd.heap_1 P) (x : Str) : Ff C 129 [.str x] (.str "/") := by
  refine' N.one (x := "path") (n := n) G (look_at hK (by exact rfl)) (code_at hK (by kernel_rfl)) (fun v => rfl) rfl (by decide) (fun h₀ L O => ?_) rfl rfl rfl
  have G' := O.toGood
  exact X.end (X.ifF O (T.bool (E.isBytes G' (by walk_at "bi") (by walk_at "nm") (E.builtTy G' (by walk_at "bi")) rfl rfl rfl) rfl) (X.end (X.ret O (E.str _ _ _) trivial)))
theorem f_fspath (G : Good C (n + 1)) (hK : C.K = hd.heap_1 P) (x : Str) : Ff C 115 [.str x] (.str x) := by
  refine' N.one (x := "path") (n := n) G (look_at hK (by exact rfl)) (code_at hK (by kernel_rfl)) (fun v => rfl) rfl (by decide) (fun h₀ L O => ?_) rfl rfl rfl
  have G' := O.toGood
  refine' X.cons (X.set O (E.typeS G' (by walk_at "bi") (by walk_at "nm") rfl) trivial (.inl rfl) (by walk_at "rm") rfl) ?_
  exact X.end (X.ifT O (T.bool (E.isSub G' (by walk_at "bi") (by walk_at "nm") (E.read (E.tup (V.consN (E.new trivial (E.builtTy G' (by walk_at "bi"))) (V.consN (E.new trivial (E.builtTy G' (by walk_at "bi"))) V.nilN rfl) rfl) (by decide))) rfl rfl rfl) rfl) (X.end (X.ret O (by walk_at "nm") trivial)))

def joinP (x y : Str) : Str := if Txt.endswith x "/" = true then x ++ y else x ++ ("/" ++ y)
theorem f_join (G : Good C (n + 2)) (hK : C.K = hd.heap_1 P) (x y : Str) (hy : Txt.startswith y "/" = false) (hx : x.length ≠ 0) (hs : x.length + y.length + 1 ≤ 16777216) : Ff C 136 [.str x, .str y] (.str (joinP x y)) := by
  refine' N.more (x := "a") (y := "p") (n := n + 1) G (look_at hK (by exact rfl)) (code_at hK (by kernel_rfl)) (fun v u => rfl) rfl rfl (by decide) (by decide) (fun h₀ L O => ?_) rfl rfl rfl
  have G' := O.toGood
  refine' X.cons (X.set O (E.read (E.fn G' (f_fspath G' hK x) (V.cons (by walk_at "nm") V.nil rfl) (top_at hK (by kernel_rfl)) (keep_at hK (by kernel_rfl)) rfl (by decide) rfl rfl)) trivial (.inl rfl) (by walk_at "rm") rfl) ?_
  refine' X.cons (X.set O (E.read (E.fn G' (f_sep G' hK x) (V.cons (by walk_at "nm") V.nil rfl) (top_at hK (by kernel_rfl)) (keep_at hK (by kernel_rfl)) rfl (by decide) rfl rfl)) trivial (.inl rfl) (by walk_at "rm") rfl) ?_
  refine' X.cons (X.set (d := .str x) O (by walk_at "nm") trivial (.inl rfl) (by walk_at "rm") rfl) ?_
  have l1 : (Str.ofString "/").length = 1 := by decide
  refine' X.cons (ρ₁ := [("path", false, .str (joinP x y)), ("b", false, .str y), ("sep", false, .str "/"), ("a", false, .str x), ("p", false, .tup [.str y])]) (X.try (X.cons (X.for [.str y] (fun i => match i with
    | 0 => [("path", false, .str x), ("sep", false, .str "/"), ("a", false, .str x), ("p", false, .tup [.str y])]
    | _ => [("path", false, .str (joinP x y)), ("b", false, .str y), ("sep", false, .str "/"), ("a", false, .str x), ("p", false, .tup [.str y])]) O
    (F.tup O (by walk_at "mem") (by decide)) rfl rfl (fun i d hd => ?turn) (fun _ => rfl)) X.nil)) ?rest
  case turn =>
    match i, hd with
    | 0, hd =>
      cases hd
      refine' ⟨_, A.name O (.inl rfl) (by walk_at "rm"), ?_⟩
      refine' X.cons (X.set O (E.read (E.fn G' (f_fspath G' hK y) (V.cons (by walk_at "nm") V.nil rfl) (top_at hK (by kernel_rfl)) (keep_at hK (by kernel_rfl)) rfl (by decide) rfl rfl)) trivial (.inl rfl) (by walk_at "rm") rfl) ?_
      refine' X.cons (X.ifF O (T.cast (T.or (T.bool (E.startswith (by walk_at "nm") (by walk_at "nm") ⟨⟨_, rfl⟩⟩ rfl) rfl) (fun _ => T.not (T.str (by walk_at "nm") (by omega) rfl))) ?c) ?b) X.nil
      case c =>
        rw [hy]
        have : ((x.length : Int) != 0) = true := by simpa using hx
        rw [this]
        rfl
      case b =>
        refine' X.cons (X.if O (T.bool (E.endswith (by walk_at "nm") (by walk_at "nm") ⟨⟨_, rfl⟩⟩ rfl) rfl) (fun h => ?t) (fun h => ?f)) X.nil
        case t =>
          have e : joinP x y = x ++ y := if_pos h
          rw [e]
          exact X.cons (X.augS O (by walk_at "mem") (by walk_at "nm") (by omega) (.inl rfl) (by walk_at "rm")) X.nil
        case f =>
          have e : joinP x y = x ++ ("/" ++ y) := if_neg (by rw [h]; exact Bool.false_ne_true)
          rw [e]
          exact X.cons (X.augS O (by walk_at "mem") (E.cat (by walk_at "nm") (by walk_at "nm") (by omega)) (by rw [Str.length_append]; omega) (.inl rfl) (by walk_at "rm")) X.nil
    | i + 1, hd => simp at hd
  case rest => exact X.end (X.ret O (by walk_at "nm") trivial)

def dirH (x : Str) : Str := Txt.slice x none (some (Txt.rfind x "/" + 1))
def dirP (x : Str) : Str := if (((dirH x).length : Int) != 0 && dirH x != Txt.mul "/" (dirH x).length) = true then Txt.rstripChars (dirH x) "/" else dirH x
theorem f_dirname (G : Good C (n + 2)) (hK : C.K = hd.heap_1 P) (x : Str) (hx : x.length ≤ 16777216) : Ff C 143 [.str x] (.str (dirP x)) := by
  refine' N.one (x := "p") (n := n + 1) G (look_at hK (by exact rfl)) (code_at hK (by kernel_rfl)) (fun v => rfl) rfl (by decide) (fun h₀ L O => ?_) rfl rfl rfl
  have G' := O.toGood
  have hh : (dirH x).length ≤ 16777216 := Nat.le_trans (Txt.slice_le _ _ _) hx
  refine' X.cons (X.set O (E.read (E.fn G' (f_fspath G' hK x) (V.cons (by walk_at "nm") V.nil rfl) (top_at hK (by kernel_rfl)) (keep_at hK (by kernel_rfl)) rfl (by decide) rfl rfl)) trivial (.inl rfl) (by walk_at "rm") rfl) ?_
  refine' X.cons (X.set O (E.read (E.fn G' (f_sep G' hK x) (V.cons (by walk_at "nm") V.nil rfl) (top_at hK (by kernel_rfl)) (keep_at hK (by kernel_rfl)) rfl (by decide) rfl rfl)) trivial (.inl rfl) (by walk_at "rm") rfl) ?_
  refine' X.cons (X.set O (E.add (E.rfind (by walk_at "nm") (by walk_at "nm") ⟨⟨_, rfl⟩⟩ rfl) (E.int _ _ _)) trivial (.inl rfl) (by walk_at "rm") rfl) ?_
  refine' X.cons (X.set (d := .str (dirH x)) O (E.sUpto (by walk_at "nm") (by walk_at "nm") hx) trivial (.inl rfl) (by walk_at "rm") rfl) ?_
  refine' X.cons (ρ₁ := [("head", false, .str (dirP x))]) (X.if O (T.and (T.str (by walk_at "nm") hh rfl) (fun _ => T.cmp (by walk_at "nm") (E.mulS (by walk_at "nm") (E.lenS G' (by walk_at "bi") (by walk_at "nm") hh rfl) (by decide) hh) (Cmp.neStr _ _) (by with_unfolding_all rfl))) (fun h => ?t) (fun h => ?f)) ?rest
  case t =>
    have e : dirP x = Txt.rstripChars (dirH x) "/" := if_pos h
    rw [e]
    refine' X.cons (X.set O (E.rstrip (by walk_at "nm") (by walk_at "nm") hh ⟨⟨_, rfl⟩⟩ rfl) trivial (.inl rfl) (by walk_at "rm") rfl) (X.drop fun e he => ?_)
    rw [List.mem_singleton.mp he]
    exact .head _
  case f =>
    have e : dirP x = dirH x := if_neg (by rw [h]; exact Bool.false_ne_true)
    rw [e]
    refine' X.drop fun e he => ?_
    rw [List.mem_singleton.mp he]
    exact .head _
  case rest => exact X.end (X.ret O (by walk_at "nm") trivial)
end
end

section
open PySem PySem.W PyProof.Rows
set_option Elab.async false
set_option maxRecDepth 100000
set_option linter.unusedVariables false



def esc1 (y z x : Str) : Str := if Txt.contains x y = true then Txt.replace x y z else x
theorem len_replace (x y z : Str) : (Txt.replace x y z).length ≤ x.length + (x.length + 1) * z.length := by
  unfold Txt.replace
  split
  · exact Nat.le_add_right _ _
  · have h1 := StrLaws.occ_length_le x y 0 x.length (x.length + 1)
    have hy : (Builtin.Str.glued y (Builtin.Str.partsBetween x (Builtin.Str.occurrences x y 0 x.length (x.length + 1)) y.length)).length = x.length := by rw [StrLaws.glued_between_self]
    rw [size_glued, length_partsBetween, Nat.add_sub_cancel] at hy
    rw [size_glued, length_partsBetween, Nat.add_sub_cancel]
    have h2 : (Builtin.Str.occurrences x y 0 x.length (x.length + 1)).length * z.length ≤ (x.length + 1) * z.length := Nat.mul_le_mul_right _ h1
    omega
theorem len_esc1 (x y z : Str) {a b : Nat} (hx : x.length ≤ a) (hz : z.length = b) : (esc1 y z x).length ≤ a + (a + 1) * b := by
  have : (a + 1) * b ≥ (x.length + 1) * b := Nat.mul_le_mul_right _ (by omega)
  unfold esc1
  split
  · have := len_replace x y z
    rw [hz] at this
    omega
  · omega
def escA (x : Str) : Str := esc1 ">" "&gt;" (esc1 "<" "&lt;" (esc1 "&" "&amp;" x))
def escC (x : Str) : Str := esc1 "\r" "&#xD;" (escA x)

section
variable {C : Cx} {n : Nat} {P : PySem.Params}
theorem hb_of {x z : Str} {a b : Nat} (hx : x.length ≤ a) (hz : z.length = b) (h : a + (a + 1) * b ≤ 16777216) : x.length + (x.length + 1) * z.length ≤ 16777216 := by
  have : (a + 1) * b ≥ (x.length + 1) * b := Nat.mul_le_mul_right _ (by omega)
  rw [hz]
  omega
theorem f_escA (G : Good C (n + 1)) (hK : C.K = hd.heap_1 P) (x : Str) (hx : x.length ≤ 100) : Ff C 35 [.str x] (.str (escA x)) := by
  refine' N.one (x := "text") (n := n) G (look_at hK (by exact rfl)) (code_at hK (by kernel_rfl)) (fun v => rfl) rfl (by decide) (fun h₀ L O => ?_) rfl rfl rfl
  have G' := O.toGood
  have z1 : (Str.ofString "&amp;").length = 5 := by decide
  have z2 : (Str.ofString "&lt;").length = 4 := by decide
  have z3 : (Str.ofString "&gt;").length = 4 := by decide
  have b1 := hb_of hx z1 (by decide)
  have l1 := len_esc1 x "&" "&amp;" hx z1
  have b2 := hb_of l1 z2 (by decide)
  have l2 := len_esc1 (esc1 "&" "&amp;" x) "<" "&lt;" l1 z2
  have b3 := hb_of l2 z3 (by decide)
  refine' X.end (X.try ?_)
  refine' X.cons (ρ₁ := [("text", false, .str (esc1 "&" "&amp;" x))]) ?a ?b
  case a =>
    refine' X.if O (T.cmp (E.str _ _ _) (by walk_at "nm") (Cmp.inStr _ _) (by with_unfolding_all rfl)) (fun h => ?t) (fun h => ?f)
    case t =>
      have e : esc1 "&" "&amp;" x = Txt.replace x "&" "&amp;" := if_pos h
      rw [e]
      exact X.cons (X.set O (E.repl rfl (by walk_at "nm") (by decide) b1 ⟨⟨_, rfl⟩⟩) trivial (.inl rfl) (by walk_at "rm") rfl) X.nil
    case f =>
      have e : esc1 "&" "&amp;" x = x := if_neg (by rw [h]; exact Bool.false_ne_true)
      rw [e]
      exact X.nil
  refine' X.cons (ρ₁ := [("text", false, .str (esc1 "<" "&lt;" (esc1 "&" "&amp;" x)))]) ?c ?d
  case c =>
    refine' X.if O (T.cmp (E.str _ _ _) (by walk_at "nm") (Cmp.inStr _ _) (by with_unfolding_all rfl)) (fun h => ?t) (fun h => ?f)
    case t =>
      have e : esc1 "<" "&lt;" (esc1 "&" "&amp;" x) = Txt.replace (esc1 "&" "&amp;" x) "<" "&lt;" := if_pos h
      rw [e]
      exact X.cons (X.set O (E.repl rfl (by walk_at "nm") (by decide) b2 ⟨⟨_, rfl⟩⟩) trivial (.inl rfl) (by walk_at "rm") rfl) X.nil
    case f =>
      have e : esc1 "<" "&lt;" (esc1 "&" "&amp;" x) = (esc1 "&" "&amp;" x) := if_neg (by rw [h]; exact Bool.false_ne_true)
      rw [e]
      exact X.nil
  refine' X.cons (ρ₁ := [("text", false, .str (escA x))]) ?e ?ef
  case e =>
    unfold escA
    refine' X.if O (T.cmp (E.str _ _ _) (by walk_at "nm") (Cmp.inStr _ _) (by with_unfolding_all rfl)) (fun h => ?t) (fun h => ?f)
    case t =>
      have e : esc1 ">" "&gt;" (esc1 "<" "&lt;" (esc1 "&" "&amp;" x)) = Txt.replace (esc1 "<" "&lt;" (esc1 "&" "&amp;" x)) ">" "&gt;" := if_pos h
      rw [e]
      exact X.cons (X.set O (E.repl rfl (by walk_at "nm") (by decide) b3 ⟨⟨_, rfl⟩⟩) trivial (.inl rfl) (by walk_at "rm") rfl) X.nil
    case f =>
      have e : esc1 ">" "&gt;" (esc1 "<" "&lt;" (esc1 "&" "&amp;" x)) = (esc1 "<" "&lt;" (esc1 "&" "&amp;" x)) := if_neg (by rw [h]; exact Bool.false_ne_true)
      rw [e]
      exact X.nil
  exact X.end (X.ret (d := .str _) O (by walk_at "nm") trivial)
theorem f_escC (G : Good C (n + 1)) (hK : C.K = hd.heap_1 P) (x : Str) (hx : x.length ≤ 100) : Ff C 42 [.str x] (.str (escC x)) := by
  refine' N.one (x := "text") (n := n) G (look_at hK (by exact rfl)) (code_at hK (by kernel_rfl)) (fun v => rfl) rfl (by decide) (fun h₀ L O => ?_) rfl rfl rfl
  have G' := O.toGood
  have z1 : (Str.ofString "&amp;").length = 5 := by decide
  have z2 : (Str.ofString "&lt;").length = 4 := by decide
  have z3 : (Str.ofString "&gt;").length = 4 := by decide
  have b1 := hb_of hx z1 (by decide)
  have l1 := len_esc1 x "&" "&amp;" hx z1
  have b2 := hb_of l1 z2 (by decide)
  have l2 := len_esc1 (esc1 "&" "&amp;" x) "<" "&lt;" l1 z2
  have b3 := hb_of l2 z3 (by decide)
  have z4 : (Str.ofString "&#xD;").length = 5 := by decide
  have l3 := len_esc1 (esc1 "<" "&lt;" (esc1 "&" "&amp;" x)) ">" "&gt;" l2 z3
  have b4 : (escA x).length + ((escA x).length + 1) * (Str.ofString "&#xD;").length ≤ 16777216 := hb_of l3 z4 (by decide)
  refine' X.end (X.try ?_)
  refine' X.cons (ρ₁ := [("text", false, .str (esc1 "&" "&amp;" x))]) ?a ?b
  case a =>
    refine' X.if O (T.cmp (E.str _ _ _) (by walk_at "nm") (Cmp.inStr _ _) (by with_unfolding_all rfl)) (fun h => ?t) (fun h => ?f)
    case t =>
      have e : esc1 "&" "&amp;" x = Txt.replace x "&" "&amp;" := if_pos h
      rw [e]
      exact X.cons (X.set O (E.repl rfl (by walk_at "nm") (by decide) b1 ⟨⟨_, rfl⟩⟩) trivial (.inl rfl) (by walk_at "rm") rfl) X.nil
    case f =>
      have e : esc1 "&" "&amp;" x = x := if_neg (by rw [h]; exact Bool.false_ne_true)
      rw [e]
      exact X.nil
  refine' X.cons (ρ₁ := [("text", false, .str (esc1 "<" "&lt;" (esc1 "&" "&amp;" x)))]) ?c ?d
  case c =>
    refine' X.if O (T.cmp (E.str _ _ _) (by walk_at "nm") (Cmp.inStr _ _) (by with_unfolding_all rfl)) (fun h => ?t) (fun h => ?f)
    case t =>
      have e : esc1 "<" "&lt;" (esc1 "&" "&amp;" x) = Txt.replace (esc1 "&" "&amp;" x) "<" "&lt;" := if_pos h
      rw [e]
      exact X.cons (X.set O (E.repl rfl (by walk_at "nm") (by decide) b2 ⟨⟨_, rfl⟩⟩) trivial (.inl rfl) (by walk_at "rm") rfl) X.nil
    case f =>
      have e : esc1 "<" "&lt;" (esc1 "&" "&amp;" x) = (esc1 "&" "&amp;" x) := if_neg (by rw [h]; exact Bool.false_ne_true)
      rw [e]
      exact X.nil
  refine' X.cons (ρ₁ := [("text", false, .str (escA x))]) ?e ?ef
  case e =>
    unfold escA
    refine' X.if O (T.cmp (E.str _ _ _) (by walk_at "nm") (Cmp.inStr _ _) (by with_unfolding_all rfl)) (fun h => ?t) (fun h => ?f)
    case t =>
      have e : esc1 ">" "&gt;" (esc1 "<" "&lt;" (esc1 "&" "&amp;" x)) = Txt.replace (esc1 "<" "&lt;" (esc1 "&" "&amp;" x)) ">" "&gt;" := if_pos h
      rw [e]
      exact X.cons (X.set O (E.repl rfl (by walk_at "nm") (by decide) b3 ⟨⟨_, rfl⟩⟩) trivial (.inl rfl) (by walk_at "rm") rfl) X.nil
    case f =>
      have e : esc1 ">" "&gt;" (esc1 "<" "&lt;" (esc1 "&" "&amp;" x)) = (esc1 "<" "&lt;" (esc1 "&" "&amp;" x)) := if_neg (by rw [h]; exact Bool.false_ne_true)
      rw [e]
      exact X.nil
  refine' X.cons (ρ₁ := [("text", false, .str (escC x))]) ?g ?gh
  case g =>
    unfold escC
    refine' X.if O (T.cmp (E.str _ _ _) (by walk_at "nm") (Cmp.inStr _ _) (by with_unfolding_all rfl)) (fun h => ?t) (fun h => ?f)
    case t =>
      have e : esc1 "\r" "&#xD;" (escA x) = Txt.replace (escA x) "\r" "&#xD;" := if_pos h
      rw [e]
      exact X.cons (X.set O (E.repl rfl (by walk_at "nm") (by decide) b4 ⟨⟨_, rfl⟩⟩) trivial (.inl rfl) (by walk_at "rm") rfl) X.nil
    case f =>
      have e : esc1 "\r" "&#xD;" (escA x) = (escA x) := if_neg (by rw [h]; exact Bool.false_ne_true)
      rw [e]
      exact X.nil
  exact X.end (X.ret (d := .str _) O (by walk_at "nm") trivial)
end
end

section
open PySem PySem.W PyProof.Rows
set_option Elab.async false
set_option maxRecDepth 100000
set_option linter.unusedVariables false




/-! the law's own signs and ranks -/
def figI (n pl : Int) : Int := (n.fdiv pl).fmod 8
def onI (n ab : Int) : Bool := (n.fdiv ab).fmod 2 == 1
def sg (c : Bool) (x y : Str) : Str := if c = true then x else y
def trio (n pl ab : Int) (sm gr told : Str) : Str :=
  ((told ++ sg ((figI n pl).fdiv 4 == 1) "r" "-") ++ sg (((figI n pl).fdiv 2).fmod 2 == 1) "w" "-") ++ (if onI n ab = true then sg ((figI n pl).fmod 2 == 1) sm gr else sg ((figI n pl).fmod 2 == 1) "x" "-")
def told0 (n : Int) : Str := sg ((n.fdiv 16384).fmod 2 == 1) "d" "-"
def told1 (n : Int) : Str := trio n 64 2048 "s" "S" (told0 n)
def told2 (n : Int) : Str := trio n 8 1024 "s" "S" (told1 n)
def told3 (n : Int) : Str := trio n 1 512 "t" "T" (told2 n)
def toldS (n : Int) : Nat → Str
  | 0 => told0 n
  | 1 => told1 n
  | 2 => told2 n
  | _ => told3 n
theorem len_sg (c : Bool) {x y : Str} (hx : x.length = 1) (hy : y.length = 1) : (sg c x y).length = 1 := by unfold sg; split <;> assumption
theorem len_trio (n pl ab : Int) {sm gr : Str} (told : Str) (h1 : sm.length = 1) (h2 : gr.length = 1) : (trio n pl ab sm gr told).length = told.length + 3 := by
  unfold trio
  have e1 := len_sg ((figI n pl).fdiv 4 == 1) (x := "r") (y := "-") (by decide) (by decide)
  have e2 := len_sg (((figI n pl).fdiv 2).fmod 2 == 1) (x := "w") (y := "-") (by decide) (by decide)
  have e3 := len_sg ((figI n pl).fmod 2 == 1) h1 h2
  have e4 := len_sg ((figI n pl).fmod 2 == 1) (x := "x") (y := "-") (by decide) (by decide)
  rw [Str.length_append, Str.length_append, Str.length_append, e1, e2]
  split <;> omega
theorem len_toldS (n : Int) : (toldS n 0).length = 1 ∧ (toldS n 1).length = 4 ∧ (toldS n 2).length = 7 ∧ (toldS n 3).length = 10 := by
  have h0 : (told0 n).length = 1 := len_sg _ (by decide) (by decide)
  have h1 : (told1 n).length = 4 := by rw [told1, len_trio _ _ _ _ (by decide) (by decide), h0]
  have h2 : (told2 n).length = 7 := by rw [told2, len_trio _ _ _ _ (by decide) (by decide), h1]
  exact ⟨h0, h1, h2, by show (told3 n).length = 10; rw [told3, len_trio _ _ _ _ (by decide) (by decide), h2]⟩

section
variable {C : Cx} {n : Nat} {P : PySem.Params}
theorem f_signs (G : Good C (n + 1)) (hK : C.K = hd.heap_1 P) (m : Int) : Ff C 204 [.int m] (.str (told3 m)) := by
  refine' N.one (x := "number") (n := n) G (look_at hK (by exact rfl)) (code_at hK (by kernel_rfl)) (fun v => rfl) rfl (by decide) (fun h₀ L O => ?_) rfl rfl rfl
  have G' := O.toGood
  refine' X.cons (ρ₁ := [("told", false, .str (toldS m 0)), ("number", false, .int m)]) (X.set O (E.iteS (T.cmp (by walk_at "ev") (E.int _ _ _) (Cmp.eqInt _ _) (by with_unfolding_all rfl)) (E.str _ _ _) (E.str _ _ _)) trivial (.inl rfl) (by walk_at "rm") rfl) ?_
  refine' X.cons (ρ₁ := [("told", false, .str (told3 m)), ("number", false, .int m)]) (X.for [.tup [.int 64, .int 2048, .str "s", .str "S"], .tup [.int 8, .int 1024, .str "s", .str "S"], .tup [.int 1, .int 512, .str "t", .str "T"]] (fun i => [("told", false, .str (toldS m i)), ("number", false, .int m)]) O
    (F.newTup O (E.tup (V.consN (E.tup (V.consN (E.new trivial (E.int _ _ _)) (V.consN (E.new trivial (E.int _ _ _)) (V.consN (E.new trivial (E.str _ _ _)) (V.consN (E.new trivial (E.str _ _ _)) V.nilN rfl) rfl) rfl) rfl) (by decide)) (V.consN (E.tup (V.consN (E.new trivial (E.int _ _ _)) (V.consN (E.new trivial (E.int _ _ _)) (V.consN (E.new trivial (E.str _ _ _)) (V.consN (E.new trivial (E.str _ _ _)) V.nilN rfl) rfl) rfl) rfl) (by decide)) (V.consN (E.tup (V.consN (E.new trivial (E.int _ _ _)) (V.consN (E.new trivial (E.int _ _ _)) (V.consN (E.new trivial (E.str _ _ _)) (V.consN (E.new trivial (E.str _ _ _)) V.nilN rfl) rfl) rfl) rfl) (by decide)) V.nilN rfl) rfl) rfl) (by decide))) rfl rfl (fun i d hd => ?turn) (fun _ => rfl)) ?rest
  case turn =>
    obtain ⟨pl, ab, sm, gr, rfl, hp, hp', ha, ha', hsm, hgr, hst, hlen⟩ : ∃ (pl ab : Int) (sm gr : Str), d = .tup [.int pl, .int ab, .str sm, .str gr] ∧ pl ≠ 0 ∧ pl.natAbs < 2 ^ 64 ∧ ab ≠ 0 ∧ ab.natAbs < 2 ^ 64 ∧ sm.length = 1 ∧ gr.length = 1 ∧ toldS m (i + 1) = trio m pl ab sm gr (toldS m i) ∧ (toldS m i).length ≤ 7 := by
      have := len_toldS m
      match i, hd with
      | 0, hd => cases hd; exact ⟨_, _, _, _, rfl, by decide, by decide, by decide, by decide, by decide, by decide, rfl, by omega⟩
      | 1, hd => cases hd; exact ⟨_, _, _, _, rfl, by decide, by decide, by decide, by decide, by decide, by decide, rfl, by omega⟩
      | 2, hd => cases hd; exact ⟨_, _, _, _, rfl, by decide, by decide, by decide, by decide, by decide, by decide, rfl, by omega⟩
      | i + 3, hd => simp at hd
    rw [hst]
    generalize toldS m i = told at hlen
    have e1 := len_sg ((figI m pl).fdiv 4 == 1) (x := "r") (y := "-") (by decide) (by decide)
    have e2 := len_sg (((figI m pl).fdiv 2).fmod 2 == 1) (x := "w") (y := "-") (by decide) (by decide)
    have e3 := len_sg ((figI m pl).fmod 2 == 1) hsm hgr
    have e4 := len_sg ((figI m pl).fmod 2 == 1) (x := "x") (y := "-") (by decide) (by decide)
    have l1 := Str.length_append told (sg ((figI m pl).fdiv 4 == 1) "r" "-")
    have l2 := Str.length_append (told ++ sg ((figI m pl).fdiv 4 == 1) "r" "-") (sg (((figI m pl).fdiv 2).fmod 2 == 1) "w" "-")
    refine' ⟨_, A.four O (.inl rfl) (.inl rfl) (.inl rfl) (.inl rfl) (by walk_at "rm") (by walk_at "rm") (by walk_at "rm") (by walk_at "rm"), ?_⟩
    refine' X.cons (X.set (d := .int (figI m pl)) O (E.cast (d := .int ((m.fdiv pl).fmod 8)) (by walk_at "ev") rfl) trivial (.inl rfl) (by walk_at "rm") rfl) ?_
    refine' X.cons (X.augS (b := sg ((figI m pl).fdiv 4 == 1) "r" "-") O (by walk_at "mem") (E.iteS (T.cmp (by walk_at "ev") (E.int _ _ _) (Cmp.eqInt _ _) (by with_unfolding_all rfl)) (E.str _ _ _) (E.str _ _ _)) (by omega) (.inl rfl) (by walk_at "rm")) ?_
    refine' X.cons (X.augS (b := sg (((figI m pl).fdiv 2).fmod 2 == 1) "w" "-") O (by walk_at "mem") (E.iteS (T.cmp (by walk_at "ev") (E.int _ _ _) (Cmp.eqInt _ _) (by with_unfolding_all rfl)) (E.str _ _ _) (E.str _ _ _)) (by omega) (.inl rfl) (by walk_at "rm")) ?_
    refine' X.cons (ρ₁ := [("told", false, .str (trio m pl ab sm gr told)), ("number", false, .int m)]) (X.if (c := onI m ab) O (T.cmp (by walk_at "ev") (E.int _ _ _) (Cmp.eqInt _ _) (by with_unfolding_all rfl)) (fun h => ?t) (fun h => ?f)) X.nil
    case t =>
      have e : trio m pl ab sm gr told = ((told ++ sg ((figI m pl).fdiv 4 == 1) "r" "-") ++ sg (((figI m pl).fdiv 2).fmod 2 == 1) "w" "-") ++ sg ((figI m pl).fmod 2 == 1) sm gr := by unfold trio; rw [if_pos h]
      rw [e]
      refine' X.cons (X.augS (b := sg ((figI m pl).fmod 2 == 1) sm gr) O (by walk_at "mem") (E.iteS (T.cmp (by walk_at "ev") (E.int _ _ _) (Cmp.eqInt _ _) (by with_unfolding_all rfl)) (by walk_at "nm") (by walk_at "nm")) (by omega) (.inl rfl) (by walk_at "rm")) (X.drop fun e he => ?_)
      simp only [List.mem_cons, List.not_mem_nil, or_false] at he
      rcases he with rfl | rfl <;> simp
    case f =>
      have e : trio m pl ab sm gr told = ((told ++ sg ((figI m pl).fdiv 4 == 1) "r" "-") ++ sg (((figI m pl).fdiv 2).fmod 2 == 1) "w" "-") ++ sg ((figI m pl).fmod 2 == 1) "x" "-" := by unfold trio; rw [if_neg (by rw [h]; exact Bool.false_ne_true)]
      rw [e]
      refine' X.cons (X.augS (b := sg ((figI m pl).fmod 2 == 1) "x" "-") O (by walk_at "mem") (E.iteS (T.cmp (by walk_at "ev") (E.int _ _ _) (Cmp.eqInt _ _) (by with_unfolding_all rfl)) (E.str _ _ _) (E.str _ _ _)) (by omega) (.inl rfl) (by walk_at "rm")) (X.drop fun e he => ?_)
      simp only [List.mem_cons, List.not_mem_nil, or_false] at he
      rcases he with rfl | rfl <;> simp
  case rest =>
    exact X.end (X.ret (d := .str _) O (by walk_at "nm") trivial)
end
end

section
open PySem PySem.W PyProof.Rows
set_option Elab.async false
set_option maxRecDepth 100000
set_option linter.unusedVariables false




theorem fm2 (x : Int) : 0 ≤ x.fmod 2 ∧ x.fmod 2 < 2 := ⟨Int.fmod_nonneg_of_pos x (by decide), Int.fmod_lt_of_pos x (by decide)⟩
def rkI (k : Int) : Int := if k = 0 then 0 else if k = 1 then 3 else if k = 2 then 1 else 2
def rkAt (n pl ab : Int) : Int := (figI n pl).fmod 2 + 2 * (n.fdiv ab).fmod 2
def rankStep (n pl ab : Int) (t : List Int) : List Int := t ++ [(figI n pl).fdiv 4, ((figI n pl).fdiv 2).fmod 2, rkI (rkAt n pl ab)]
def rank1 (n : Int) : List Int := rankStep n 64 2048 []
def rank2 (n : Int) : List Int := rankStep n 8 1024 (rank1 n)
def rank3 (n : Int) : List Int := rankStep n 1 512 (rank2 n)
def rankS (n : Int) : Nat → List Int
  | 0 => []
  | 1 => rank1 n
  | 2 => rank2 n
  | _ => rank3 n

section
variable {C : Cx} {n : Nat} {P : PySem.Params}
theorem f_rank (G : Good C (n + 1)) (hK : C.K = hd.heap_1 P) (m : Int) : Ff C 211 [.int m] (.list (dI (rank3 m))) := by
  refine' N.one (x := "number") (n := n) G (look_at hK (by exact rfl)) (code_at hK (by kernel_rfl)) (fun v => rfl) rfl (by decide) (fun h₀ L O => ?_) rfl rfl rfl
  have G' := O.toGood
  refine' X.cons (X.empty O (.inl rfl) (by walk_at "rm") rfl) ?_
  refine' X.cons (ρ₁ := [("told", true, .list (dI (rank3 m))), ("number", false, .int m)]) (X.for [.tup [.int 64, .int 2048], .tup [.int 8, .int 1024], .tup [.int 1, .int 512]] (fun i => [("told", true, .list (dI (rankS m i))), ("number", false, .int m)]) O
    (F.newTup O (E.tup (V.consN (E.tup (V.consN (E.new (by trivial) (E.int _ _ _)) (V.consN (E.new (by trivial) (E.int _ _ _)) V.nilN rfl) rfl) (by decide)) (V.consN (E.tup (V.consN (E.new (by trivial) (E.int _ _ _)) (V.consN (E.new (by trivial) (E.int _ _ _)) V.nilN rfl) rfl) (by decide)) (V.consN (E.tup (V.consN (E.new (by trivial) (E.int _ _ _)) (V.consN (E.new (by trivial) (E.int _ _ _)) V.nilN rfl) rfl) (by decide)) V.nilN rfl) rfl) rfl) (by decide)))
    rfl rfl (fun i d hd => ?turn) (fun _ => rfl)) ?rest
  case turn =>
    obtain ⟨pl, ab, rfl, hp, hp', ha, ha', hst, hlen⟩ : ∃ (pl ab : Int), d = .tup [.int pl, .int ab] ∧ pl ≠ 0 ∧ pl.natAbs < 2 ^ 64 ∧ ab ≠ 0 ∧ ab.natAbs < 2 ^ 64 ∧ rankS m (i + 1) = rankStep m pl ab (rankS m i) ∧ (rankS m i).length ≤ 6 := by
      match i, hd with
      | 0, hd => cases hd; exact ⟨_, _, rfl, by decide, by decide, by decide, by decide, rfl, by simp [rankS]⟩
      | 1, hd => cases hd; exact ⟨_, _, rfl, by decide, by decide, by decide, by decide, rfl, by simp [rankS, rank1, rankStep]⟩
      | 2, hd => cases hd; exact ⟨_, _, rfl, by decide, by decide, by decide, by decide, rfl, by simp [rankS, rank2, rank1, rankStep]⟩
      | i + 3, hd => simp at hd
    rw [hst]
    generalize rankS m i = told at hlen
    have hmul : IntMulOk 2 ((m.fdiv ab).fmod 2) := IntMulOk.of_left (by decide)
    have k1 := fm2 (figI m pl)
    have k2 := fm2 (m.fdiv ab)
    have hk : 0 ≤ rkAt m pl ab ∧ rkAt m pl ab < 4 := by unfold rkAt; omega
    have ls : (dI told).length ≤ 6 := by simpa using hlen
    have e : dI (rankStep m pl ab told) = ((dI told ++ [.int ((figI m pl).fdiv 4)]) ++ [.int (((figI m pl).fdiv 2).fmod 2)]) ++ [.int (rkI (rkAt m pl ab))] := by simp [rankStep]
    rw [e]
    refine' ⟨_, A.two O (.inl rfl) (.inl rfl) (by walk_at "rm") (by walk_at "rm"), ?_⟩
    refine' X.cons (X.set (d := .int (figI m pl)) O (E.cast (d := .int ((m.fdiv pl).fmod 8)) (by walk_at "ev") rfl) trivial (.inl rfl) (by walk_at "rm") rfl) ?_
    refine' X.cons (X.append O (by walk_at "mem") (by walk_at "ev") (by walk_at "rm") (by trivial) (by omega) (by exact ⟨⟨_, rfl⟩⟩) (by decide) (by rfl) (by rfl) (by rfl)) ?_
    refine' X.cons (X.append O (by walk_at "mem") (by walk_at "ev") (by walk_at "rm") (by trivial) (by simp; omega) (by exact ⟨⟨_, rfl⟩⟩) (by decide) (by rfl) (by rfl) (by rfl)) ?_
    refine' X.cons (X.append O (by walk_at "mem") (E.idx (k := rkAt m pl ab) (d := .int (rkI (rkAt m pl ab))) (E.read (E.list (V.consN (E.new (by trivial) (E.int _ _ _)) (V.consN (E.new (by trivial) (E.int _ _ _)) (V.consN (E.new (by trivial) (E.int _ _ _)) (V.consN (E.new (by trivial) (E.int _ _ _)) V.nilN rfl) rfl) rfl) rfl) (by decide)))
      (E.cast (d := .int ((figI m pl).fmod 2 + 2 * (m.fdiv ab).fmod 2)) (by walk_at "ev") rfl) hk.1 ?hit (by omega) (fun _ _ => rfl)) (by walk_at "rm") (by trivial) (by simp; omega) (by exact ⟨⟨_, rfl⟩⟩) (by decide) (by rfl) (by rfl) (by rfl)) (X.drop fun e he => ?_)
    case hit =>
      generalize rkAt m pl ab = k at hk
      have : k = 0 ∨ k = 1 ∨ k = 2 ∨ k = 3 := by omega
      rcases this with rfl | rfl | rfl | rfl <;> rfl
    simp only [List.mem_cons, List.not_mem_nil, or_false] at he
    rcases he with rfl | rfl <;> simp
  case rest => exact X.end (X.retOwn O (by walk_at "mem") (by decide))
end
end

section
open PySem PySem.W PySem.Calls PyProof.Rows
set_option Elab.async false
set_option maxRecDepth 100000
set_option linter.unusedVariables false




/-! the file's table -/
mutual
def toD : WData → D
  | .int i => .int i
  | .str x => .str x
  | .tuple xs => .tup (toDs xs)
  | _ => .none
def toDs : List WData → List D
  | [] => []
  | x :: r => toD x :: toDs r
end
mutual
def okW : WData → Bool
  | .int _ => true
  | .str _ => true
  | .tuple xs => okWs xs
  | _ => false
def okWs : List WData → Bool
  | [] => true
  | x :: r => okW x && okWs r
end
mutual
theorem rep_w {R : WRecords} {cl : Str → Option Addr} {h : Heap} : ∀ (d : WData) {v : Value} {as : List Addr}, okW d = true → ReadsW R cl h v d as → Rep h (fun _ => True) v (toD d)
  | .int i, _, _, _, r => by cases r; exact .int _ _
  | .str x, _, _, _, r => by cases r; exact .str _ _
  | .tuple xs, _, _, ok, r => by
    cases r with
    | tuple e c d' r =>
      rename_i vs _
      exact .tup (vs := vs.toList) trivial ⟨_, e, c, _, by simpa using d'⟩ (reps_w xs ok r)
  | .none, _, _, ok, _ => by cases ok
  | .bool _, _, _, ok, _ => by cases ok
  | .list _, _, _, ok, _ => by cases ok
  | .dict _, _, _, ok, _ => by cases ok
  | .float _, _, _, ok, _ => by cases ok
  | .bytes _, _, _, ok, _ => by cases ok
  | .bytearray _, _, _, ok, _ => by cases ok
  | .set _, _, _, ok, _ => by cases ok
  | .frozenset _, _, _, ok, _ => by cases ok
  | .obj _ _, _, _, ok, _ => by cases ok
theorem reps_w {R : WRecords} {cl : Str → Option Addr} {h : Heap} : ∀ (ds : List WData) {vs : List Value} {as : List Addr}, okWs ds = true → ReadsAllW R cl h vs ds as → Reps h (fun _ => True) vs (toDs ds)
  | [], _, _, _, r => by cases r; exact .nil
  | d :: ds, _, _, ok, r => by
    cases r with
    | cons a b =>
      have ok' := Bool.and_eq_true_iff.mp ok
      exact .cons (rep_w d ok'.1 a) (reps_w ds ok'.2 b)
end

abbrev Tab := List (Int × Str)
def tabs : List Tab := [[(40960, "l"), (49152, "s"), (32768, "-"), (24576, "b"), (16384, "d"), (8192, "c"), (4096, "p")], [(256, "r")], [(128, "w")], [(2112, "s"), (2048, "S"), (64, "x")], [(32, "r")], [(16, "w")], [(1032, "s"), (1024, "S"), (8, "x")], [(4, "r")], [(2, "w")], [(513, "t"), (512, "T"), (1, "x")]]
def tabW (t : Tab) : WData := .tuple (t.map fun e => .tuple [.int e.1, .str e.2])
def tabsW : WData := .tuple (tabs.map tabW)
def tabD (t : Tab) : List D := t.map fun e => .tup [.int e.1, .str e.2]
def tabsD : List D := tabs.map fun t => .tup (tabD t)
theorem toD_tabs : toD tabsW = .tup tabsD := by rfl
theorem ok_tabs : okW tabsW = true := by rfl

def hitM (m : Int) (i : Nat) (b : Int) : Bool := if i = 0 then Builtin.bitAnd m 61440 == b else Builtin.bitAnd m b == b
def pick (m : Int) (i : Nat) (t : Tab) : Str := match t[t.findIdx fun e => hitM m i e.1]? with
  | some e => e.2
  | none => if i = 0 then "?" else "-"
def picks (m : Int) (k : Nat) : List Str := (List.range k).map fun j => pick m j (tabs.getD j [])
theorem picks_succ (m : Int) (k : Nat) : picks m (k + 1) = picks m k ++ [pick m k (tabs.getD k [])] := by simp [picks, List.range_succ]

section
variable {C : Cx} {ρ : Rho} {n : Nat}
theorem F.table {elts : List Expr} {k : Nat} {tp fp p pos : Pos} (G : Own C n) (hf : Built C "enumerate" (.type "enumerate")) (hlv : C.lv = [(("_filemode_table" : Str), tabsW)]) (hx : C.env.kindOf "_filemode_table" = some .globalImplicit)
    (hse : starEach [.Name "_filemode_table" p] C.env = [(false, eval (.Name "_filemode_table" p) C.env)]) : Ef C ρ (.Call (.Name "enumerate" fp) [.Name "_filemode_table" p] [] pos) (.Tuple elts k tp) (enumD tabsD) := ⟨.enum G hf (fun s W S => by
  obtain ⟨m, cm, ω, X⟩ := S.ex
  obtain ⟨v, h1, h2⟩ := G.V.val (("_filemode_table" : Str), tabsW) (by rw [hlv]; exact .head _)
  have R := rep_w tabsW ok_tabs h2
  rw [toD_tabs] at R
  refine Name_function_global G.kd hx (loadGlobal_global (env := C.env) (by rw [G.gl]; exact G.T.g.keeps X.fr.keep) h1 ⟨.refl s, ?_⟩) (by decide)
  exact R.mono (fun b o _ e => X.fr.keep b o e) fun b o _ e q => by rw [X.nw b q] at e; cases e) hse⟩
end

theorem join_fold (sep : Str) : ∀ (l : List Str) (z : Nat), l.foldl (fun (acc : Nat) (x : Str) => acc + x.length + sep.length) z = z + (l.map (·.length)).sum + l.length * sep.length
  | [], z => by simp
  | x :: l, z => by
    rw [List.foldl_cons, join_fold sep l, List.map_cons, List.sum_cons, List.length_cons, Nat.add_mul, Nat.one_mul]
    omega
theorem joinOk_of {sep : Str} {l : List Str} (h : (l.map (·.length)).sum + l.length * sep.length ≤ 16777216) : JoinOk sep l = true := by
  unfold JoinOk
  rw [List.foldl_toArray, join_fold]
  simp only [Builtin.Str.tooLong, Bool.not_eq_true', decide_eq_false_iff_not]
  exact Nat.not_lt_of_le (by rw [sizeLine_eq]; omega)
theorem sum_le {l : List Str} {k : Nat} (h : ∀ x ∈ l, x.length ≤ k) : (l.map (·.length)).sum ≤ l.length * k := by
  induction l with
  | nil => simp
  | cons x l ih =>
    rw [List.map_cons, List.sum_cons, List.length_cons, Nat.add_mul, Nat.one_mul]
    have := h x (.head _)
    have := ih fun y hy => h y (.tail _ hy)
    omega
theorem len_pick (m : Int) (i : Nat) : (pick m i (tabs.getD i [])).length = 1 := by
  unfold pick
  split
  · rename_i e he
    have hm := List.mem_of_getElem? he
    have all : ∀ t ∈ tabs, ∀ e ∈ t, e.2.length = 1 := by decide
    by_cases hi : i < tabs.length
    · have : tabs.getD i [] = tabs[i] := by simp [List.getD, hi]
      rw [this] at hm
      exact all _ (List.getElem_mem hi) _ hm
    · have : tabs.getD i [] = [] := by simp [List.getD, Nat.le_of_not_lt hi]
      rw [this] at hm
      cases hm
  · split <;> decide

section
variable {C : Cx} {n : Nat} {P : PySem.Params}
theorem f_filemode (G : Good C (n + 2)) (hK : C.K = hd.heap_1 P) (hlv : C.lv = [(("_filemode_table" : Str), tabsW)]) (m : Int) : Ff C 197 [.int m] (.str (Txt.join "" (picks m 10))) := by
  refine' N.one (x := "mode") (n := n + 1) G (look_at hK (by exact rfl)) (code_at hK (by kernel_rfl)) (fun v => rfl) rfl (by decide) (fun h₀ L O => ?_) rfl rfl rfl
  have G' := O.toGood
  refine' X.cons (X.empty O (.inl rfl) (by walk_at "rm") rfl) ?_
  refine' X.cons (ρ₁ := [("perm", true, .list (dS (picks m 10))), ("mode", false, .int m)]) (X.for (enumD tabsD) (fun i => [("perm", true, .list (dS (picks m i))), ("mode", false, .int m)]) O (F.table O (by walk_at "bi") hlv rfl rfl) rfl rfl (fun i d hd => ?turn) (fun _ => rfl)) ?rest
  case turn =>
    obtain ⟨d', hd', rfl⟩ := enumD_get hd
    obtain ⟨t, ht, rfl⟩ : ∃ t, tabs[i]? = some t ∧ d' = .tup (tabD t) := by
      simp only [tabsD, List.getElem?_map, Option.map_eq_some_iff] at hd'
      obtain ⟨t, h1, h2⟩ := hd'
      exact ⟨t, h1, h2.symm⟩
    have ht' : tabs.getD i [] = t := by simp [List.getD, ht]
    have hlen : (dS (picks m i)).length ≤ 16777216 := by
      have : i < tabs.length := (List.getElem?_eq_some_iff.mp ht).1
      have : i < 10 := this
      simp [picks]; omega
    rw [picks_succ, ht']
    have e : dS (picks m i ++ [pick m i t]) = dS (picks m i) ++ [.str (pick m i t)] := by simp
    rw [e]
    generalize hps : dS (picks m i) = ps at hlen
    generalize hk : t.findIdx (fun e => hitM m i e.1) = k
    have hkl : k ≤ (tabD t).length := by rw [← hk, tabD, List.length_map]; exact List.findIdx_le_length
    refine' ⟨_, A.two O (.inl rfl) (.inl rfl) (by walk_at "rm") (by walk_at "rm"), ?_⟩
    refine' X.cons (ρ₁ := [("perm", true, .list (ps ++ [.str (pick m i t)])), ("mode", false, .int m)]) (X.forTo (tabD t) (fun _ => [("table", false, .tup (tabD t)), ("index", false, .int i), ("perm", true, .list ps), ("mode", false, .int m)]) k O (F.tup O (by walk_at "mem") (by decide)) rfl hkl (fun j d hj hd => ?go) ?fin (fun _ => rfl)) X.nil
    case go =>
      simp only [tabD, List.getElem?_map, Option.map_eq_some_iff] at hd
      obtain ⟨⟨b, c⟩, h1, rfl⟩ := hd
      have no : hitM m i b = false := by
        have := List.not_of_lt_findIdx (p := fun (e : Int × Str) => hitM m i e.1) (xs := t) (i := j) (by rw [hk]; exact hj)
        have hj' : j < t.length := (List.getElem?_eq_some_iff.mp h1).1
        have e1 : t[j] = (b, c) := (List.getElem?_eq_some_iff.mp h1).2
        rw [e1] at this
        simpa using this
      refine' ⟨_, A.two O (.inl rfl) (.inl rfl) (by walk_at "rm") (by walk_at "rm"), ?_⟩
      refine' X.cons (ρ₁ := [("table", false, .tup (tabD t)), ("index", false, .int i), ("perm", true, .list ps), ("mode", false, .int m)]) (X.if O (T.cmp (by walk_at "nm") (E.int _ _ _) (Cmp.eqInt _ _) (by with_unfolding_all rfl)) (fun h0 => ?z) (fun h0 => ?nz)) X.nil
      case z =>
        have hi : i = 0 := by simpa using h0
        have no' : (Builtin.bitAnd m 61440 == b) = false := by rw [hitM, if_pos hi] at no; exact no
        refine' X.cons (X.ifF O (T.cast (T.cmp (E.read (E.fn G' (f_IFMT G' hK m) (V.cons (by walk_at "nm") V.nil rfl) (top_at hK (by kernel_rfl)) (keep_at hK (by kernel_rfl)) rfl (by decide) rfl rfl)) (by walk_at "nm") (Cmp.eqInt _ _) (by with_unfolding_all rfl)) no') X.nil) (X.drop fun e he => ?_)
        simp only [List.mem_cons, List.not_mem_nil, or_false] at he
        rcases he with rfl | rfl | rfl | rfl <;> simp
      case nz =>
        have hi : i ≠ 0 := by simpa using h0
        have no' : (Builtin.bitAnd m b == b) = false := by rw [hitM, if_neg hi] at no; exact no
        refine' X.cons (X.ifF O (T.cast (T.cmp (by walk_at "ev") (by walk_at "nm") (Cmp.eqInt _ _) (by with_unfolding_all rfl)) no') X.nil) (X.drop fun e he => ?_)
        simp only [List.mem_cons, List.not_mem_nil, or_false] at he
        rcases he with rfl | rfl | rfl | rfl <;> simp
    case fin =>
      by_cases hkt : k < t.length
      · right
        obtain ⟨⟨b, c⟩, he0⟩ : ∃ e : Int × Str, t[k] = e := ⟨_, rfl⟩
        have h1 : t[k]? = some (b, c) := by rw [List.getElem?_eq_getElem hkt, he0]
        have yes : hitM m i b = true := by
          have := List.findIdx_getElem (p := fun (e : Int × Str) => hitM m i e.1) (xs := t) (w := by rw [hk]; exact hkt)
          simp only [hk, he0] at this
          exact this
        have ep : pick m i t = c := by unfold pick; rw [hk, h1]
        rw [ep]
        refine' ⟨.tup [.int b, .str c], _, by simp [tabD, h1], A.two O (.inl rfl) (.inl rfl) (by walk_at "rm") (by walk_at "rm"), ?_⟩
        refine' X.stop (X.if O (T.cmp (by walk_at "nm") (E.int _ _ _) (Cmp.eqInt _ _) (by with_unfolding_all rfl)) (fun h0 => ?z) (fun h0 => ?nz))
        case z =>
          have hi : i = 0 := by simpa using h0
          have yes' : (Builtin.bitAnd m 61440 == b) = true := by rw [hitM, if_pos hi] at yes; exact yes
          refine' X.stop (X.ifT O (T.cast (T.cmp (E.read (E.fn G' (f_IFMT G' hK m) (V.cons (by walk_at "nm") V.nil rfl) (top_at hK (by kernel_rfl)) (keep_at hK (by kernel_rfl)) rfl (by decide) rfl rfl)) (by walk_at "nm") (Cmp.eqInt _ _) (by with_unfolding_all rfl)) yes') (X.cons (X.append O (by walk_at "mem") (by walk_at "nm") (by walk_at "rm") (by trivial) hlen (by exact ⟨⟨_, rfl⟩⟩) (by decide) (by rfl) (by rfl) (by rfl)) (X.brkTo fun e he => ?_)))
          simp only [List.mem_cons, List.not_mem_nil, or_false] at he
          rcases he with rfl | rfl <;> simp
        case nz =>
          have hi : i ≠ 0 := by simpa using h0
          have yes' : (Builtin.bitAnd m b == b) = true := by rw [hitM, if_neg hi] at yes; exact yes
          refine' X.stop (X.ifT O (T.cast (T.cmp (by walk_at "ev") (by walk_at "nm") (Cmp.eqInt _ _) (by with_unfolding_all rfl)) yes') (X.cons (X.append O (by walk_at "mem") (by walk_at "nm") (by walk_at "rm") (by trivial) hlen (by exact ⟨⟨_, rfl⟩⟩) (by decide) (by rfl) (by rfl) (by rfl)) (X.brkTo fun e he => ?_)))
          simp only [List.mem_cons, List.not_mem_nil, or_false] at he
          rcases he with rfl | rfl <;> simp
      · left
        have hke : k = (tabD t).length := by rw [tabD, List.length_map] at hkl ⊢; omega
        have ep : pick m i t = if i = 0 then ("?" : Str) else ("-" : Str) := by
          unfold pick
          rw [hk, List.getElem?_eq_none (Nat.le_of_not_lt hkt)]
        rw [ep]
        refine' ⟨hke, X.cons (X.if O (T.cmp (by walk_at "nm") (E.int _ _ _) (Cmp.eqInt _ _) (by with_unfolding_all rfl)) (fun h0 => ?z) (fun h0 => ?nz)) X.nil⟩
        case z =>
          have hi : i = 0 := by simpa using h0
          rw [if_pos hi]
          refine' X.cons (X.append O (by walk_at "mem") (E.str _ _ _) (by walk_at "rm") (by trivial) hlen (by exact ⟨⟨_, rfl⟩⟩) (by decide) (by rfl) (by rfl) (by rfl)) (X.drop fun e he => ?_)
          simp only [List.mem_cons, List.not_mem_nil, or_false] at he
          rcases he with rfl | rfl <;> simp
        case nz =>
          have hi : i ≠ 0 := by simpa using h0
          rw [if_neg hi]
          refine' X.cons (X.append O (by walk_at "mem") (E.str _ _ _) (by walk_at "rm") (by trivial) hlen (by exact ⟨⟨_, rfl⟩⟩) (by decide) (by rfl) (by rfl) (by rfl)) (X.drop fun e he => ?_)
          simp only [List.mem_cons, List.not_mem_nil, or_false] at he
          rcases he with rfl | rfl <;> simp
  case rest =>
    have hj : JoinOk "" (picks m 10) = true := joinOk_of (by
      have h1 : ∀ x ∈ picks m 10, x.length ≤ 1 := fun x hx => by
        obtain ⟨j, _, rfl⟩ := List.mem_map.mp hx
        rw [len_pick]
        exact Nat.le_refl _
      have := sum_le h1
      have l0 : (Str.ofString "").length = 0 := by decide
      rw [l0]
      have l1 : (picks m 10).length = 10 := by simp [picks]
      omega)
    exact X.end (X.ret O (E.join (E.str _ _ _) (by walk_at "nm") hj (by exact ⟨⟨_, rfl⟩⟩) rfl) (by trivial))
end
end

section
open PySem PySem.W PyProof.Rows
set_option Elab.async false
set_option linter.unusedVariables false

/-! Pruefer's code, in plain lists -/
theorem nodup_le : ∀ {l m : List Int}, l.Nodup → (∀ x ∈ l, x ∈ m) → l.length ≤ m.length
  | [], _, _, _ => Nat.zero_le _
  | a :: l, m, hn, hs => by
    have ha := hs a (.head _)
    rw [List.nodup_cons] at hn
    have : l.length ≤ (m.erase a).length := nodup_le hn.2 fun x hx => by
      have hne : x ≠ a := fun q => hn.1 (q ▸ hx)
      exact (List.mem_erase_of_ne hne).mpr (hs x (.tail _ hx))
    rw [List.length_erase_of_mem ha] at this
    have : 0 < m.length := List.length_pos_of_mem ha
    rw [List.length_cons]
    omega

def freeT (code : List Int) (k : Nat) (left : List Int) : List Int := left.filter fun b => !(code.drop k).contains b
def leastT (code : List Int) (k : Nat) (left : List Int) : Int := (freeT code k left).headD 0
def treeN (code left0 : List Int) : Nat → List Int × List Int
  | 0 => (left0, List.replicate (code.length + 1) ((code.length : Int) + 1))
  | k + 1 => ((treeN code left0 k).1.erase (leastT code k (treeN code left0 k).1), (treeN code left0 k).2.set (leastT code k (treeN code left0 k).1).toNat (code.getD k 0))

structure Left (L : Nat) (k : Nat) (l : List Int) : Prop where
  nd : l.Nodup
  rg : ∀ b ∈ l, 0 ≤ b ∧ b ≤ L
  ln : l.length = L + 1 - k

theorem free_ne {code : List Int} {k : Nat} {l : List Int} (hk : k < code.length) (H : Left code.length k l) : ∃ b r, freeT code k l = b :: r ∧ leastT code k l = b ∧ b ∈ l ∧ b ∉ code.drop k := by
  cases h : freeT code k l with
  | nil =>
    exfalso
    have sub : ∀ x ∈ l, x ∈ code.drop k := fun x hx => by
      by_cases hc : x ∈ code.drop k
      · exact hc
      · have : x ∈ freeT code k l := by
          simp only [freeT, List.mem_filter]
          exact ⟨hx, by simpa using hc⟩
        rw [h] at this
        cases this
    have := nodup_le H.nd sub
    rw [H.ln, List.length_drop] at this
    omega
  | cons b r =>
    have hb : b ∈ freeT code k l := by rw [h]; exact .head _
    simp only [freeT, List.mem_filter] at hb
    exact ⟨b, r, rfl, by simp [leastT, h], hb.1, by simpa using hb.2⟩
theorem Left.step {code : List Int} {k : Nat} {l : List Int} (hk : k < code.length) (H : Left code.length k l) : Left code.length (k + 1) (l.erase (leastT code k l)) := by
  obtain ⟨b, r, _, e, hb, _⟩ := free_ne hk H
  rw [e]
  exact ⟨H.nd.erase b, fun x hx => H.rg x (List.mem_of_mem_erase hx), by rw [List.length_erase_of_mem hb, H.ln]; omega⟩
theorem tree_left {code left0 : List Int} (H : Left code.length 0 left0) : ∀ k, k ≤ code.length → Left code.length k (treeN code left0 k).1
  | 0, _ => H
  | k + 1, h => (tree_left H k (by omega)).step (by omega)
theorem tree_len {code left0 : List Int} : ∀ k, (treeN code left0 k).2.length = code.length + 1
  | 0 => by simp [treeN]
  | k + 1 => by
    show ((treeN code left0 k).2.set _ _).length = _
    rw [List.length_set, tree_len k]

end

section
open PySem PySem.W PyProof.Rows
set_option Elab.async false
set_option maxRecDepth 100000
set_option linter.unusedVariables false




/-! rows of ints, in order -/
def ltI : List Int → List Int → Bool
  | a :: as, b :: bs => if (a == b) = true then ltI as bs else decide (a < b)
  | _, _ => false
theorem lexD_I : ∀ (a b : List Int), lexD (dI a) (dI b) = ltI a b
  | [], _ => rfl
  | _ :: _, [] => rfl
  | a :: as, b :: bs => by
    show (if (a == b) = true then lexD (dI as) (dI bs) else decide (a < b)) = _
    rw [lexD_I as bs]; rfl
theorem ltI_asym : ∀ (a b : List Int), ltI a b = true → ltI b a = false
  | [], _, h => by cases h
  | _ :: _, [], h => by cases h
  | a :: as, b :: bs, h => by
    unfold ltI at h ⊢
    by_cases e : a = b
    · subst e; simp only [beq_self_eq_true, if_true] at h ⊢; exact ltI_asym as bs h
    · have e1 : (a == b) = false := by simpa using e
      have e2 : (b == a) = false := by simpa using Ne.symm e
      rw [e1] at h; rw [e2]
      simp only [Bool.false_eq_true, if_false, decide_eq_true_eq, decide_eq_false_iff_not] at h ⊢
      omega
theorem ltI_trans : ∀ (a b c : List Int), ltI a b = true → ltI b c = true → ltI a c = true
  | [], _, _, h, _ => by cases h
  | _ :: _, [], _, h, _ => by cases h
  | _ :: _, _ :: _, [], _, h => by cases h
  | a :: as, b :: bs, c :: cs, h, h' => by
    unfold ltI at h h' ⊢
    by_cases e : a = b
    · subst e
      simp only [beq_self_eq_true, if_true] at h
      by_cases e' : a = c
      · subst e'; simp only [beq_self_eq_true, if_true] at h' ⊢; exact ltI_trans as bs cs h h'
      · have e1 : (a == c) = false := by simpa using e'
        rw [e1] at h' ⊢; exact h'
    · have e1 : (a == b) = false := by simpa using e
      rw [e1] at h
      simp only [Bool.false_eq_true, if_false, decide_eq_true_eq] at h
      by_cases e' : b = c
      · subst e'; rw [e1]; simpa using h
      · have e2 : (b == c) = false := by simpa using e'
        rw [e2] at h'
        simp only [Bool.false_eq_true, if_false, decide_eq_true_eq] at h'
        have e3 : (a == c) = false := by simpa using (by omega : a ≠ c)
        rw [e3]
        simp only [Bool.false_eq_true, if_false, decide_eq_true_eq]
        omega
theorem ltI_total : ∀ (a b : List Int), a.length = b.length → a ≠ b → ltI a b = false → ltI b a = true
  | [], [], _, h, _ => absurd rfl h
  | [], _ :: _, h, _, _ => by cases h
  | _ :: _, [], h, _, _ => by cases h
  | a :: as, b :: bs, hl, hn, h => by
    unfold ltI at h ⊢
    by_cases e : a = b
    · subst e
      simp only [beq_self_eq_true, if_true] at h ⊢
      exact ltI_total as bs (by simpa using hl) (fun q => hn (by rw [q])) h
    · have e1 : (a == b) = false := by simpa using e
      have e2 : (b == a) = false := by simpa using Ne.symm e
      rw [e1] at h; rw [e2]
      simp only [Bool.false_eq_true, if_false, decide_eq_true_eq, decide_eq_false_iff_not] at h ⊢
      omega
theorem kinds_I : ∀ {a b : List Int}, a.length = b.length → kinds (dI a) (dI b) = true
  | [], [], _ => rfl
  | [], _ :: _, h => by cases h
  | _ :: _, [], h => by cases h
  | _ :: as, _ :: bs, h => by
    show (true && kinds (dI as) (dI bs)) = true
    rw [kinds_I (by simpa using h)]; rfl

def rowI (nums : List Int) (b : Nat) : List Int := rank3 (nums.getD b 0) ++ [(b : Int)]
theorem len_rank3 (n : Int) : (rank3 n).length = 9 := by simp [rank3, rank2, rank1, rankStep]
theorem len_row (nums : List Int) (b : Nat) : (rowI nums b).length = 10 := by rw [rowI, List.length_append, len_rank3]; rfl
theorem row_inj {nums : List Int} {a b : Nat} (h : rowI nums a = rowI nums b) : a = b := by
  have := congrArg List.getLast? h
  simp [rowI] at this
  omega
def rowsD (nums : List Int) (n : Nat) : List D := (List.range n).map fun b => .list (dI (rowI nums b))
theorem rows_get {nums : List Int} {n i : Nat} {d : D} (h : (rowsD nums n)[i]? = some d) : i < n ∧ d = .list (dI (rowI nums i)) := by
  simp only [rowsD, List.getElem?_map] at h
  by_cases hi : i < n
  · rw [List.getElem?_range hi] at h
    simp at h
    exact ⟨hi, h.symm⟩
  · rw [List.getElem?_eq_none (by simpa using hi)] at h
    cases h
theorem rows_getD {nums : List Int} {n i : Nat} (h : i < n) : (rowsD nums n).getD i .none = .list (dI (rowI nums i)) := by simp [rowsD, List.getD, h]
theorem rowLt_I {nums : List Int} {n i j : Nat} (hi : i < n) (hj : j < n) : rowLt (rowsD nums n) i j = ltI (rowI nums i) (rowI nums j) := by
  unfold rowLt
  rw [rows_getD hi, rows_getD hj]
  exact lexD_I _ _
theorem row_ord (nums : List Int) (n : Nat) : Ord (rowLt (rowsD nums n)) n where
  tr := fun a b c ha hb hc h1 h2 => by rw [rowLt_I ha hb] at h1; rw [rowLt_I hb hc] at h2; rw [rowLt_I ha hc]; exact ltI_trans _ _ _ h1 h2
  tot := fun a b ha hb hne h => by
    rw [rowLt_I ha hb] at h; rw [rowLt_I hb ha]
    exact ltI_total _ _ (by rw [len_row, len_row]) (fun q => hne (row_inj q)) h
  ir := fun a b ha hb h => by rw [rowLt_I ha hb] at h; rw [rowLt_I hb ha]; exact ltI_asym _ _ h

theorem I.sorted {C : Cx} {ρ : Rho} {n : Nat} {e : Expr} {fp pos : Pos} {ds : List D} (G : Own C n) (hf : Built C "sorted" (.builtin "sorted")) (he : Er C (rd ρ) e (.list ds)) (h2 : 2 ≤ ds.length) (h64 : ds.length < 64)
    (hk : ∀ (i j : Nat) (a b : D), ds[i]? = some a → ds[j]? = some b → ∃ as bs, a = .list as ∧ b = .list bs ∧ kinds as bs = true) (hO : Ord (rowLt ds) ds.length) (hse : starEach [e] C.env = [(false, eval e C.env)]) :
    Es C ρ (.Call (.Name "sorted" fp) [e] [] pos) ((kasRun (rowLt ds) (kas_sort ds.length)).toList.map fun i => ds.getD i .none) := ⟨.sorted G hf he.h h2 h64 hk hO hse⟩

/-- the nodes, in their ranks' order -/
def leftQ (nums : List Int) (n : Nat) : List Nat := (kasRun (rowLt (rowsD nums n)) (kas_sort n)).toList
def leftI (nums : List Int) (n : Nat) : List Int := (leftQ nums n).map fun (i : Nat) => (i : Int)
theorem leftQ_spec (nums : List Int) {n : Nat} (hn : 2 ≤ n) : (leftQ nums n).length = n ∧ (∀ i ∈ leftQ nums n, i < n) ∧ (leftQ nums n).Nodup ∧ (leftQ nums n).Pairwise fun i j => ltI (rowI nums i) (rowI nums j) = true := by
  obtain ⟨q, eq, P, A⟩ := run_sort (row_ord nums n) hn
  have e : leftQ nums n = q.toList := by unfold leftQ; rw [eq]
  rw [e]
  have ev : ∀ j (h : j < q.toList.length), q.toList[j] = at' q j := fun j h => by rw [at_eq]; simp at h; simp [h]
  have hlen : q.toList.length = n := by simpa using P.size
  refine ⟨hlen, fun i hi => ?_, ?_, ?_⟩
  · obtain ⟨j, hj, rfl⟩ := List.getElem_of_mem hi
    rw [ev j hj]; exact P.lt j (by omega)
  · rw [List.nodup_iff_pairwise_ne, List.pairwise_iff_getElem]
    intro i j hi hj hij h
    rw [ev i hi, ev j hj] at h
    have := P.inj i j (by omega) (by omega) h
    omega
  · rw [List.pairwise_iff_getElem]
    intro i j hi hj hij
    rw [ev i hi, ev j hj]
    have := A i j hij (by omega)
    rwa [rowLt_I (P.lt i (by omega)) (P.lt j (by omega))] at this
theorem left_start (nums : List Int) {L : Nat} (hL : 1 ≤ L) : Left L 0 (leftI nums (L + 1)) := by
  obtain ⟨h1, h2, h3, _⟩ := leftQ_spec nums (n := L + 1) (by omega)
  refine ⟨?_, fun b hb => ?_, by simp [leftI, h1]⟩
  · unfold leftI
    rw [List.nodup_iff_pairwise_ne, List.pairwise_map]
    rw [List.nodup_iff_pairwise_ne] at h3
    exact h3.imp fun h q => h (by omega)
  · obtain ⟨i, hi, rfl⟩ := List.mem_map.mp hb
    have := h2 i hi
    omega

end

section
open PySem PySem.W PyProof.Rows
set_option Elab.async false
set_option maxRecDepth 100000
set_option linter.unusedVariables false




def gRow (nums : List Int) : D → D
  | .int b => .list (dI (rowI nums b.toNat))
  | d => d
def gLast : D → D
  | .list xs => xs.getLast?.getD .none
  | d => d
def pIn (xs : List Int) : D → Bool
  | .int b => !xs.contains b
  | _ => false
theorem filter_dI (xs l : List Int) : (dI l).filter (pIn xs) = dI (l.filter fun b => !xs.contains b) := by
  rw [dI, List.filter_map]
  rfl
theorem first_at : ∀ {l : List Int} {b : Int}, b ∈ l → ∃ j, l[j]? = some b ∧ l.eraseIdx j = l.erase b ∧ ∀ k, k < j → l[k]? ≠ some b
  | a :: l, b, h => by
    by_cases e : a = b
    · subst e
      exact ⟨0, rfl, by simp, fun k hk => by omega⟩
    · have hb : b ∈ l := by
        rcases List.mem_cons.mp h with q | q
        · exact absurd q.symm e
        · exact q
      obtain ⟨j, h1, h2, h3⟩ := first_at hb
      refine ⟨j + 1, by simpa using h1, ?_, fun k hk => ?_⟩
      · rw [List.eraseIdx_cons_succ, h2, List.erase_cons_tail (by simpa using e)]
      · cases k with
        | zero => simpa using e
        | succ k => simpa using h3 k (by omega)
theorem map_id_D (l : List D) : l.map id = l := List.map_id l

section
variable {C : Cx} {n : Nat} {P : PySem.Params}
set_option maxHeartbeats 1000000 in
theorem f_tree (G : Good C (n + 3)) (hK : C.K = hd.heap_1 P) (code nums : List Int) (h2 : 2 ≤ code.length) (h60 : code.length ≤ 60) (hn : nums.length = code.length + 1) :
    Ff C 216 [.list (dI code), .list (dI nums)] (.list (dI (treeN code (leftI nums (code.length + 1)) code.length).2)) := by
  refine' N.cells (x := "code") (y := "numbers") (n := n + 2) G (look_at hK (by exact rfl)) (code_at hK (by kernel_rfl)) (fun v u => rfl) rfl rfl (by decide) (fun L v u => ⟨rfl, rfl⟩) (fun h₀ L O => ?_) rfl rfl rfl
  have G' := O.toGood
  have at1 : ∀ l : List Int, ∀ d ∈ dI l, d.atom := fun l d hd => by obtain ⟨_, _, rfl⟩ := List.mem_map.mp hd; exact trivial
  have lc : (dI code).length ≤ 16777216 := by simp; omega
  refine' X.cons (X.set (d := .int code.length) O (E.cast (E.lenL G' (by walk_at "bi") (by walk_at "nm") lc rfl) (by simp)) (by trivial) (.inl rfl) (by walk_at "rm") rfl) ?_
  have hrows : (dI (Mine.upto (code.length + 1))).map (gRow nums) = rowsD nums (code.length + 1) := by
    simp [rowsD, dI, Mine.upto, gRow, Function.comp_def]
  refine' X.cons (ρ₁ := [("left", true, .list (dI (leftI nums (code.length + 1)))), ("last", false, .int code.length), ("code", false, .list (dI code)), ("numbers", false, .list (dI nums))]) ?left ?rest
  case left =>
    have dl : (rowsD nums (code.length + 1)).length = code.length + 1 := by simp [rowsD]
    have lu : (dI (Mine.upto (code.length + 1))).length = code.length + 1 := upto_len _
    have hmap : ((kasRun (rowLt (rowsD nums (code.length + 1))) (kas_sort (rowsD nums (code.length + 1)).length)).toList.map fun i => (rowsD nums (code.length + 1)).getD i .none).map gLast = dI (leftI nums (code.length + 1)) := by
      rw [dl, List.map_map]
      unfold leftI leftQ
      rw [dI, List.map_map]
      refine List.map_congr_left fun i hi => ?_
      have := (leftQ_spec nums (n := code.length + 1) (by omega)).2.1 i hi
      show gLast ((rowsD nums (code.length + 1)).getD i .none) = .int (i : Int)
      rw [rows_getD this]
      simp [gLast, rowI]
    have hlq : (leftQ nums (code.length + 1)).length = code.length + 1 := (leftQ_spec nums (n := code.length + 1) (by omega)).1
    rw [← hmap]
    refine' X.compS (ρ' := []) O (I.sorted O (by walk_at "bi") (E.read ?he) (by omega) (by omega) (fun i j a b ha hb => ?kk) (by rw [dl]; exact row_ord _ _) (by rfl)) ?len ⟨rfl, by decide, rfl, by decide, rfl, fun e he => nomatch he⟩ gLast (fun Ca Gc d hd => ?body) (fun _ => by rw [hmap]; exact at1 _) (.inl rfl) (by walk_at "rm") rfl (fun _ => rfl)
    case kk =>
      obtain ⟨_, rfl⟩ := rows_get ha
      obtain ⟨_, rfl⟩ := rows_get hb
      exact ⟨_, _, rfl, rfl, kinds_I (by rw [len_row, len_row])⟩
    case len =>
      rw [List.length_map, dl]
      have : (kasRun (rowLt (rowsD nums (code.length + 1))) (kas_sort (code.length + 1))).toList.length = code.length + 1 := hlq
      omega
    case body =>
      obtain ⟨i, hi, rfl⟩ := List.mem_map.mp hd
      rw [dl] at hi
      have hi' := (leftQ_spec nums (n := code.length + 1) (by omega)).2.1 i hi
      have e1 : (rowsD nums (code.length + 1)).getD i .none = .list (dI (rowI nums i)) := rows_getD hi'
      show En _ ((_, (rowsD nums (code.length + 1)).getD i .none) :: _) _ (gLast ((rowsD nums (code.length + 1)).getD i .none))
      rw [e1]
      have e2 : gLast (.list (dI (rowI nums i))) = .int i := by simp [gLast, rowI]
      rw [e2]
      exact E.new (by trivial) (E.last (by walk_at "nm") (E.neg (E.int _ _ _)) (by simp [rowI]) (fun _ _ => rfl))
    case he =>
      refine' E.castN (E.comp (ρ' := [("numbers", .list (dI nums))]) G' (I.range (m := code.length + 1) G' (by walk_at "bi") (E.cast (d := .int ((code.length : Int) + 1)) (by walk_at "ev") (by push_cast; rfl)) (by omega) rfl) (by omega) ⟨rfl, by decide, rfl, by decide, rfl, fun e he => ?sub⟩ (gRow nums) (fun Ca Gc d hd => ?row) (fun _ => rfl)) (by rw [hrows])
      case sub =>
        rw [List.mem_singleton.mp he]
        exact ⟨mem_rd (o := false) (by walk_at "mem"), rfl, fun _ => rfl, rfl⟩
      case row =>
        obtain ⟨i, hi⟩ := List.getElem?_of_mem hd
        obtain ⟨hi, rfl⟩ := upto_get hi
        have hil : i < nums.length := by omega
        have hni : nums[i]? = some (nums.getD i 0) := by simp [List.getD, hil]
        have hnD : (dI nums)[((i : Nat) : Int).toNat]? = some (.int (nums.getD i 0)) := by
          show (dI nums)[i]? = _
          rw [List.getElem?_map, hni]; rfl
        have lr : (dI (rank3 (nums.getD i 0))).length = 9 := by rw [List.length_map, len_rank3]
        refine' E.castN (E.addL (a := dI (rank3 (nums.getD i 0))) (b := [.int i]) (E.read (E.fn Gc (f_rank Gc hK (nums.getD i 0)) (V.cons (E.idx (k := (i : Int)) (by walk_at "nm") (by walk_at "nm") (by omega) hnD (by omega) (fun _ _ => rfl)) V.nil rfl) (top_at hK (by kernel_rfl)) (keep_at hK (by kernel_rfl)) rfl (by decide) rfl rfl)) (E.read (E.list (V.consN (E.new (by trivial) (by walk_at "nm")) V.nilN rfl) (by show 1 ≤ 16777216; decide))) (by rw [lr]; show 9 + 1 ≤ 16777216; decide) (fun d hd => ?atm)) ?cst
        case atm =>
          rcases List.mem_append.mp hd with h | h
          · exact at1 _ d h
          · rw [List.mem_singleton.mp h]; trivial
        case cst => simp [gRow, rowI]
  refine' X.cons (X.own (ds := dI (treeN code (leftI nums (code.length + 1)) 0).2) O (E.castN (E.rep (k := (code.length : Int) + 1) (E.add (by walk_at "nm") (E.int _ _ _)) (E.add (by walk_at "nm") (E.int _ _ _)) (by omega) (by omega) rfl) ?cst2) (at1 _) (.inl rfl) (by walk_at "rm") rfl) ?rest2
  case cst2 =>
    have : ((code.length : Int) + 1).toNat = code.length + 1 := by omega
    rw [this]
    simp [treeN]
  generalize hl0 : leftI nums (code.length + 1) = l0
  have H0 : Left code.length 0 l0 := hl0 ▸ left_start nums (L := code.length) (by omega)
  refine' X.cons (ρ₁ := [("above", true, .list (dI (treeN code l0 code.length).2)), ("left", true, .list (dI (treeN code l0 code.length).1)), ("last", false, .int code.length), ("code", false, .list (dI code)), ("numbers", false, .list (dI nums))])
    (X.for (dI (Mine.upto code.length)) (fun i => [("above", true, .list (dI (treeN code l0 i).2)), ("left", true, .list (dI (treeN code l0 i).1)), ("last", false, .int code.length), ("code", false, .list (dI code)), ("numbers", false, .list (dI nums))]) O (F.range O (by walk_at "bi") (by walk_at "nm") (by omega) rfl) rfl (by rw [upto_len]) (fun i d hd => ?turn) (fun _ => rfl)) ?fin
  case fin => exact X.end (X.retOwn O (by walk_at "mem") (by decide))
  case turn =>
    obtain ⟨hi, rfl⟩ := upto_get hd
    have Hi := tree_left H0 i (by omega)
    have Ha := tree_len (code := code) (left0 := l0) i
    obtain ⟨b, r, h1, h2', h3, h4⟩ := free_ne hi Hi
    obtain ⟨hb0, hbL⟩ := Hi.rg b h3
    have Hn := Hi.ln
    have es : treeN code l0 (i + 1) = ((treeN code l0 i).1.erase b, (treeN code l0 i).2.set b.toNat (code.getD i 0)) := by
      show (_, _) = _
      rw [h2']
    rw [es]
    generalize (treeN code l0 i).1 = left at *
    generalize (treeN code l0 i).2 = ab at *
    refine' ⟨_, A.name O (.inr ⟨rfl, _, rfl⟩) (by walk_at "rm"), ?_⟩
    refine' X.cons (X.set (d := .int b) O (E.idx (k := 0) (ds := dI (freeT code i left)) (E.read (E.castN (E.compIf (ρ' := [("code", .list (dI code)), ("k", .int i)]) G' (I.list G' (by walk_at "nm")) (by simp; omega) ⟨rfl, by decide, rfl, by decide, rfl, fun e he => ?sub⟩ (pIn (code.drop i)) id (fun Ca Gc d hd => ?test) (fun Ca Gc d hd _ => ?body) (fun _ => rfl)) ?cst)) (E.int _ _ _) (by decide) (by rw [h1]; rfl) (by decide) (fun _ _ => rfl)) (by trivial) (.inl rfl) (by walk_at "rm") rfl) ?r1
    case sub =>
      rcases List.mem_cons.mp he with rfl | he
      · exact ⟨mem_rd (o := false) (by walk_at "mem"), rfl, fun _ => rfl, rfl⟩
      · rw [List.mem_singleton.mp he]; exact ⟨mem_rd (o := false) (by walk_at "mem"), rfl, fun _ => rfl, rfl⟩
    case test =>
      obtain ⟨c, _, rfl⟩ := List.mem_map.mp hd
      exact T.cmp (by walk_at "nm") (E.read (E.castN (E.lFrom (by walk_at "nm") (by walk_at "nm") (at1 _) lc) (by rw [dI, dI, List.map_drop]))) (Cmp.ninInts _ _) (by with_unfolding_all rfl)
    case body =>
      obtain ⟨c, _, rfl⟩ := List.mem_map.mp hd
      show En _ _ _ (.int c)
      exact E.new (by trivial) (by walk_at "nm")
    case cst => rw [filter_dI, List.map_id]; rfl
    have hci : (dI code)[((i : Nat) : Int).toNat]? = some (.int (code.getD i 0)) := by
      show (dI code)[i]? = _
      rw [List.getElem?_map]
      simp [List.getD, hi]
    refine' X.cons (X.setAt (k := b) (d := .int (code.getD i 0)) O (by walk_at "mem") (E.idx (k := (i : Int)) (by walk_at "nm") (by walk_at "nm") (by omega) hci (by omega) (fun _ _ => rfl)) (by walk_at "nm") (by walk_at "rm") (by trivial) hb0 (by simp; omega) (by omega) (by decide) rfl) ?r2
    obtain ⟨j, hj, hjb⟩ := first_at h3
    rw [← hjb.1]
    have e2 : dI (ab.set b.toNat (code.getD i 0)) = (dI ab).set b.toNat (.int (code.getD i 0)) := by rw [dI, dI, List.map_set]
    rw [e2]
    refine' X.cons (X.remove O (by walk_at "mem") (by walk_at "nm") (by walk_at "rm") hj hjb.2 (by omega) (by exact ⟨⟨_, rfl⟩⟩) (by decide) (by rfl) (by rfl) (by rfl)) (X.drop fun e he => ?_)
    simp only [List.mem_cons, List.not_mem_nil, or_false] at he
    rcases he with rfl | rfl | rfl | rfl | rfl <;> simp
end
end

section
open PySem PySem.W PyProof.Rows
set_option Elab.async false
set_option maxRecDepth 100000
set_option linter.unusedVariables false




def scopeAt (K : Frag) (f : Addr) (d : Scope) : Scope := match K.lookup f with
  | some ⟨_, _, .func fd, _⟩ => fd.scope
  | _ => d
def bodyAt (K : Frag) (f : Addr) : List Stmt := match K.lookup f with
  | some ⟨_, _, .func fd, _⟩ => (match fd.body with | .stmts b => b | _ => [])
  | _ => []
noncomputable def lawScope (P : PySem.Params) : Scope := scopeAt (hd.heap_1 P) 221 { kind := .function, names := [], isGenerator := false, isCoroutine := false }
noncomputable def lawEnv (P : PySem.Params) (L f : Addr) (cdv : Value) : Env := envOfC "law" (lawScope P) L f cdv
noncomputable def Cx.law (C : Cx) (P : PySem.Params) (L f : Addr) (cdv : Value) (tz : Bool) : Cx := { C with env := lawEnv P L f cdv, fenv := lawEnv P L f cdv, L := L, tz := tz }

/-! what the law makes of its script, step by step -/
def drawsF (script : List Int) : List Int := (script.take 5).map (fun x => x.fmod 90) ++ [17, 40]
def codeF (script : List Int) : List Int := (drawsF script).map fun d => d.fmod ((drawsF script).length + 2)
def rightsF (script : List Int) (b : Nat) : Int := (drawsF script ++ [5]).getD b 0 * 43
def numF (script : List Int) (b : Nat) : Int := (if (codeF script).contains b = true then 16384 else 32768) + rightsF script b - (rightsF script b).fmod 8 + b
def nameF (script : List Int) (b : Nat) : Str := (["&", "<", ">", "&lt;", "\r"] : List Str).getD (((drawsF script ++ [5]).getD b 0 + b).fmod 5).toNat "" ++ Str.ofString (toString (b : Int))
def numsF (script : List Int) (k : Nat) : List Int := (List.range k).map (numF script)
def namesF (script : List Int) (k : Nat) : List Str := (List.range k).map (nameF script)

def aboveF (script : List Int) : List Int := (treeN (codeF script) (leftI (numsF script ((codeF script).length + 1)) ((codeF script).length + 1)) (codeF script).length).2
def chainW (script : List Int) (b : Nat) : Nat → Int × List Str
  | 0 => ((b : Int), [])
  | j + 1 => ((aboveF script).getD (chainW script b j).1.toNat 0, (namesF script ((codeF script).length + 1)).getD (chainW script b j).1.toNat "" :: (chainW script b j).2)
def stepsF (script : List Int) (b : Nat) : Nat := ((List.range ((codeF script).length + 2)).find? fun j => decide (((codeF script).length : Int) < (chainW script b j).1)).getD 0
def chainF (script : List Int) (b : Nat) : List Str := (chainW script b (stepsF script b)).2
def wayN (script : List Int) (b j : Nat) : Str := ((chainF script b).take j).foldl joinP "/"
def wayF (script : List Int) (b : Nat) : Str := (chainF script b).foldl joinP "/"
def plainF (script : List Int) (b : Nat) : Str := "/" ++ Txt.join "/" (chainF script b)
def waysF (script : List Int) (k : Nat) : List Str := (List.range k).map (wayF script)
def plainsF (script : List Int) (k : Nat) : List Str := (List.range k).map (plainF script)
structure StepsOk (script : List Int) : Prop where
  go : ∀ b, b ≤ (codeF script).length → (∀ j, j < stepsF script b → 0 ≤ (chainW script b j).1 ∧ (chainW script b j).1 ≤ (codeF script).length) ∧ ((codeF script).length : Int) < (chainW script b (stepsF script b)).1 ∧ stepsF script b ≤ 8
  nm : ∀ b, b ≤ (codeF script).length → ∀ x ∈ chainF script b, Txt.startswith x "/" = false ∧ x.length ≤ 5
theorem len_joinP (x y : Str) : x.length + y.length ≤ (joinP x y).length ∧ (joinP x y).length ≤ x.length + y.length + 1 := by
  have l1 : (Str.ofString "/").length = 1 := by decide
  unfold joinP
  split <;> simp only [Str.length_append, l1] <;> omega
theorem len_fold : ∀ (l : List Str) (z : Str), (∀ x ∈ l, x.length ≤ 5) → z.length ≤ (l.foldl joinP z).length ∧ (l.foldl joinP z).length ≤ z.length + 6 * l.length
  | [], z, _ => by simp
  | x :: l, z, h => by
    have h1 := len_joinP z x
    have h2 := h x (.head _)
    have h3 := len_fold l (joinP z x) fun y hy => h y (.tail _ hy)
    rw [List.foldl_cons, List.length_cons]
    omega
theorem len_chainW (script : List Int) (b : Nat) : ∀ j, (chainW script b j).2.length = j
  | 0 => rfl
  | j + 1 => by show (_ :: (chainW script b j).2).length = _; rw [List.length_cons, len_chainW script b j]
def escF (which : Int) (x : Str) : Str := if (which == 0) = true then escA x else escC x
def fmF (n : Int) : Str := Txt.join "" (picks n 10)
def itemF (script : List Int) (which : Int) (b : Nat) : Str := ((("<f m=\"" ++ fmF (numF script b)) ++ "\">") ++ escF which (wayF script b)) ++ "</f>"
def pageF (script : List Int) (which : Int) : Nat → Str
  | 0 => ""
  | k + 1 => pageF script which k ++ itemF script which k
def piecesF (script : List Int) (which : Int) : List Str := Txt.split (pageF script which ((codeF script).length + 1)) "<"
def sgnF (script : List Int) (which : Int) (b : Nat) : Str := Txt.slice ((piecesF script which).getD (2 * b + 1) "") (some 5) (some 15)
def txtF (script : List Int) (which : Int) (b : Nat) : Str := Txt.slice ((piecesF script which).getD (2 * b + 1) "") (some 17) none
def unescF (x : Str) : Str := Txt.replace (Txt.replace (Txt.replace (Txt.replace x "&lt;" "<") "&gt;" ">") "&#xD;" "\r") "&amp;" "&"
structure PageOk (script : List Int) (which : Int) : Prop where
  pl : (piecesF script which).length = 2 * (codeF script).length + 3
  ps : ∀ b, b ≤ (codeF script).length → ((piecesF script which).getD (2 * b + 1) "").length ≤ 100000
  no : ∀ b, b ≤ (codeF script).length → Txt.contains (txtF script which b) ">" = false ∧ (which = 1 → Txt.contains (txtF script which b) "\r" = false)
  sg : ∀ b, b ≤ (codeF script).length → sgnF script which b = told3 (numF script b)
  rd : ∀ b, b ≤ (codeF script).length → unescF (txtF script which b) = plainF script b
  dr : ∀ b, b ≤ (codeF script).length → (Builtin.bitAnd (numF script b) 61440 == 16384) = ((plainsF script ((codeF script).length + 1)).map dirP).contains (plainF script b)
theorem len_fmF (n : Int) : (fmF n).length = 10 := by
  have l0 : (Str.ofString "").length = 0 := by decide
  have e : (picks n 10).map (·.length) = List.replicate 10 1 := by
    rw [List.eq_replicate_iff]
    refine ⟨by simp [picks], fun y hy => ?_⟩
    obtain ⟨x, hx, rfl⟩ := List.mem_map.mp hy
    obtain ⟨j, _, rfl⟩ := List.mem_map.mp hx
    exact len_pick n j
  unfold fmF Txt.join
  rw [size_glued, l0, e]
  rfl
theorem len_escF (which : Int) (x : Str) (h : x.length ≤ 100) : (escF which x).length ≤ 90899 := by
  have z1 : (Str.ofString "&amp;").length = 5 := by decide
  have z2 : (Str.ofString "&lt;").length = 4 := by decide
  have z3 : (Str.ofString "&gt;").length = 4 := by decide
  have z4 : (Str.ofString "&#xD;").length = 5 := by decide
  have l1 := len_esc1 x "&" "&amp;" h z1
  have l2 := len_esc1 (esc1 "&" "&amp;" x) "<" "&lt;" l1 z2
  have l3 : (escA x).length ≤ _ := len_esc1 (esc1 "<" "&lt;" (esc1 "&" "&amp;" x)) ">" "&gt;" l2 z3
  have l4 : (escC x).length ≤ _ := len_esc1 (escA x) "\r" "&#xD;" l3 z4
  unfold escF
  split <;> omega
theorem len_itemF (script : List Int) (which : Int) (b : Nat) (h : (wayF script b).length ≤ 100) : (itemF script which b).length ≤ 91000 := by
  have a1 : (Str.ofString "<f m=\"").length = 6 := by decide
  have a2 : (Str.ofString "\">").length = 2 := by decide
  have a3 : (Str.ofString "</f>").length = 4 := by decide
  have := len_escF which _ h
  have := len_fmF (numF script b)
  unfold itemF
  rw [Str.length_append, Str.length_append, Str.length_append, Str.length_append, a1, a2, a3]
  omega
theorem len_pageF (script : List Int) (which : Int) : ∀ k, (∀ b, b < k → (wayF script b).length ≤ 100) → (pageF script which k).length ≤ 91000 * k
  | 0, _ => by show (Str.ofString "").length ≤ 0; decide
  | k + 1, h => by
    have h1 := len_pageF script which k fun b hb => h b (by omega)
    have h2 := len_itemF script which k (h k (by omega))
    show (pageF script which k ++ itemF script which k).length ≤ _
    rw [Str.length_append]; omega
theorem len_wayF {script : List Int} (H : StepsOk script) {b : Nat} (hb : b ≤ (codeF script).length) : (wayF script b).length ≤ 100 := by
  have l := len_fold (chainF script b) "/" fun y hy => (H.nm b hb y hy).2
  have lc : (chainF script b).length ≤ 8 := by rw [chainF, len_chainW]; exact (H.go b hb).2.2
  have l1 : (Str.ofString "/").length = 1 := by decide
  rw [l1] at l
  unfold wayF
  omega
theorem piece_at {ps : List Str} {i : Nat} (h : 2 * i + 1 < ps.length) : (dS ps)[(2 * (i : Int) + 1).toNat]? = some (.str (ps.getD (2 * i + 1) "")) := by
  have e : (2 * (i : Int) + 1).toNat = 2 * i + 1 := by omega
  rw [e, List.getElem?_map, List.getElem?_eq_getElem h, List.getD_eq_getElem?_getD, List.getElem?_eq_getElem h]; rfl
def gSgn (script : List Int) (which : Int) : D → D
  | .int b => .str (sgnF script which b.toNat)
  | d => d
def gMod (k : Int) : D → D
  | .int x => .int (x.fmod k)
  | d => d
theorem len_draws (script : List Int) : 2 ≤ (drawsF script).length ∧ (drawsF script).length ≤ 7 := by
  simp only [drawsF, List.length_append, List.length_map, List.length_take]
  simp
  omega
theorem draws_rg (script : List Int) (b : Nat) : 0 ≤ (drawsF script ++ [5]).getD b 0 ∧ (drawsF script ++ [5]).getD b 0 < 90 := by
  have all : ∀ x ∈ drawsF script ++ [5], 0 ≤ x ∧ x < 90 := fun x hx => by
    simp only [drawsF, List.mem_append, List.mem_map, List.mem_cons, List.not_mem_nil, or_false] at hx
    rcases hx with (⟨y, _, rfl⟩ | rfl | rfl) | rfl
    · exact ⟨Int.fmod_nonneg_of_pos y (by decide), Int.fmod_lt_of_pos y (by decide)⟩
    · decide
    · decide
    · decide
  by_cases h : b < (drawsF script ++ [5]).length
  · have : (drawsF script ++ [5]).getD b 0 = (drawsF script ++ [5])[b] := by rw [List.getD_eq_getElem?_getD, List.getElem?_eq_getElem h]; rfl
    rw [this]
    exact all _ (List.getElem_mem h)
  · have : (drawsF script ++ [5]).getD b 0 = 0 := by simp [List.getD, List.getElem?_eq_none (Nat.le_of_not_lt h)]
    rw [this]; decide

theorem len_str8 : ∀ b : Nat, b < 8 → (Str.ofString (toString ((b : Nat) : Int))).length = 1 := by decide
theorem pick5 (k : Int) (h : 0 ≤ k ∧ k < 5) : (dS ["&", "<", ">", "&lt;", "\r"])[k.toNat]? = some (.str ((["&", "<", ">", "&lt;", "\r"] : List Str).getD k.toNat "")) ∧ ((["&", "<", ">", "&lt;", "\r"] : List Str).getD k.toNat "").length ≤ 4 := by
  have : k = 0 ∨ k = 1 ∨ k = 2 ∨ k = 3 ∨ k = 4 := by omega
  rcases this with rfl | rfl | rfl | rfl | rfl <;> exact ⟨rfl, by decide⟩
theorem fm5 (x : Int) : 0 ≤ x.fmod 5 ∧ x.fmod 5 < 5 := ⟨Int.fmod_nonneg_of_pos x (by decide), Int.fmod_lt_of_pos x (by decide)⟩

end

section
open PySem PySem.W PyProof.Rows
set_option Elab.async false
set_option maxRecDepth 100000
set_option linter.unusedVariables false




def roofsF (script : List Int) : List Str := (plainsF script ((codeF script).length + 1)).map dirP
def readF (script : List Int) (b : Int) : Str := (plainsF script ((codeF script).length + 1)).getD b.toNat ""
def roofF (script : List Int) (b : Int) : Str := (roofsF script).getD b.toNat ""
def freeH (script : List Int) (here : List Int) : List Int := here.filter fun b => !(here.map (roofF script)).contains (readF script b)
def pairF (script : List Int) (b : Int) : D := .list [.str (Txt.slice (told3 (numF script b.toNat)) (some 1) none), .int b]
def leastH (script : List Int) (here : List Int) : Int := (freeH script here).getD (bestD ((freeH script here).map (pairF script))) 0
def hereN (script : List Int) : Nat → List Int
  | 0 => Mine.upto ((codeF script).length + 1)
  | k + 1 => (hereN script k).erase (leastH script (hereN script k))
def toldN (script : List Int) : Nat → List Str
  | 0 => []
  | k + 1 => toldN script k ++ [roofF script (leastH script (hereN script k))]
structure LoopOk (script : List Int) : Prop where
  ne : ∀ k, k ≤ (codeF script).length → freeH script (hereN script k) ≠ []
  en : hereN script ((codeF script).length + 1) = []
  told : toldN script ((codeF script).length + 1) = (codeF script).map (fun (a : Int) => if a ≤ ((codeF script).length : Int) then readF script a else ("/" : Str)) ++ [("/" : Str)]
theorem argBest_le (bt : Nat → Nat → Bool) : ∀ k, argBest bt k ≤ k
  | 0 => Nat.le_refl _
  | k + 1 => by
    unfold argBest
    split
    · exact Nat.le_refl _
    · exact Nat.le_succ_of_le (argBest_le bt k)
theorem bestD_lt {ds : List D} (h : 0 < ds.length) : bestD ds < ds.length := by
  have := argBest_le (fun i j => ltLL (ds.getD i .none) (ds.getD j .none)) (ds.length - 1)
  unfold bestD
  omega
theorem least_mem {script here : List Int} (h : freeH script here ≠ []) : (freeH script here)[bestD ((freeH script here).map (pairF script))]? = some (leastH script here) ∧ leastH script here ∈ here := by
  have h0 : 0 < ((freeH script here).map (pairF script)).length := by rw [List.length_map]; exact List.length_pos_iff.mpr h
  have h1 := bestD_lt h0
  rw [List.length_map] at h1
  have e : (freeH script here)[bestD ((freeH script here).map (pairF script))]? = some (leastH script here) := by
    rw [leastH, List.getElem?_eq_getElem h1, List.getD_eq_getElem?_getD, List.getElem?_eq_getElem h1]; rfl
  exact ⟨e, (List.mem_filter.mp (List.mem_of_getElem? e)).1⟩
theorem here_sub (script : List Int) : ∀ k, ∀ b ∈ hereN script k, 0 ≤ b ∧ b ≤ (codeF script).length
  | 0, b, h => by
    obtain ⟨i, hi, rfl⟩ := List.mem_map.mp h
    have := List.mem_range.mp hi
    omega
  | k + 1, b, h => here_sub script k b (List.mem_of_mem_erase h)
theorem here_len (script : List Int) : ∀ k, (hereN script k).length ≤ (codeF script).length + 1
  | 0 => by simp [hereN, Mine.upto]
  | k + 1 => Nat.le_trans (List.length_erase_le) (here_len script k)
end

section
open PySem PySem.W PyProof.Rows
set_option Elab.async false
set_option maxRecDepth 100000
set_option linter.unusedVariables false




def pFree (script here : List Int) : D → Bool
  | .int b => !(here.map (roofF script)).contains (readF script b)
  | _ => false
def gPair (script : List Int) : D → D
  | .int b => pairF script b
  | d => d
def gRoof (script : List Int) : D → D
  | .int b => .str (roofF script b)
  | d => d
def gEnd (script : List Int) : D → D
  | .int a => .str (if a ≤ ((codeF script).length : Int) then readF script a else ("/" : Str))
  | d => d
theorem filter_free (script here : List Int) : ((dI here).filter (pFree script here)).map (gPair script) = (freeH script here).map (pairF script) := by
  rw [dI, List.filter_map, List.map_map]
  rfl
theorem strs_at {l : List Str} {b : Int} {n : Nat} (hb : 0 ≤ b ∧ b ≤ n) (hl : l.length = n + 1) : (dS l)[b.toNat]? = some (.str (l.getD b.toNat "")) := by
  have h : b.toNat < l.length := by omega
  rw [List.getElem?_map, List.getElem?_eq_getElem h, List.getD_eq_getElem?_getD, List.getElem?_eq_getElem h]; rfl
section
variable {C : Cx} {n : Nat} {P : PySem.Params} {L f : Addr} {cdv : Value}
set_option maxHeartbeats 1000000 in
theorem law_walk3 (O : Own (C.law P L f cdv true) (n + 4)) (hK : (C.law P L f cdv true).K = hd.heap_1 P) (script : List Int) (hlo : LoopOk script) (h7 : (codeF script).length ≤ 7) :
    Xs (C.law P L f cdv true) [("told", true, .list []), ("here", true, .list (dI (Mine.upto ((codeF script).length + 1)))), ("roofs", false, .list (dS (roofsF script))), ("read", true, .list (dS (plainsF script ((codeF script).length + 1)))), ("signs", false, .list (dS ((numsF script ((codeF script).length + 1)).map told3))), ("plain", true, .list (dS (plainsF script ((codeF script).length + 1)))), ("code", false, .list (dI (codeF script))), ("last", false, .int (codeF script).length)] ((bodyAt (hd.heap_1 P) 221).drop 23) (.ret (.bool true)) := by
  have G' := O.toGood
  have at1 : ∀ l : List Int, ∀ d ∈ dI l, d.atom := fun l d hd => by obtain ⟨_, _, rfl⟩ := List.mem_map.mp hd; exact trivial
  have atS : ∀ l : List Str, ∀ d ∈ dS l, d.atom := fun l d hd => by obtain ⟨_, _, rfl⟩ := List.mem_map.mp hd; exact trivial
  have lrf : (roofsF script).length = (codeF script).length + 1 := by simp [roofsF, plainsF]
  have lrd : (plainsF script ((codeF script).length + 1)).length = (codeF script).length + 1 := by simp [plainsF]
  refine' X.cons (ρ₁ := [("told", true, .list (dS (toldN script ((codeF script).length + 1)))), ("here", true, .list (dI (hereN script ((codeF script).length + 1)))), ("roofs", false, .list (dS (roofsF script))), ("read", true, .list (dS (plainsF script ((codeF script).length + 1)))), ("signs", false, .list (dS ((numsF script ((codeF script).length + 1)).map told3))), ("plain", true, .list (dS (plainsF script ((codeF script).length + 1)))), ("code", false, .list (dI (codeF script))), ("last", false, .int (codeF script).length)])
    (X.while ((codeF script).length + 1) (fun k => [("told", true, .list (dS (toldN script k))), ("here", true, .list (dI (hereN script k))), ("roofs", false, .list (dS (roofsF script))), ("read", true, .list (dS (plainsF script ((codeF script).length + 1)))), ("signs", false, .list (dS ((numsF script ((codeF script).length + 1)).map told3))), ("plain", true, .list (dS (plainsF script ((codeF script).length + 1)))), ("code", false, .list (dI (codeF script))), ("last", false, .int (codeF script).length)]) O rfl rfl (fun k hk => ?wt) (fun k hk => ?wb) ?wf) ?r
  case wt =>
    have hne := hlo.ne k (by omega)
    refine' T.cmp (by walk_at "nm") (E.read (E.list V.nilN (by decide))) (Cmp.neLen G' ?ln) (by with_unfolding_all rfl)
    intro h
    apply hne
    have : hereN script k = [] := by simpa using h
    rw [this]; rfl
  case wf =>
    rw [hlo.en]
    exact T.cmp (by walk_at "nm") (E.cast (d' := .list (dI [])) (E.read (E.list V.nilN (by decide))) rfl) (Cmp.neSame G' (dI []) (at1 _)) (by with_unfolding_all rfl)
  case wb =>
    have hne := hlo.ne k (by omega)
    obtain ⟨hl1, hl2⟩ := least_mem hne
    have hsub := here_sub script k
    have hlen := here_len script k
    have eh : hereN script (k + 1) = (hereN script k).erase (leastH script (hereN script k)) := rfl
    have et : dS (toldN script (k + 1)) = dS (toldN script k) ++ [.str (roofF script (leastH script (hereN script k)))] := by simp [toldN]
    have lt : (dS (toldN script k)).length ≤ 16777216 := by
      have : ∀ j, (toldN script j).length = j := fun j => by
        induction j with
        | zero => rfl
        | succ j ih => simp [toldN, ih]
      rw [List.length_map, this]; omega
    rw [eh, et]
    generalize dS (toldN script k) = tds at lt ⊢
    generalize hereN script k = here at *
    refine' X.cons (X.compIf (own := false) (ρ' := [("read", .list (dS (plainsF script ((codeF script).length + 1)))), ("signs", .list (dS ((numsF script ((codeF script).length + 1)).map told3))), ("roofs", .list (dS (roofsF script))), ("here", .list (dI here))]) O (I.list G' (by walk_at "nm")) (by simp; omega) ⟨rfl, by decide, rfl, by decide, rfl, fun e he => ?sub⟩ (pFree script here) (gPair script) (fun Ca Gc d hd => ?test) (fun Ca Gc d hd _ => ?body) (fun h => by cases h) (.inl rfl) (by walk_at "rm") rfl (fun _ => rfl)) ?r2
    case sub =>
      simp only [List.mem_cons, List.not_mem_nil, or_false] at he
      rcases he with rfl | rfl | rfl | rfl
      · exact ⟨mem_rd (o := true) (by walk_at "mem"), rfl, fun _ => rfl, rfl⟩
      · exact ⟨mem_rd (o := false) (by walk_at "mem"), rfl, fun _ => rfl, rfl⟩
      · exact ⟨mem_rd (o := false) (by walk_at "mem"), rfl, fun _ => rfl, rfl⟩
      · exact ⟨mem_rd (o := true) (by walk_at "mem"), rfl, fun _ => rfl, rfl⟩
    case test =>
      obtain ⟨b, hbm, rfl⟩ := List.mem_map.mp hd
      have hb := hsub b hbm
      refine' T.cmp (E.idx (k := b) (d := .str (readF script b)) (by walk_at "nm") (by walk_at "nm") hb.1 (strs_at hb lrd) (by omega) (fun _ _ => rfl)) (E.read (E.castN (E.comp (ρ' := [("roofs", .list (dS (roofsF script)))]) Gc (I.list Gc (by walk_at "nm")) (by simp; omega) ⟨rfl, by decide, rfl, by decide, rfl, fun e he => ?sub2⟩ (gRoof script) (fun Cb Gd d hd => ?body2) (fun _ => rfl)) (d' := .list (dS (here.map (roofF script)))) ?cst2)) (Cmp.ninStrs _ _) (by with_unfolding_all rfl)
      case cst2 => simp [gRoof, Function.comp_def]
      case sub2 => rw [List.mem_singleton.mp he]; exact ⟨(by walk_at "mem"), rfl, fun _ => rfl, rfl⟩
      case body2 =>
        obtain ⟨c, hcm, rfl⟩ := List.mem_map.mp hd
        have hc := hsub c hcm
        show En _ _ _ (.str (roofF script c))
        exact E.new (by trivial) (E.idx (k := c) (by walk_at "nm") (by walk_at "nm") hc.1 (strs_at hc lrf) (by omega) (fun _ _ => rfl))
    case body =>
      obtain ⟨b, hbm, rfl⟩ := List.mem_map.mp hd
      have hb := hsub b hbm
      have hsg : (dS ((numsF script ((codeF script).length + 1)).map told3))[b.toNat]? = some (.str (told3 (numF script b.toNat))) := by
        have h : b.toNat < (codeF script).length + 1 := by omega
        rw [List.getElem?_map, List.getElem?_map, numsF, List.getElem?_map, List.getElem?_range h]; rfl
      have l10 : (told3 (numF script b.toNat)).length = 10 := (len_toldS (numF script b.toNat)).2.2.2
      show En _ _ _ (.list [.str (Txt.slice (told3 (numF script b.toNat)) (some 1) none), .int b])
      exact E.list (V.consN (E.new (by trivial) (E.sFrom (E.idx (k := b) (by walk_at "nm") (by walk_at "nm") hb.1 hsg (by omega) (fun _ _ => rfl)) (E.int _ _ _) (by rw [l10]; decide))) (V.consN (E.new (by trivial) (by walk_at "nm")) V.nilN rfl) rfl) (by show 2 ≤ 16777216; decide)
    case r2 =>
      rw [filter_free]
      have hle := hsub _ hl2
      have hfl : 0 < ((freeH script here).map (pairF script)).length := by rw [List.length_map]; exact List.length_pos_iff.mpr hne
      refine' X.cons (X.ifF O (T.cmp (by walk_at "nm") (E.read (E.list V.nilN (by decide))) (Cmp.eqLen G' (by simp only [List.length_nil]; omega)) (by with_unfolding_all rfl)) X.nil) ?_
      have hbest : ((freeH script here).map (pairF script))[bestD ((freeH script here).map (pairF script))]? = some (pairF script (leastH script here)) := by
        rw [List.getElem?_map, hl1]; rfl
      refine' X.cons (X.set (d := .int (leastH script here)) O (E.idx (k := 1) (ds := [.str (Txt.slice (told3 (numF script (leastH script here).toNat)) (some 1) none), .int (leastH script here)]) (E.minL G' (by walk_at "bi") (by walk_at "nm") hfl (fun i j a b ha hb => ?kk) hbest rfl) (E.int _ _ _) (by decide) rfl (by decide) (fun _ _ => rfl)) (by trivial) (.inl rfl) (by walk_at "rm") rfl) ?_
      case kk =>
        rw [List.getElem?_map] at ha hb
        obtain ⟨x, _, rfl⟩ := Option.map_eq_some_iff.mp ha
        obtain ⟨y, _, rfl⟩ := Option.map_eq_some_iff.mp hb
        exact ⟨_, _, rfl, rfl, rfl⟩
      refine' X.cons (X.append (d := .str (roofF script (leastH script here))) O (by walk_at "mem") (E.idx (k := leastH script here) (by walk_at "nm") (by walk_at "nm") hle.1 (strs_at hle lrf) (by omega) (fun _ _ => rfl)) (by walk_at "rm") (by trivial) lt (by exact ⟨⟨_, rfl⟩⟩) (by decide) (by rfl) (by rfl) (by rfl)) ?_
      obtain ⟨j, hj, hjb⟩ := first_at hl2
      rw [← hjb.1]
      refine' X.cons (X.remove O (by walk_at "mem") (by walk_at "nm") (by walk_at "rm") hj hjb.2 (by omega) (by exact ⟨⟨_, rfl⟩⟩) (by decide) (by rfl) (by rfl) (by rfl)) (X.drop fun e he => ?drp)
      simp only [List.mem_cons, List.not_mem_nil, or_false] at he
      rcases he with rfl | rfl | rfl | rfl | rfl | rfl | rfl | rfl <;> simp
  case r =>
    have e : dS (toldN script ((codeF script).length + 1)) = (dI (codeF script)).map (gEnd script) ++ [.str "/"] := by
      rw [hlo.told]
      simp only [dS, dI, List.map_append, List.map_map, List.map_cons, List.map_nil]
      rfl
    rw [e]
    have hat : ∀ d ∈ (dI (codeF script)).map (gEnd script) ++ [.str "/"], d.atom := fun d hd => by rw [← e] at hd; exact atS _ d hd
    refine' X.end (X.ret O (E.cmp (by walk_at "nm") (E.read (E.addL (E.read (E.comp (ρ' := [("plain", .list (dS (plainsF script ((codeF script).length + 1)))), ("last", .int (codeF script).length)]) G' (I.list G' (by walk_at "nm")) (by simp; omega) ⟨rfl, by decide, rfl, by decide, rfl, fun e he => ?sub⟩ (gEnd script) (fun Ca Gc d hd => ?body) (fun _ => rfl))) (E.read (E.list (V.consN (E.new (by trivial) (E.str _ _ _)) V.nilN rfl) (by decide))) (by simp; omega) hat)) (Cmp.eqSame G' _ hat) (by with_unfolding_all rfl)) trivial)
    case sub =>
      simp only [List.mem_cons, List.not_mem_nil, or_false] at he
      rcases he with rfl | rfl
      · exact ⟨mem_rd (o := true) (by walk_at "mem"), rfl, fun _ => rfl, rfl⟩
      · exact ⟨mem_rd (o := false) (by walk_at "mem"), rfl, fun _ => rfl, rfl⟩
    case body =>
      obtain ⟨a, ham, rfl⟩ := List.mem_map.mp hd
      have ha0 : 0 ≤ a := by
        obtain ⟨x, _, rfl⟩ := List.mem_map.mp ham
        exact Int.fmod_nonneg_of_pos x (by omega)
      show En _ _ _ (.str (if a ≤ ((codeF script).length : Int) then readF script a else ("/" : Str)))
      refine' E.new (by trivial) (E.ite (c := decide (a ≤ ((codeF script).length : Int))) (T.cmp (by walk_at "nm") (by walk_at "nm") (Cmp.leInt _ _) (by with_unfolding_all rfl)) (fun h => ?y) (fun h => ?n))
      case y =>
        have h' : a ≤ ((codeF script).length : Int) := by simpa using h
        rw [if_pos h']
        exact E.idx (k := a) (by walk_at "nm") (by walk_at "nm") ha0 (strs_at ⟨ha0, h'⟩ lrd) (by omega) (fun _ _ => rfl)
      case n =>
        have h' : ¬ a ≤ ((codeF script).length : Int) := by simpa using h
        rw [if_neg h']
        exact E.str _ _ _
end
end

section
open PySem PySem.W PyProof.Rows
set_option Elab.async false
set_option maxRecDepth 100000
set_option linter.unusedVariables false




theorem len_sl (x : Str) (a b : Option Int) {k : Nat} (h : x.length ≤ k) : (Txt.slice x a b).length ≤ k := Nat.le_trans (Txt.slice_le _ _ _) h
theorem len_rep1 (x y z : Str) {a : Nat} (hz : z.length = 1) (h : x.length ≤ a) : (Txt.replace x y z).length ≤ 2 * a + 1 := by
  have := len_replace x y z
  rw [hz] at this
  omega
def gTold : D → D
  | .int x => .str (told3 x)
  | d => d
def gDir : D → D
  | .str x => .str (dirP x)
  | d => d
def gIsD : D → D
  | .int x => .bool (Builtin.bitAnd x 61440 == 16384)
  | d => d
def gIn (xs : List Str) : D → D
  | .str x => .bool (xs.contains x)
  | d => d
theorem len_plainF {script : List Int} (H : StepsOk script) {b : Nat} (hb : b ≤ (codeF script).length) : (plainF script b).length ≤ 101 := by
  have h := sum_le fun x hx => (H.nm b hb x hx).2
  have lc : (chainF script b).length ≤ 8 := by rw [chainF, len_chainW]; exact (H.go b hb).2.2
  have l1 : (Str.ofString "/").length = 1 := by decide
  unfold plainF Txt.join
  rw [Str.length_append, size_glued, l1]
  omega
section
variable {C : Cx} {n : Nat} {P : PySem.Params} {L f : Addr} {cdv : Value}
set_option maxHeartbeats 1000000 in
theorem law_walk2 (O : Own (C.law P L f cdv true) (n + 4)) (hK : (C.law P L f cdv true).K = hd.heap_1 P) (script : List Int) (which : Int) (hst : StepsOk script) (hpg : PageOk script which) (hlo : LoopOk script) (last : Nat) (ld : 2 ≤ last ∧ last ≤ 7) (hcl : (codeF script).length = last) :
    Xs (C.law P L f cdv true) [("signs", false, .list (dS ((numsF script (last + 1)).map told3))), ("pieces", false, .list (dS (piecesF script which))), ("plain", true, .list (dS (plainsF script (last + 1)))), ("numbers", true, .list (dI (numsF script (last + 1)))), ("code", false, .list (dI (codeF script))), ("last", false, .int last), ("which", false, .int which)] ((bodyAt (hd.heap_1 P) 221).drop 16) (.ret (.bool true)) := by
  have G' := O.toGood
  have hpl := hpg.pl
  rw [hcl] at hpl
  refine' X.cons (X.empty O (.inr ⟨rfl, _, rfl⟩) (by walk_at "rm") rfl) ?_
  refine' X.cons (ρ₁ := [("read", true, .list (dS (plainsF script (last + 1)))), ("signs", false, .list (dS ((numsF script (last + 1)).map told3))), ("pieces", false, .list (dS (piecesF script which))), ("plain", true, .list (dS (plainsF script (last + 1)))), ("numbers", true, .list (dI (numsF script (last + 1)))), ("code", false, .list (dI (codeF script))), ("last", false, .int last), ("which", false, .int which)]) (X.for (dI (Mine.upto (last + 1))) (fun i => [("read", true, .list (dS (plainsF script i))), ("signs", false, .list (dS ((numsF script (last + 1)).map told3))), ("pieces", false, .list (dS (piecesF script which))), ("plain", true, .list (dS (plainsF script (last + 1)))), ("numbers", true, .list (dI (numsF script (last + 1)))), ("code", false, .list (dI (codeF script))), ("last", false, .int last), ("which", false, .int which)]) O
      (F.range (m := last + 1) O (by walk_at "bi") (E.cast (d := .int ((last : Int) + 1)) (by walk_at "ev") (by push_cast; rfl)) (by omega) rfl) rfl (by rw [upto_len]) (fun i d hd => ?turn17) (fun _ => rfl)) ?r17
  case turn17 =>
    obtain ⟨hi, rfl⟩ := upto_get hd
    have hmi : IntMulOk 2 (i : Int) := IntMulOk.of_left (by decide)
    have hps := hpg.ps i (by omega)
    obtain ⟨n1, n2⟩ := hpg.no i (by omega)
    have hrd := hpg.rd i (by omega)
    have e1 : dS (plainsF script (i + 1)) = dS (plainsF script i) ++ [.str (plainF script i)] := by simp [plainsF, List.range_succ]
    have l1 : (dS (plainsF script i)).length ≤ 16777216 := by simp [plainsF]; omega
    rw [e1]
    generalize dS (plainsF script i) = pls at l1 ⊢
    have lt : (txtF script which i).length ≤ 100000 := len_sl _ _ _ hps
    have z1 : (Str.ofString "<").length = 1 := by decide
    have z2 : (Str.ofString ">").length = 1 := by decide
    have z3 : (Str.ofString "\r").length = 1 := by decide
    have z4 : (Str.ofString "&").length = 1 := by decide
    have t1 := len_rep1 (txtF script which i) "&lt;" "<" z1 lt
    have t2 := len_rep1 _ "&gt;" ">" z2 t1
    have t3 := len_rep1 _ "&#xD;" "\r" z3 t2
    refine' ⟨_, A.name O (.inl rfl) (by walk_at "rm"), ?_⟩
    refine' X.cons (X.set (d := .str (txtF script which i)) O (E.sFrom (E.idx (k := 2 * (i : Int) + 1) (by walk_at "nm") (by walk_at "ev") (by omega) (piece_at (by omega)) (by omega) (fun _ _ => rfl)) (E.int _ _ _) (Nat.le_trans hps (by decide))) (by trivial) (.inl rfl) (by walk_at "rm") rfl) ?_
    refine' X.cons (X.ifF O (T.cast (T.or (T.cmp (E.str _ _ _) (by walk_at "nm") (Cmp.inStr _ _) (by with_unfolding_all rfl)) (fun _ => T.and (T.cmp (by walk_at "nm") (E.int _ _ _) (Cmp.eqInt _ _) (by with_unfolding_all rfl)) (fun _ => T.cmp (E.str _ _ _) (by walk_at "nm") (Cmp.inStr _ _) (by with_unfolding_all rfl)))) ?c18) X.nil) ?_
    case c18 =>
      rw [n1, Bool.false_or]
      by_cases hw : which = 1
      · rw [n2 hw, Bool.and_false]
      · have : (which == 1) = false := by simpa using hw
        rw [this, Bool.false_and]
    refine' X.cons (X.append (d := .str (plainF script i)) O (by walk_at "mem") (E.cast (E.repl rfl (E.repl rfl (E.repl rfl (E.repl rfl (by walk_at "nm") (by decide) (hb_of lt z1 (by decide)) (by exact ⟨⟨_, rfl⟩⟩)) (by decide) (hb_of t1 z2 (by decide)) (by exact ⟨⟨_, rfl⟩⟩)) (by decide) (hb_of t2 z3 (by decide)) (by exact ⟨⟨_, rfl⟩⟩)) (by decide) (hb_of t3 z4 (by decide)) (by exact ⟨⟨_, rfl⟩⟩)) (by rw [← hrd]; rfl)) (by walk_at "rm") (by trivial) l1 (by exact ⟨⟨_, rfl⟩⟩) (by decide) (by rfl) (by rfl) (by rfl)) (X.drop fun e he => ?drp)
    case drp =>
      simp only [List.mem_cons, List.not_mem_nil, or_false] at he
      rcases he with rfl | rfl | rfl | rfl | rfl | rfl | rfl | rfl <;> simp
  have at1 : ∀ l : List Int, ∀ d ∈ dI l, d.atom := fun l d hd => by obtain ⟨_, _, rfl⟩ := List.mem_map.mp hd; exact trivial
  have atS : ∀ l : List Str, ∀ d ∈ dS l, d.atom := fun l d hd => by obtain ⟨_, _, rfl⟩ := List.mem_map.mp hd; exact trivial
  have ln : (dI (numsF script (last + 1))).length ≤ 16777216 := by simp [numsF]; omega
  have lr : (dS (plainsF script (last + 1))).length ≤ 16777216 := by simp [plainsF]; omega
  refine' X.cons (X.ifF O (T.cast (T.or (T.cmp (by walk_at "nm") (E.read (E.castN (E.comp (ρ' := []) G' (I.list G' (by walk_at "nm")) ln ⟨rfl, by decide, rfl, by decide, rfl, fun e he => nomatch he⟩ gTold (fun Ca Gc d hd => ?tb) (fun _ => rfl)) ?tc)) (Cmp.neSame G' _ (atS _)) (by with_unfolding_all rfl)) (fun _ => T.cmp (by walk_at "nm") (by walk_at "nm") (Cmp.neSame G' _ (atS _)) (by with_unfolding_all rfl))) rfl) X.nil) ?_
  case tc => simp [gTold, Function.comp_def]
  case tb =>
    obtain ⟨x, _, rfl⟩ := List.mem_map.mp hd
    show En _ _ _ (.str (told3 x))
    exact (E.fn Gc (f_signs Gc hK x) (V.cons (by walk_at "nm") V.nil rfl) (top_at hK (by kernel_rfl)) (keep_at hK (by kernel_rfl)) rfl (by decide) rfl rfl)
  refine' X.cons (X.setN (d := .list (dS ((plainsF script (last + 1)).map dirP))) O (E.castN (E.comp (ρ' := []) G' (I.list G' (by walk_at "nm")) lr ⟨rfl, by decide, rfl, by decide, rfl, fun e he => nomatch he⟩ gDir (fun Ca Gc d hd => ?rb) (fun _ => rfl)) ?rc) (.inr ⟨rfl, _, rfl⟩) (by walk_at "rm") rfl) ?_
  case rc => simp [gDir, Function.comp_def]
  case rb =>
    obtain ⟨x, hx, rfl⟩ := List.mem_map.mp hd
    obtain ⟨b, hb, rfl⟩ := List.mem_map.mp hx
    have := len_plainF hst (b := b) (by have := List.mem_range.mp hb; omega)
    show En _ _ _ (.str (dirP (plainF script b)))
    exact (E.fn Gc (f_dirname Gc hK _ (by omega)) (V.cons (by walk_at "nm") V.nil rfl) (top_at hK (by kernel_rfl)) (keep_at hK (by kernel_rfl)) rfl (by decide) rfl rfl)
  have hdr : (dS (plainsF script (last + 1))).map (gIn ((plainsF script (last + 1)).map dirP)) = (dI (numsF script (last + 1))).map gIsD := by
    generalize hrf : (plainsF script (last + 1)).map dirP = rf
    simp only [plainsF, numsF, dS, dI, List.map_map]
    refine List.map_congr_left fun b hb => ?_
    have hb' : b < last + 1 := List.mem_range.mp hb
    have := hpg.dr b (by omega)
    rw [hcl, hrf] at this
    show D.bool (rf.contains (plainF script b)) = D.bool (Builtin.bitAnd (numF script b) 61440 == 16384)
    rw [this]
  refine' X.cons (X.ifF O (T.cmp (E.read (E.comp (ρ' := []) G' (I.list G' (by walk_at "nm")) ln ⟨rfl, by decide, rfl, by decide, rfl, fun e he => nomatch he⟩ gIsD (fun Ca Gc d hd => ?ib) (fun _ => rfl))) (E.read (E.castN (E.comp (ρ' := [("roofs", .list (dS ((plainsF script (last + 1)).map dirP)))]) G' (I.list G' (by walk_at "nm")) lr ⟨rfl, by decide, rfl, by decide, rfl, fun e he => ?isub⟩ (gIn ((plainsF script (last + 1)).map dirP)) (fun Ca Gc d hd => ?jb) (fun _ => rfl)) (by rw [hdr]))) (Cmp.neSame G' _ (fun d hd => ?iat)) (by with_unfolding_all rfl)) X.nil) ?_
  case isub => rw [List.mem_singleton.mp he]; exact ⟨mem_rd (o := false) (by walk_at "mem"), rfl, fun _ => rfl, rfl⟩
  case ib =>
    obtain ⟨x, _, rfl⟩ := List.mem_map.mp hd
    show En _ _ _ (.bool (Builtin.bitAnd x 61440 == 16384))
    exact (E.fn Gc (f_ISDIR Gc hK x) (V.cons (by walk_at "nm") V.nil rfl) (top_at hK (by kernel_rfl)) (keep_at hK (by kernel_rfl)) rfl (by decide) rfl rfl)
  case jb =>
    obtain ⟨x, _, rfl⟩ := List.mem_map.mp hd
    show En _ _ _ (.bool (((plainsF script (last + 1)).map dirP).contains x))
    exact E.new (by trivial) (E.cmp (by walk_at "nm") (by walk_at "nm") (Cmp.inStrs _ _) (by with_unfolding_all rfl))
  case iat =>
    obtain ⟨x, hx, rfl⟩ := List.mem_map.mp hd
    obtain ⟨y, _, rfl⟩ := List.mem_map.mp hx
    exact trivial
  refine' X.cons (X.own (ds := dI (Mine.upto (last + 1))) O (E.listRange G' (by walk_at "bi") (by walk_at "bi") (E.cast (d := .int ((last : Int) + 1)) (by walk_at "ev") (by push_cast; rfl)) (by omega) rfl rfl) (at1 _) (.inr ⟨rfl, _, rfl⟩) (by walk_at "rm") rfl) ?_
  refine' X.cons (X.empty O (.inl rfl) (by walk_at "rm") rfl) ?_
  subst hcl
  refine' X.pre (law_walk3 O hK script hlo ld.2) (fun e he => ?_)
  simp only [List.mem_cons, List.not_mem_nil, or_false] at he
  rcases he with rfl | rfl | rfl | rfl | rfl | rfl | rfl | rfl <;> simp [roofsF]
end
end

section
open PySem PySem.W PyProof.Rows
set_option Elab.async false
set_option maxRecDepth 100000
set_option linter.unusedVariables false




section
variable {C : Cx} {n : Nat} {P : PySem.Params} {L f : Addr} {cdv : Value}
set_option maxHeartbeats 1000000 in
theorem law_walk (O : Own (C.law P L f cdv true) (n + 4)) (hK : (C.law P L f cdv true).K = hd.heap_1 P) (script : List Int) (hs : script.length ≤ 63) (which : Int) (hw : which = 0 ∨ which = 1) (hst : StepsOk script) (hlv : (C.law P L f cdv true).lv = [(("_filemode_table" : Str), tabsW)]) (hpg : PageOk script which) (hlo : LoopOk script) :
    Xs (C.law P L f cdv true) [("which", false, .int which), ("script", false, .list (dI script))] (bodyAt (hd.heap_1 P) 221).tail (.ret (.bool true)) := by
  have G' := O.toGood
  have at1 : ∀ l : List Int, ∀ d ∈ dI l, d.atom := fun l d hd => by obtain ⟨_, _, rfl⟩ := List.mem_map.mp hd; exact trivial
  have atS : ∀ l : List Str, ∀ d ∈ dS l, d.atom := fun l d hd => by obtain ⟨_, _, rfl⟩ := List.mem_map.mp hd; exact trivial
  have ld := len_draws script
  generalize hl : (drawsF script).length = last at ld
  -- draws
  refine' X.cons (ρ₁ := [("draws", false, .list (dI (drawsF script))), ("which", false, .int which), ("script", false, .list (dI script))]) ?s2 ?r2
  case s2 =>
    have e : dI (drawsF script) = (dI (script.take 5)).map (gMod 90) ++ [.int 17, .int 40] := by simp [drawsF, gMod, Function.comp_def]
    rw [e]
    refine' X.setN O (E.addL (a := (dI (script.take 5)).map (gMod 90)) (b := [.int 17, .int 40]) (E.read (E.comp (ρ' := []) G' (I.list G' (E.read (E.castN (E.lUpto (k := 5) (by walk_at "nm") (E.cast (E.int _ _ _) (by rfl)) (at1 _) (by simp; omega)) (by rw [dI, dI, List.map_take])))) (by simp; omega) ⟨rfl, by decide, rfl, by decide, rfl, fun e he => nomatch he⟩ (gMod 90) (fun Ca Gc d hd => ?body) (fun _ => rfl))) (E.read (E.list (V.consN (E.new (by trivial) (E.int _ _ _)) (V.consN (E.new (by trivial) (E.int _ _ _)) V.nilN rfl) rfl) (by decide))) (by simp; omega) (fun d hd => ?atm)) (.inl rfl) (by walk_at "rm") rfl
    case body =>
      obtain ⟨x, _, rfl⟩ := List.mem_map.mp hd
      show En _ _ _ (.int (x.fmod 90))
      exact E.new (by trivial) (by walk_at "ev")
    case atm =>
      rw [← e] at hd
      exact at1 _ d hd
  -- last
  refine' X.cons (X.set (d := .int last) O (E.cast (E.lenL G' (by walk_at "bi") (by walk_at "nm") (by simp; omega) rfl) (by simp [hl])) (by trivial) (.inr ⟨rfl, _, rfl⟩) (by walk_at "rm") rfl) ?_
  -- code
  refine' X.cons (ρ₁ := [("code", false, .list (dI (codeF script))), ("last", false, .int last), ("draws", false, .list (dI (drawsF script))), ("which", false, .int which), ("script", false, .list (dI script))]) ?s4 ?r4
  case s4 =>
    have e : dI (codeF script) = (dI (drawsF script)).map (gMod (last + 2)) := by simp [codeF, gMod, Function.comp_def, hl]
    rw [e]
    refine' X.comp (ρ' := [("last", .int last)]) O (I.list G' (by walk_at "nm")) (by simp; omega) ⟨rfl, by decide, rfl, by decide, rfl, fun e he => ?sub⟩ (gMod (last + 2)) (fun Ca Gc d hd => ?body) (fun h => by cases h) (.inl rfl) (by walk_at "rm") rfl (fun _ => rfl)
    case sub => rw [List.mem_singleton.mp he]; exact ⟨mem_rd (o := false) (by walk_at "mem"), rfl, fun _ => rfl, rfl⟩
    case body =>
      obtain ⟨x, _, rfl⟩ := List.mem_map.mp hd
      show En _ _ _ (.int (x.fmod (last + 2)))
      have h0 : ((last : Int) + 2) ≠ 0 := by omega
      exact E.new (by trivial) (by walk_at "ev")
  have hcl : (codeF script).length = last := by simp [codeF, hl]
  refine' X.cons (X.empty O (.inl rfl) (by walk_at "rm") rfl) ?_
  refine' X.cons (X.empty O (.inl rfl) (by walk_at "rm") rfl) ?_
  refine' X.cons (ρ₁ := [("names", true, .list (dS (namesF script (last + 1)))), ("numbers", true, .list (dI (numsF script (last + 1)))), ("code", false, .list (dI (codeF script))), ("last", false, .int last), ("draws", false, .list (dI (drawsF script))), ("which", false, .int which), ("script", false, .list (dI script))])
    (X.for (dI (Mine.upto (last + 1))) (fun i => [("names", true, .list (dS (namesF script i))), ("numbers", true, .list (dI (numsF script i))), ("code", false, .list (dI (codeF script))), ("last", false, .int last), ("draws", false, .list (dI (drawsF script))), ("which", false, .int which), ("script", false, .list (dI script))]) O
      (F.range (m := last + 1) O (by walk_at "bi") (E.cast (d := .int ((last : Int) + 1)) (by walk_at "ev") (by push_cast; rfl)) (by omega) rfl) rfl (by rw [upto_len]) (fun i d hd => ?turn7) (fun _ => rfl)) ?r7
  case turn7 =>
    obtain ⟨hi, rfl⟩ := upto_get hd
    have dr := draws_rg script i
    have hdr : (dI (drawsF script) ++ [.int 5])[((i : Nat) : Int).toNat]? = some (.int ((drawsF script ++ [5]).getD i 0)) := by
      have e : dI (drawsF script) ++ [.int 5] = dI (drawsF script ++ [5]) := by simp
      rw [e]
      show (dI (drawsF script ++ [5]))[i]? = _
      have h : i < (drawsF script ++ [5]).length := by simp; omega
      rw [List.getElem?_map, List.getElem?_eq_getElem h, List.getD_eq_getElem?_getD, List.getElem?_eq_getElem h]; rfl
    have e1 : dS (namesF script (i + 1)) = dS (namesF script i) ++ [.str (nameF script i)] := by simp [namesF, List.range_succ]
    have e2 : dI (numsF script (i + 1)) = dI (numsF script i) ++ [.int (numF script i)] := by simp [numsF, List.range_succ]
    have l1 : (dS (namesF script i)).length ≤ 16777216 := by simp [namesF]; omega
    have l2 : (dI (numsF script i)).length ≤ 16777216 := by simp [numsF]; omega
    rw [e1, e2]
    have p5 := pick5 _ (fm5 ((drawsF script ++ [5]).getD i 0 + i))
    have l3 := len_str8 i (by omega)
    have hmul : IntMulOk ((drawsF script ++ [5]).getD i 0) 43 := IntMulOk.of_right (by decide)
    have log : ((i : Nat) : Int).natAbs.log2 < 1920 := by
      show i.log2 < 1920
      by_cases h0 : i = 0
      · subst h0; decide
      · have := Nat.log2_le_self i; omega
    refine' ⟨_, A.name O (.inl rfl) (by walk_at "rm"), ?_⟩
    refine' X.cons (X.set (d := .int ((drawsF script ++ [5]).getD i 0)) O (E.idx (k := (i : Int)) (ds := dI (drawsF script) ++ [.int 5]) (E.read (E.addL (by walk_at "nm") (E.read (E.list (V.consN (E.new (by trivial) (E.int _ _ _)) V.nilN rfl) (by decide))) (by simp; omega) (fun d hd => ?atm))) (by walk_at "nm") (by omega) hdr (by omega) (fun _ _ => rfl)) (by trivial) (.inl rfl) (by walk_at "rm") rfl) ?_
    case atm =>
      rcases List.mem_append.mp hd with h | h
      · exact at1 _ d h
      · rw [List.mem_singleton.mp h]; trivial
    refine' X.cons (X.set (d := .int (rightsF script i)) O (E.cast (d := .int ((drawsF script ++ [5]).getD i 0 * 43)) (by walk_at "ev") rfl) (by trivial) (.inl rfl) (by walk_at "rm") rfl) ?_
    refine' X.cons (X.append (d := .int (numF script i)) O (by walk_at "mem") (E.cast (E.add (E.sub (E.add (E.iteI (T.cmp (by walk_at "nm") (by walk_at "nm") (Cmp.inInts _ _) (by with_unfolding_all rfl)) (E.int _ _ _) (E.int _ _ _)) (by walk_at "nm")) (by walk_at "ev")) (by walk_at "nm")) rfl) (by walk_at "rm") (by trivial) l2 (by exact ⟨⟨_, rfl⟩⟩) (by decide) (by rfl) (by rfl) (by rfl)) ?_
    refine' X.cons (X.append (d := .str (nameF script i)) O (by walk_at "mem") (E.cast (E.cat (E.idx (k := ((drawsF script ++ [5]).getD i 0 + (i : Int)).fmod 5) (ds := dS ["&", "<", ">", "&lt;", "\r"]) (E.read (E.list (V.consN (E.new (by trivial) (E.str _ _ _)) (V.consN (E.new (by trivial) (E.str _ _ _)) (V.consN (E.new (by trivial) (E.str _ _ _)) (V.consN (E.new (by trivial) (E.str _ _ _)) (V.consN (E.new (by trivial) (E.str _ _ _)) V.nilN rfl) rfl) rfl) rfl) rfl) (by decide))) (by walk_at "ev") (fm5 _).1 p5.1 (by have := (fm5 ((drawsF script ++ [5]).getD i 0 + (i : Int))).2; omega) (fun _ _ => rfl)) (E.strI G' (by walk_at "bi") (by walk_at "nm") log rfl) (by have := p5.2; omega)) rfl) (by walk_at "rm") (by trivial) l1 (by exact ⟨⟨_, rfl⟩⟩) (by decide) (by rfl) (by rfl) (by rfl)) (X.drop fun e he => ?dr)
    case dr =>
      simp only [List.mem_cons, List.not_mem_nil, or_false] at he
      rcases he with rfl | rfl | rfl | rfl | rfl | rfl | rfl <;> simp
  have hnl : (numsF script (last + 1)).length = (codeF script).length + 1 := by simp [numsF, hcl]
  refine' X.cons (X.setN (d := .list (dI (aboveF script))) O (E.castN (E.fn G' (f_tree G' hK (codeF script) (numsF script (last + 1)) (by omega) (by omega) hnl) (V.cons (by walk_at "nm") (V.cons (by walk_at "nm") V.nil rfl) rfl) (top_at hK (by kernel_rfl)) (keep_at hK (by kernel_rfl)) rfl (by decide) rfl rfl) (by rw [aboveF, hcl])) (.inl rfl) (by walk_at "rm") rfl) ?_
  refine' X.cons (X.empty O (.inl rfl) (by walk_at "rm") rfl) ?_
  refine' X.cons (X.empty O (.inr ⟨rfl, _, rfl⟩) (by walk_at "rm") rfl) ?_
  refine' X.cons (ρ₁ := [("plain", true, .list (dS (plainsF script (last + 1)))), ("ways", true, .list (dS (waysF script (last + 1)))), ("above", false, .list (dI (aboveF script))), ("names", true, .list (dS (namesF script (last + 1)))), ("numbers", true, .list (dI (numsF script (last + 1)))), ("code", false, .list (dI (codeF script))), ("last", false, .int last), ("draws", false, .list (dI (drawsF script))), ("which", false, .int which), ("script", false, .list (dI script))])
    (X.for (dI (Mine.upto (last + 1))) (fun i => [("plain", true, .list (dS (plainsF script i))), ("ways", true, .list (dS (waysF script i))), ("above", false, .list (dI (aboveF script))), ("names", true, .list (dS (namesF script (last + 1)))), ("numbers", true, .list (dI (numsF script (last + 1)))), ("code", false, .list (dI (codeF script))), ("last", false, .int last), ("draws", false, .list (dI (drawsF script))), ("which", false, .int which), ("script", false, .list (dI script))]) O
      (F.range (m := last + 1) O (by walk_at "bi") (E.cast (d := .int ((last : Int) + 1)) (by walk_at "ev") (by push_cast; rfl)) (by omega) rfl) rfl (by rw [upto_len]) (fun i d hd => ?turn10) (fun _ => rfl)) ?r10
  case turn10 =>
    obtain ⟨hi, rfl⟩ := upto_get hd
    obtain ⟨g1, g2, g3⟩ := hst.go i (by omega)
    rw [hcl] at g1 g2
    have hnm := hst.nm i (by omega)
    have lch : (chainF script i).length ≤ 8 := by rw [chainF, len_chainW]; exact g3
    have e1 : dS (plainsF script (i + 1)) = dS (plainsF script i) ++ [.str (plainF script i)] := by simp [plainsF, List.range_succ]
    have e2 : dS (waysF script (i + 1)) = dS (waysF script i) ++ [.str (wayF script i)] := by simp [waysF, List.range_succ]
    have l1 : (dS (plainsF script i)).length ≤ 16777216 := by simp [plainsF]; omega
    have l2 : (dS (waysF script i)).length ≤ 16777216 := by simp [waysF]; omega
    have lsl : (Str.ofString "/").length = 1 := by decide
    rw [e1, e2]
    generalize dS (plainsF script i) = pls at l1 ⊢
    generalize dS (waysF script i) = wys at l2 ⊢
    have lab : (aboveF script).length = last + 1 := by rw [aboveF, tree_len, hcl]
    have lnm : (namesF script (last + 1)).length = last + 1 := by simp [namesF]
    refine' ⟨_, A.name O (.inl rfl) (by walk_at "rm"), ?_⟩
    refine' X.cons (X.setN (d := .list []) O (E.list V.nilN (by decide)) (.inl rfl) (by walk_at "rm") rfl) ?_
    refine' X.cons (X.set (d := .int i) O (by walk_at "nm") (by trivial) (.inl rfl) (by walk_at "rm") rfl) ?_
    refine' X.cons (ρ₁ := [("at", false, .int (chainW script i (stepsF script i)).1), ("chain", false, .list (dS (chainF script i))), ("b", false, .int i), ("plain", true, .list pls), ("ways", true, .list wys), ("above", false, .list (dI (aboveF script))), ("names", true, .list (dS (namesF script (last + 1)))), ("numbers", true, .list (dI (numsF script (last + 1)))), ("code", false, .list (dI (codeF script))), ("last", false, .int last), ("draws", false, .list (dI (drawsF script))), ("which", false, .int which), ("script", false, .list (dI script))])
      (X.while (stepsF script i) (fun j => [("at", false, .int (chainW script i j).1), ("chain", false, .list (dS (chainW script i j).2)), ("b", false, .int i), ("plain", true, .list pls), ("ways", true, .list wys), ("above", false, .list (dI (aboveF script))), ("names", true, .list (dS (namesF script (last + 1)))), ("numbers", true, .list (dI (numsF script (last + 1)))), ("code", false, .list (dI (codeF script))), ("last", false, .int last), ("draws", false, .list (dI (drawsF script))), ("which", false, .int which), ("script", false, .list (dI script))]) O rfl rfl (fun j hj => ?wt) (fun j hj => ?wb) ?wf) ?rw
    case wt => exact T.cast (T.cmp (by walk_at "nm") (by walk_at "nm") (Cmp.leInt _ _) (by with_unfolding_all rfl)) (by simpa using (g1 j hj).2)
    case wf => exact T.cast (T.cmp (by walk_at "nm") (by walk_at "nm") (Cmp.leInt _ _) (by with_unfolding_all rfl)) (by simpa using g2)
    case wb =>
      obtain ⟨q0, q1⟩ := g1 j hj
      have es : chainW script i (j + 1) = ((aboveF script).getD (chainW script i j).1.toNat 0, (namesF script (last + 1)).getD (chainW script i j).1.toNat "" :: (chainW script i j).2) := by rw [chainW, hcl]
      have lcj := len_chainW script i j
      rw [es]
      generalize hat : (chainW script i j).1 = at0 at q0 q1 ⊢
      generalize (chainW script i j).2 = ch at lcj ⊢
      have hk1 : (dS (namesF script (last + 1)))[at0.toNat]? = some (.str ((namesF script (last + 1)).getD at0.toNat "")) := by
        have h : at0.toNat < (namesF script (last + 1)).length := by omega
        rw [List.getElem?_map, List.getElem?_eq_getElem h, List.getD_eq_getElem?_getD, List.getElem?_eq_getElem h]; rfl
      have hk2 : (dI (aboveF script))[at0.toNat]? = some (.int ((aboveF script).getD at0.toNat 0)) := by
        have h : at0.toNat < (aboveF script).length := by omega
        rw [List.getElem?_map, List.getElem?_eq_getElem h, List.getD_eq_getElem?_getD, List.getElem?_eq_getElem h]; rfl
      refine' X.cons (X.setN (d := .list (dS ((namesF script (last + 1)).getD at0.toNat "" :: ch))) O (E.castN (E.addL (a := [.str ((namesF script (last + 1)).getD at0.toNat "")]) (b := dS ch) (E.read (E.list (V.consN (E.new (by trivial) (E.idx (k := at0) (by walk_at "nm") (by walk_at "nm") q0 hk1 (by omega) (fun _ _ => rfl))) V.nilN rfl) (by show 1 ≤ 16777216; decide))) (by walk_at "nm") (by simp; omega) (fun d hd => ?atm)) (by simp)) (.inl rfl) (by walk_at "rm") rfl) ?_
      case atm =>
        rcases List.mem_append.mp hd with h | h
        · rw [List.mem_singleton.mp h]; trivial
        · exact atS _ d h
      refine' X.cons (X.set (d := .int ((aboveF script).getD at0.toNat 0)) O (E.idx (k := at0) (by walk_at "nm") (by walk_at "nm") q0 hk2 (by omega) (fun _ _ => rfl)) (by trivial) (.inl rfl) (by walk_at "rm") rfl) (X.drop fun e he => he)
    generalize (chainW script i (stepsF script i)).1 = atE
    refine' X.cons (X.set (d := .str "/") O (E.str _ _ _) (by trivial) (.inl rfl) (by walk_at "rm") rfl) ?_
    refine' X.cons (ρ₁ := [("way", false, .str (wayF script i)), ("at", false, .int atE), ("chain", false, .list (dS (chainF script i))), ("b", false, .int i), ("plain", true, .list pls), ("ways", true, .list wys), ("above", false, .list (dI (aboveF script))), ("names", true, .list (dS (namesF script (last + 1)))), ("numbers", true, .list (dI (numsF script (last + 1)))), ("code", false, .list (dI (codeF script))), ("last", false, .int last), ("draws", false, .list (dI (drawsF script))), ("which", false, .int which), ("script", false, .list (dI script))])
      (X.for (dS (chainF script i)) (fun j => [("way", false, .str (wayN script i j)), ("at", false, .int atE), ("chain", false, .list (dS (chainF script i))), ("b", false, .int i), ("plain", true, .list pls), ("ways", true, .list wys), ("above", false, .list (dI (aboveF script))), ("names", true, .list (dS (namesF script (last + 1)))), ("numbers", true, .list (dI (numsF script (last + 1)))), ("code", false, .list (dI (codeF script))), ("last", false, .int last), ("draws", false, .list (dI (drawsF script))), ("which", false, .int which), ("script", false, .list (dI script))]) O (F.list O (by walk_at "mem") (by decide)) rfl ?h1 (fun j d hd => ?wturn) (fun _ => rfl)) ?rj
    case h1 =>
      have : wayN script i (dS (chainF script i)).length = wayF script i := by rw [wayN, wayF, List.length_map, List.take_length]
      rw [this]
    case wturn =>
      simp only [dS, List.getElem?_map, Option.map_eq_some_iff] at hd
      obtain ⟨x, hx, rfl⟩ := hd
      have hxm := hnm x (List.mem_of_getElem? hx)
      have hw1 : wayN script i (j + 1) = joinP (wayN script i j) x := by
        rw [wayN, wayN, List.take_add_one, hx]
        simp
      have lw := len_fold ((chainF script i).take j) "/" fun y hy => (hnm y (List.mem_of_mem_take hy)).2
      have lt : ((chainF script i).take j).length ≤ 8 := by rw [List.length_take]; omega
      have lw' : 1 ≤ (wayN script i j).length ∧ (wayN script i j).length ≤ 49 := by unfold wayN; rw [lsl] at lw; omega
      rw [hw1]
      refine' ⟨_, A.name O (.inl rfl) (by walk_at "rm"), ?_⟩
      refine' X.cons (X.set (d := .str (joinP (wayN script i j) x)) O (E.read (E.fn G' (f_join G' hK (wayN script i j) x hxm.1 (by omega) (by omega)) (V.cons (by walk_at "nm") (V.cons (by walk_at "nm") V.nil rfl) rfl) (top_at hK (by kernel_rfl)) (keep_at hK (by kernel_rfl)) rfl (by decide) rfl rfl)) (by trivial) (.inl rfl) (by walk_at "rm") rfl) (X.drop fun e he => ?drw)
      simp only [List.mem_cons, List.not_mem_nil, or_false] at he
      rcases he with rfl | rfl | rfl | rfl | rfl | rfl | rfl | rfl | rfl | rfl | rfl | rfl | rfl | rfl <;> simp
    have hjo : JoinOk "/" (chainF script i) = true := joinOk_of (by
      have := sum_le fun x hx => (hnm x hx).2
      rw [lsl]; omega)
    have ljo : (Txt.join "/" (chainF script i)).length ≤ 100 := by
      have := sum_le fun x hx => (hnm x hx).2
      unfold Txt.join
      rw [size_glued, lsl]; omega
    refine' X.cons (X.append (d := .str (wayF script i)) O (by walk_at "mem") (by walk_at "nm") (by walk_at "rm") (by trivial) l2 (by exact ⟨⟨_, rfl⟩⟩) (by decide) (by rfl) (by rfl) (by rfl)) ?_
    refine' X.cons (X.append (d := .str (plainF script i)) O (by walk_at "mem") (E.cast (E.cat (E.str _ _ _) (E.join (E.str _ _ _) (by walk_at "nm") hjo (by exact ⟨⟨_, rfl⟩⟩) rfl) (by rw [lsl]; omega)) rfl) (by walk_at "rm") (by trivial) l1 (by exact ⟨⟨_, rfl⟩⟩) (by decide) (by rfl) (by rfl) (by rfl)) (X.drop fun e he => ?dre)
    case dre =>
      simp only [List.mem_cons, List.not_mem_nil, or_false] at he
      rcases he with rfl | rfl | rfl | rfl | rfl | rfl | rfl | rfl | rfl | rfl <;> simp
  refine' X.cons (X.set (d := .str "") O (E.str _ _ _) (by trivial) (.inl rfl) (by walk_at "rm") rfl) ?_
  have hlw : ∀ b, b < last + 1 → (wayF script b).length ≤ 100 := fun b hb => len_wayF hst (by omega)
  refine' X.cons (ρ₁ := [("page", false, .str (pageF script which (last + 1))), ("plain", true, .list (dS (plainsF script (last + 1)))), ("ways", true, .list (dS (waysF script (last + 1)))), ("above", false, .list (dI (aboveF script))), ("names", true, .list (dS (namesF script (last + 1)))), ("numbers", true, .list (dI (numsF script (last + 1)))), ("code", false, .list (dI (codeF script))), ("last", false, .int last), ("draws", false, .list (dI (drawsF script))), ("which", false, .int which), ("script", false, .list (dI script))])
    (X.for (dI (Mine.upto (last + 1))) (fun i => [("page", false, .str (pageF script which i)), ("plain", true, .list (dS (plainsF script (last + 1)))), ("ways", true, .list (dS (waysF script (last + 1)))), ("above", false, .list (dI (aboveF script))), ("names", true, .list (dS (namesF script (last + 1)))), ("numbers", true, .list (dI (numsF script (last + 1)))), ("code", false, .list (dI (codeF script))), ("last", false, .int last), ("draws", false, .list (dI (drawsF script))), ("which", false, .int which), ("script", false, .list (dI script))]) O
      (F.range (m := last + 1) O (by walk_at "bi") (E.cast (d := .int ((last : Int) + 1)) (by walk_at "ev") (by push_cast; rfl)) (by omega) rfl) rfl (by rw [upto_len]) (fun i d hd => ?turn12) (fun _ => rfl)) ?r12
  case turn12 =>
    obtain ⟨hi, rfl⟩ := upto_get hd
    have hlwi := hlw i hi
    have hkw : (dS (waysF script (last + 1)))[((i : Nat) : Int).toNat]? = some (.str (wayF script i)) := by
      show (dS (waysF script (last + 1)))[i]? = _
      rw [List.getElem?_map, waysF, List.getElem?_map, List.getElem?_range hi]; rfl
    have hkn : (dI (numsF script (last + 1)))[((i : Nat) : Int).toNat]? = some (.int (numF script i)) := by
      show (dI (numsF script (last + 1)))[i]? = _
      rw [List.getElem?_map, numsF, List.getElem?_map, List.getElem?_range hi]; rfl
    have lp := len_pageF script which i fun b hb => hlw b (by omega)
    have lit := len_itemF script which i hlwi
    have a1 : (Str.ofString "<f m=\"").length = 6 := by decide
    have a2 : (Str.ofString "\">").length = 2 := by decide
    have a3 : (Str.ofString "</f>").length = 4 := by decide
    have lf := len_fmF (numF script i)
    have le := len_escF which _ hlwi
    refine' ⟨_, A.name O (.inl rfl) (by walk_at "rm"), ?_⟩
    refine' X.cons (X.set (d := .str (escF which (wayF script i))) O (E.ite (c := which == 0) (T.cmp (by walk_at "nm") (E.int _ _ _) (Cmp.eqInt _ _) (by with_unfolding_all rfl)) (fun h => ?ea) (fun h => ?ec)) (by trivial) (.inl rfl) (by walk_at "rm") rfl) ?_
    case ea =>
      have e : escF which (wayF script i) = escA (wayF script i) := if_pos h
      rw [e]
      exact (E.read (E.fn G' (f_escA G' hK _ hlwi) (V.cons (E.idx (k := (i : Int)) (by walk_at "nm") (by walk_at "nm") (by omega) hkw (by omega) (fun _ _ => rfl)) V.nil rfl) (top_at hK (by kernel_rfl)) (keep_at hK (by kernel_rfl)) rfl (by decide) rfl rfl))
    case ec =>
      have e : escF which (wayF script i) = escC (wayF script i) := if_neg (by rw [h]; exact Bool.false_ne_true)
      rw [e]
      exact (E.read (E.fn G' (f_escC G' hK _ hlwi) (V.cons (E.idx (k := (i : Int)) (by walk_at "nm") (by walk_at "nm") (by omega) hkw (by omega) (fun _ _ => rfl)) V.nil rfl) (top_at hK (by kernel_rfl)) (keep_at hK (by kernel_rfl)) rfl (by decide) rfl rfl))
    refine' X.cons (X.augS (b := itemF script which i) O (by walk_at "mem") (E.cat (E.cat (E.cat (E.cat (E.str _ _ _) (E.read (E.fn G' (f_filemode G' hK hlv (numF script i)) (V.cons (E.idx (k := (i : Int)) (by walk_at "nm") (by walk_at "nm") (by omega) hkn (by omega) (fun _ _ => rfl)) V.nil rfl) (top_at hK (by kernel_rfl)) (keep_at hK (by kernel_rfl)) rfl (by decide) rfl rfl)) ?s1) (E.str _ _ _) ?s2) (by walk_at "nm") ?s3) (E.str _ _ _) ?s4) (by omega) (.inl rfl) (by walk_at "rm")) (X.drop fun e he => ?drp)
    case s1 => show _ + (fmF (numF script i)).length ≤ _; omega
    case s2 => rw [Str.length_append]; show _ + (fmF (numF script i)).length + _ ≤ _; omega
    case s3 => rw [Str.length_append, Str.length_append]; show _ + (fmF (numF script i)).length + _ + _ ≤ _; omega
    case s4 => rw [Str.length_append, Str.length_append, Str.length_append]; show _ + (fmF (numF script i)).length + _ + _ + _ ≤ _; omega
    case drp =>
      simp only [List.mem_cons, List.not_mem_nil, or_false] at he
      rcases he with rfl | rfl | rfl | rfl | rfl | rfl | rfl | rfl | rfl | rfl | rfl <;> simp [pageF]
  have hpc : piecesF script which = Txt.split (pageF script which (last + 1)) "<" := by rw [piecesF, hcl]
  have hpl := hpg.pl
  rw [hcl] at hpl
  have lpg := len_pageF script which (last + 1) hlw
  have hm2 : IntMulOk 2 (last : Int) := IntMulOk.of_left (by decide)
  refine' X.cons (X.setN (d := .list (dS (piecesF script which))) O (E.castN (E.split (by walk_at "nm") (E.str _ _ _) (by omega) (by decide) (by exact ⟨⟨_, rfl⟩⟩) rfl) (by rw [hpc])) (.inr ⟨rfl, _, rfl⟩) (by walk_at "rm") rfl) ?_
  refine' X.cons (X.ifF O (T.cast (T.cmp (E.lenL G' (by walk_at "bi") (by walk_at "nm") (by simp; omega) rfl) (E.cast (d := .int (2 * (last : Int) + 3)) (by walk_at "ev") rfl) (Cmp.neInt _ _) (by with_unfolding_all rfl)) ?c14) X.nil) ?_
  case c14 =>
    rw [List.length_map, hpl]
    simp
  refine' X.cons (ρ₁ := [("signs", false, .list (dS ((numsF script (last + 1)).map told3))), ("pieces", false, .list (dS (piecesF script which))), ("page", false, .str (pageF script which (last + 1))), ("plain", true, .list (dS (plainsF script (last + 1)))), ("ways", true, .list (dS (waysF script (last + 1)))), ("above", false, .list (dI (aboveF script))), ("names", true, .list (dS (namesF script (last + 1)))), ("numbers", true, .list (dI (numsF script (last + 1)))), ("code", false, .list (dI (codeF script))), ("last", false, .int last), ("draws", false, .list (dI (drawsF script))), ("which", false, .int which), ("script", false, .list (dI script))]) ?s15 ?r15
  case s15 =>
    have e : dS ((numsF script (last + 1)).map told3) = (dI (Mine.upto (last + 1))).map (gSgn script which) := by
      rw [numsF, dI, Mine.upto, dS, List.map_map, List.map_map, List.map_map, List.map_map]
      refine List.map_congr_left fun b hb => ?_
      have hb' : b < last + 1 := List.mem_range.mp hb
      show D.str (told3 (numF script b)) = D.str (sgnF script which b)
      rw [hpg.sg b (by omega)]
    rw [e]
    refine' X.setN O (E.comp (ρ' := [("pieces", .list (dS (piecesF script which)))]) G' (I.range (m := last + 1) G' (by walk_at "bi") (E.cast (d := .int ((last : Int) + 1)) (by walk_at "ev") (by push_cast; rfl)) (by omega) rfl) (by rw [upto_len]; omega) ⟨rfl, by decide, rfl, by decide, rfl, fun e he => ?sub⟩ (gSgn script which) (fun Ca Gc d hd => ?body) (fun _ => rfl)) (.inr ⟨rfl, _, rfl⟩) (by walk_at "rm") rfl
    case sub => rw [List.mem_singleton.mp he]; exact ⟨mem_rd (o := false) (by walk_at "mem"), rfl, fun _ => rfl, rfl⟩
    case body =>
      obtain ⟨i, hi⟩ := List.getElem?_of_mem hd
      obtain ⟨hi, rfl⟩ := upto_get hi
      have hmi : IntMulOk 2 (i : Int) := IntMulOk.of_left (by decide)
      show En _ _ _ (.str (sgnF script which i))
      exact E.new (by trivial) (E.sSS (E.idx (k := 2 * (i : Int) + 1) (by walk_at "nm") (by walk_at "ev") (by omega) (piece_at (by omega)) (by omega) (fun _ _ => rfl)) (E.int _ _ _) (E.int _ _ _) (Nat.le_trans (hpg.ps i (by omega)) (by decide)))
  refine' X.pre (law_walk2 O hK script which hst hpg hlo last ld hcl) (fun e he => ?_)
  simp only [List.mem_cons, List.not_mem_nil, or_false] at he
  rcases he with rfl | rfl | rfl | rfl | rfl | rfl | rfl <;> simp
end
end

section
open PySem PySem.W PyProof.Rows
set_option Elab.async false
set_option maxRecDepth 100000
set_option linter.unusedVariables false




theorem cells_names (P : PySem.Params) (L f : Addr) (cdv : Value) : (lawEnv P L f cdv).cells.map (·.1) = (["here", "roofs", "read", "signs", "pieces", "plain", "last"] : List Str) := by kernel_rfl
theorem cells_eq (P : PySem.Params) (L f : Addr) (cdv : Value) : (lawEnv P L f cdv).cells = ([("here", L + 1 + 6), ("roofs", L + 1 + 5), ("read", L + 1 + 4), ("signs", L + 1 + 3), ("pieces", L + 1 + 2), ("plain", L + 1 + 1), ("last", L + 1)] : List (Str × Addr)) := by kernel_rfl
theorem addr_up (L : Nat) : ∀ k, L < L + 1 + k := fun k => by omega
theorem addr_ne (L j k : Nat) (h : j < k) : L + 1 + k ≠ L + 1 + j := by omega
theorem cells_apart (P : PySem.Params) (L f : Addr) (cdv : Value) : (lawEnv P L f cdv).cells.Pairwise fun x y => x.2 ≠ y.2 := by
  have key : ∀ ns : List Str, ∀ ks : List Nat, ks.Pairwise (fun a b => b < a) → (List.zip ns (ks.map fun k => L + 1 + k)).Pairwise fun x y => x.2 ≠ y.2 := by
    intro ns ks h
    have h2 : (ks.map fun k => L + 1 + k).Pairwise fun a b => a ≠ b := by
      rw [List.pairwise_map]
      exact h.imp fun q => addr_ne L _ _ q
    have h3 : ∀ (ns : List Str) (as : List Addr), as.Pairwise (fun a b => a ≠ b) → (List.zip ns as).Pairwise fun x y => x.2 ≠ y.2 := by
      intro ns
      induction ns with
      | nil => intro as _; simp
      | cons n ns ih =>
        intro as ha
        cases as with
        | nil => simp
        | cons a as =>
          rw [List.zip_cons_cons]
          rw [List.pairwise_cons] at ha ⊢
          refine ⟨fun e he => ?_, ih as ha.2⟩
          exact ha.1 _ (List.of_mem_zip he).2
    exact h3 ns _ h2
  rw [cells_eq]
  exact key ["here", "roofs", "read", "signs", "pieces", "plain", "last"] [6, 5, 4, 3, 2, 1, 0] (by decide)
theorem cells_above (P : PySem.Params) (L f : Addr) (cdv : Value) : ∀ n c, (n, c) ∈ (lawEnv P L f cdv).cells → L < c := by
  intro n c h
  rw [cells_eq] at h
  simp only [List.mem_cons, List.not_mem_nil, or_false, Prod.mk.injEq] at h
  rcases h with ⟨_, rfl⟩ | ⟨_, rfl⟩ | ⟨_, rfl⟩ | ⟨_, rfl⟩ | ⟨_, rfl⟩ | ⟨_, rfl⟩ | ⟨_, rfl⟩
  · exact addr_up L 6
  · exact addr_up L 5
  · exact addr_up L 4
  · exact addr_up L 3
  · exact addr_up L 2
  · exact addr_up L 1
  · exact addr_up L 0
theorem cells_nd (P : PySem.Params) (L f : Addr) (cdv : Value) : ((lawEnv P L f cdv).cells.map (·.1)).Nodup := by rw [cells_names]; decide

section
variable {C : Cx} {ρ ρ₁ : Rho} {n : Nat}
/-- the law's first statement: behind its constant there is a token -/
structure Xf (C : Cx) (ρ : Rho) (st : Stmt) (ρ₁ : Rho) : Prop where
  h : ∀ s W, St C ρ W s → wpAny (model C.prog C.w) C.A (exec st C.env) (fun f s' => 0 < s'.toks ∧ Post C s W (.next ρ₁) f s') bot s
theorem Xf.set {x : Str} {p pos : Pos} {l : Expr} {b : Int} {k : Nat} {cp bp : Pos} {a : Int} (G : Own C n) (he : Er C (rd ρ) l (.int a)) (hb : b ≠ 0) (hx : Stor C x) (hr : Rm x ρ ρ₁)
    (hs : swapsWith (.BinOp l .Mod (.Constant (.int b) k cp) bp) (some (.Name x p)) pos.line C.env = pure false) : Xf C ρ (.Assign [.Name x p] (.BinOp l .Mod (.Constant (.int b) k cp) bp) pos) ((x, false, .int (a.fmod b)) :: ρ₁) := ⟨fun s W S =>
  wpAny_Assign_Name (wpAny_BinOp (wpAny_mono (he.h s (S.ok G)) (fun v s₁ g₁ => by
    refine wpAny_Constant_int ?_
    have y := g₁.2
    cases y
    have g₂ : Kp s₁ { s₁ with toks := s₁.toks + 1 } := ⟨keeps_tok, Nat.le_succ _⟩
    refine wpAny_mono (wpAny_toks_of (n := 1) (Nat.succ_le_succ (Nat.zero_le _)) (up (fr := true) (d := .int (a.fmod b)) (mod_int' hb ⟨keeps_tok, .int _ _⟩))) (fun r s₃ q => ?_) fun _ _ x => x.2
    have k := (g₁.1.trans g₂).trans q.2.1
    exact wpAny_mono (wpAny_toks_of q.1 (store_one G S k (newval_ro S (q.2.later (g₁.1.trans g₂)) (.inl rfl)) hr hx)) (fun _ s₄ q' => ⟨q'.1, W, q'.2.1, rfl, q'.2.2.1⟩) fun _ _ x => x.2) fun _ _ x => x)) hs⟩
theorem Xf.then {st : Stmt} {rest : List Stmt} {d : D} (h : Xf C ρ st ρ₁) (r : Xs { C with tz := true } ρ₁ rest (.ret d)) : Xs C ρ (st :: rest) (.ret d) := ⟨fun s W S =>
  wpAny_execs_cons (wpAny_mono (h.h s W S) (fun f s₁ P => by
    obtain ⟨ht, W', F, rfl, S'⟩ := P
    have S₂ : St { C with tz := true } ρ₁ W' s₁ := ⟨fun _ => ht, S'.ex.imp fun m x => x.imp fun cm y => y.imp fun ω X => ⟨X.fr, X.cl, X.wl, X.wc, X.al, X.nw, X.vars, X.sep⟩⟩
    refine wpAny_mono (r.h s₁ W' S₂) (fun f' s' P => ?_) fun _ _ x => x
    obtain ⟨W₂, F₂, q⟩ := P
    exact ⟨W₂, F.trans F₂, q⟩) fun _ _ x => x)⟩
end

section
variable {C : Cx} {n : Nat} {P : PySem.Params} {L f : Addr} {cdv : Value}
def whichF (script : List Int) : Int := (preSum (fun i => script.getD i 0) script.length).fmod 2
theorem law_all (O : Own (C.law P L f cdv false) (n + 4)) (O' : Own (C.law P L f cdv true) (n + 4)) (hK : C.K = hd.heap_1 P) (script : List Int) (hs : script.length ≤ 63) (hst : StepsOk script) (hlv : C.lv = [(("_filemode_table" : Str), tabsW)]) (hpg : PageOk script (whichF script)) (hlo : LoopOk script) :
    Xs (C.law P L f cdv false) [("script", false, .list (dI script))] (bodyAt (hd.heap_1 P) 221) (.ret (.bool true)) := by
  have G' := O.toGood
  have hK' : (C.law P L f cdv false).K = hd.heap_1 P := hK
  have h2 := fm2 (preSum (fun i => script.getD i 0) script.length)
  refine' Xf.then (ρ₁ := [("which", false, .int (whichF script)), ("script", false, .list (dI script))]) (Xf.set O (E.sumI G' (by walk_at "bi") (by walk_at "nm") rfl) (by decide) (.inl rfl) (by walk_at "rm") rfl) ?_
  exact law_walk O' hK script hs (whichF script) (by unfold whichF; omega) hst hlv hpg hlo
end

section
variable {prog : Program} {w : World} {P : PySem.Params} {p : Program} {loose : List Str} {mean : ExcName → Option Value} {mg mb : Str → Option Value} {h₀ : Heap} {L f : Addr} {cdv : Value} {s : Shared} {m cm : Str → Option Value} {a : Addr} {script : List Int}
noncomputable def lawCx (prog : Program) (w : World) (P : PySem.Params) (p : Program) (loose : List Str) (mean : ExcName → Option Value) (mg mb : Str → Option Value) (h₀ : Heap) (L f : Addr) (cdv : Value) : Cx :=
  { prog := prog, w := w, A := callerA.deeper (lawEnv P L f cdv), env := lawEnv P L f cdv, fenv := lawEnv P L f cdv, L := L, h₀ := h₀, base := h₀, outer := [], A₀ := callerA, K := hd.heap_1 P, p := p, loose := loose, mean := mean, mg := mg, mb := mb, lv := [(("_filemode_table" : Str), tabsW)], tz := false }
theorem law_own (KX : (hd.heap_1 P).In h₀) (T : Top p loose mean mg mb h₀) (V : LooseAre [(("_filemode_table" : Str), tabsW)] mg h₀) (tz : Bool) : Own ((lawCx prog w P p loose mean mg mb h₀ L f cdv).law P L f cdv tz) 10 where
  B := below_caller h₀
  X := KX
  T := T
  V := V
  hA := rfl
  hf := rfl
  hke := by kernel_rfl
  hh := rfl
  hgd := rfl
  room := by show 301 + 1 + 10 < 1000; decide
  units := by show 4 + 3 + 20 * 10 + 100 < 9900; decide
  gl := rfl
  bi := rfl
  kd := by kernel_rfl
  ef := rfl
  eL := rfl
theorem law_go (KX : (hd.heap_1 P).In h₀) (T : Top p loose mean mg mb h₀) (V : LooseAre [(("_filemode_table" : Str), tabsW)] mg h₀) (F : Fr h₀ L s.heap m) (X : Cl L (lawEnv P L f cdv).cells s.heap cm) (hx : m "script" = some (.ref a)) {vs : List Value}
    (hl : h₀.PlainList a vs.toArray) (hI : IntsAre vs script) (hs : script.length ≤ 63) (hst : StepsOk script) (hpg : PageOk script (whichF script)) (hlo : LoopOk script) {Q : Flow → Shared → Prop} {E : Value → Shared → Prop}
    (hQ : ∀ h' tk, (∀ b o, h₀.get? b = some o → h'.get? b = some o) → Q (.ret (.bool true)) { s with heap := h', toks := tk }) :
    wpAny (model prog w) (callerA.deeper (lawEnv P L f cdv)) (execs (bodyAt (hd.heap_1 P) 221) (lawEnv P L f cdv)) Q E s := by
  have R : ∀ {vs : List Value} {ns : List Int} (ok : Addr → Prop), IntsAre vs ns → Reps s.heap ok vs (dI ns) := by
    intro vs ns ok h
    induction h with
    | nil => exact .nil
    | cons k t _ ih => exact .cons (.int _ _) ih
  let W : Addr → Prop := fun b => b = L ∨ ∃ e ∈ (lawEnv P L f cdv).cells, e.2 = b
  have hWge : ∀ b, W b → h₀.objs.size ≤ b := fun b hb => by
    rcases hb with rfl | ⟨e, he, rfl⟩
    · exact F.above
    · exact Nat.le_trans F.above (Nat.le_of_lt (X.above e.1 e.2 he))
  have nw : ∀ b, W b → h₀.get? b = none := fun b hb => Heap.get?_none_of_le (hWge b hb)
  have hmem : ∀ e ∈ (lawEnv P L f cdv).cells, (lawEnv P L f cdv).cells.lookup e.1 = some e.2 := fun e he =>
    lookup_of_mem_nodup (cells_nd P L f cdv) he
  have S : St ((lawCx prog w P p loose mean mg mb h₀ L f cdv).law P L f cdv false) [("script", false, .list (dI script))] W s := by
    refine ⟨(fun q => Bool.noConfusion q), m, cm, fun _ => 0, F, X, .inl rfl, fun e he => .inr ⟨e, he, rfl⟩, fun b hb => ?_, nw, fun e he => ?_, fun e₁ he₁ e₂ he₂ o₁ => ?_⟩
    · rcases hb with rfl | ⟨e, he, rfl⟩
      · obtain ⟨o, _, _, e, _⟩ := F.ns
        exact ⟨o, e⟩
      · obtain ⟨o, e, _⟩ := X.cell e.1 e.2 (hmem e he)
        exact ⟨o, e⟩
    · rw [List.mem_singleton.mp he]
      refine ⟨.ref a, .inl ⟨rfl, hx⟩, ?_⟩
      exact .list (fun hw => by obtain ⟨_, e⟩ := hl; rw [nw _ hw] at e; cases e) (hl.at fun o e => F.keep _ o e) (R _ hI)
    · rw [List.mem_singleton.mp he₁] at o₁; cases o₁
  have O := law_own (prog := prog) (w := w) (L := L) (f := f) (cdv := cdv) KX T V
  have H := (law_all (n := 6) (O false) (O true) rfl script hs hst rfl hpg hlo).h s W S
  refine wpAny_mono H (fun fl s₂ Po => ?_) fun _ _ x => x.elim
  obtain ⟨W', ⟨⟨h₂, t₂, rfl⟩, ht, _⟩, v, rfl, Rv, m₂, F₂⟩ := Po
  cases Rv
  exact hQ h₂ t₂ F₂.keep
end
end

end Mine
end

section
open PySem PySem.W PyProof.Rows PySem.StrLaws
open Builtin Builtin.Str
set_option Elab.async false
set_option linter.unusedVariables false
namespace Mine

/-! one text's places taken by another, letter by letter -/
inductive Rep2 (y z : List Nat) : List Nat → List Nat → Prop
  | nil : Rep2 y z [] []
  | hit {l r : List Nat} : Rep2 y z l r → Rep2 y z (y ++ l) (z ++ r)
  | miss {c : Nat} {l r : List Nat} : ¬ y <+: (c :: l) → Rep2 y z l r → Rep2 y z (c :: l) (c :: r)

theorem Rep2.fn {y z : List Nat} (hy : y ≠ []) : ∀ {l r r' : List Nat}, Rep2 y z l r → Rep2 y z l r' → r = r' := by
  have key : ∀ (n : Nat) (l r r' : List Nat), l.length = n → Rep2 y z l r → Rep2 y z l r' → r = r' := by
    intro n
    induction n using Nat.strongRecOn with
    | _ n ih =>
      intro l r r' hn h h'
      generalize hl : l = l' at h'
      cases h with
      | nil =>
        cases h' with
        | nil => rfl
        | hit => 
          have := List.append_eq_nil_iff.mp hl.symm
          exact absurd this.1 hy
        | miss => cases hl
      | @hit l₁ r₁ h₁ =>
        have hyl : 0 < y.length := List.length_pos_iff.mpr hy
        cases h' with
        | nil => exact absurd (List.append_eq_nil_iff.mp hl).1 hy
        | @hit l₂ r₂ h₂ =>
          have e := List.append_cancel_left hl
          subst e
          rw [ih l₁.length (by rw [← hn, List.length_append]; omega) l₁ r₁ r₂ rfl h₁ h₂]
        | miss hno => exact absurd ⟨l₁, hl⟩ hno
      | @miss c l₁ r₁ hno h₁ =>
        cases h' with
        | nil => cases hl
        | @hit l₂ r₂ h₂ => exact absurd ⟨l₂, hl.symm⟩ hno
        | miss _ h₂ =>
          cases hl
          rw [ih l₁.length (by rw [← hn, List.length_cons]; omega) l₁ _ _ rfl h₁ h₂]
  intro l r r' h h'
  exact key l.length l r r' rfl h h'

theorem Rep2.same {y z : List Nat} : ∀ {l : List Nat}, (∀ k, k < l.length → ¬ y <+: l.drop k) → Rep2 y z l l
  | [], _ => .nil
  | c :: l, h => .miss (h 0 (by simp)) (Rep2.same fun k hk => by simpa using h (k + 1) (by simpa using hk))
theorem Rep2.skip {y z : List Nat} : ∀ {p l r : List Nat}, (∀ k, k < p.length → ¬ y <+: (p ++ l).drop k) → Rep2 y z l r → Rep2 y z (p ++ l) (p ++ r)
  | [], _, _, _, h => h
  | c :: p, l, r, hno, h => .miss (hno 0 (by simp)) (Rep2.skip (fun k hk => by simpa using hno (k + 1) (by simpa using hk)) h)

theorem at_prefix {x y : Str} {k : Nat} : At x y x.length k ↔ (k ≤ x.length ∧ y.cps.toList <+: x.cps.toList.drop k) := by
  have hl : x.cps.toList.length = x.length := by simp [Str.length]
  have hy : y.cps.toList.length = y.length := by simp [Str.length]
  unfold At
  rw [subAt_eq]
  constructor
  · rintro ⟨h1, h2⟩
    refine ⟨by omega, ?_⟩
    have := eq_of_beq h2
    rw [← this]
    exact List.take_prefix _ _
  · rintro ⟨h1, t, ht⟩
    have hlen := congrArg List.length ht
    rw [List.length_append, List.length_drop, hl, hy] at hlen
    refine ⟨by omega, ?_⟩
    rw [← ht, List.take_append_of_le_length (by rw [hy]; exact Nat.le_refl _)]
    rw [← hy, List.take_length]
    simp

theorem glued_toList (z : Str) (p : Str) (ps : List Str) : (glued z (p :: ps)).cps.toList = p.cps.toList ++ (ps.map fun q => z.cps.toList ++ q.cps.toList).flatten := by
  unfold glued
  have : ∀ (l : List Str) (acc : Array Nat), (l.foldl (fun acc p => acc ++ z.cps ++ p.cps) acc).toList = acc.toList ++ (l.map fun q => z.cps.toList ++ q.cps.toList).flatten := by
    intro l
    induction l with
    | nil => intro acc; simp
    | cons q l ih => intro acc; rw [List.foldl_cons, ih]; simp
  exact this ps p.cps
theorem partsFrom_head (x : Str) (w a : Nat) (cuts : List Nat) : ∃ p ps, partsFrom x w a cuts = p :: ps := partsFrom_ne x w a cuts

theorem rep_parts (x y z : Str) (hy : 1 ≤ y.length) : ∀ (cuts : List Nat) (a f : Nat), a ≤ x.length → ChainG x y x.length a cuts f → (∀ k, f ≤ k → ¬ At x y x.length k) →
    Rep2 y.cps.toList z.cps.toList (x.cps.toList.drop a) (glued z (partsFrom x y.length a cuts)).cps.toList
  | [], a, f, ha, hc, hn => by
    have e : f = a := hc
    subst e
    have hl : x.cps.toList.length = x.length := by simp [Str.length]
    have ew : (strSub x f x.length).cps.toList = x.cps.toList.drop f := by
      rw [strSub_toList, List.take_of_length_le (by rw [List.length_drop, hl]; exact Nat.le_refl _)]
    show Rep2 _ _ _ (glued z [strSub x f x.length]).cps.toList
    rw [glued_toList, ew]
    simp only [List.map_nil, List.flatten_nil, List.append_nil]
    refine Rep2.same fun k hk hp => ?_
    rw [List.length_drop, hl] at hk
    rw [List.drop_drop] at hp
    exact hn (f + k) (by omega) (at_prefix.mpr ⟨by omega, hp⟩)
  | c :: r, a, f, ha, hc, hn => by
    obtain ⟨h1, h2, h3, h4⟩ := hc
    have hl : x.cps.toList.length = x.length := by simp [Str.length]
    have hyl : y.cps.toList.length = y.length := by simp [Str.length]
    have hcb := h2.1
    have ih := rep_parts x y z hy r (c + y.length) f (by omega) h4 hn
    obtain ⟨p, ps, ep⟩ := partsFrom_head x y.length (c + y.length) r
    have e1 : partsFrom x y.length a (c :: r) = strSub x a c :: p :: ps := by rw [← ep]; rfl
    rw [ep] at ih
    rw [e1, glued_toList]
    rw [glued_toList] at ih
    obtain ⟨_, t, ht⟩ := at_prefix.mp h2
    have et : t = x.cps.toList.drop (c + y.length) := by
      have := congrArg (List.drop y.length) ht
      rw [List.drop_drop, List.drop_append_of_le_length (by omega), ← hyl, List.drop_length] at this
      rw [hyl] at this
      simpa using this
    have es : (strSub x a c).cps.toList = (x.cps.toList.drop a).take (c - a) := strSub_toList x a c
    have ed : x.cps.toList.drop a = (strSub x a c).cps.toList ++ (y.cps.toList ++ x.cps.toList.drop (c + y.length)) := by
      rw [es, ← et, ht]
      have : x.cps.toList.drop c = (x.cps.toList.drop a).drop (c - a) := by rw [List.drop_drop]; congr 1; omega
      rw [this, List.take_append_drop]
    rw [ed]
    refine Rep2.skip (fun k hk hp => ?_) ?_
    · rw [← ed] at hp
      have hk' : k < c - a := by
        rw [es, List.length_take, List.length_drop, hl] at hk
        omega
      rw [List.drop_drop] at hp
      exact h3 (a + k) (by omega) (by omega) (at_prefix.mpr ⟨by omega, hp⟩)
    · rw [List.map_cons, List.flatten_cons, List.append_assoc]
      exact .hit ih
theorem replace_rep (x y z : Str) (hy : 1 ≤ y.length) : Rep2 y.cps.toList z.cps.toList x.cps.toList (Txt.replace x y z).cps.toList := by
  obtain ⟨f, hG, hn⟩ := occ_tight x y hy
  have hl : x.cps.toList.length = x.length := by simp [Str.length]
  unfold Txt.replace
  split
  · rename_i hc
    have he : (occurrences x y 0 x.length (x.length + 1)).isEmpty = true := by
      rcases Bool.or_eq_true_iff.mp hc with h | h
      · exact h
      · have := (Bool.and_eq_true_iff.mp h).1
        simp at this
        omega
    rw [List.isEmpty_iff.mp he] at hG
    have ef : f = 0 := hG
    subst ef
    refine Rep2.same fun k hk hp => hn k (by omega) (at_prefix.mpr ⟨by omega, hp⟩)
  · rw [partsBetween_eq]
    have := rep_parts x y z hy _ 0 f (Nat.zero_le _) hG hn
    simpa using this
end Mine
end

section
open PySem PySem.W PyProof.Rows
set_option Elab.async false
set_option linter.unusedVariables false
namespace Mine

/-! the numbers' bits -/
theorem fdivN (m k : Nat) : (m : Int).fdiv (k : Int) = ((m / k : Nat) : Int) := by
  rw [Int.fdiv_eq_ediv_of_nonneg _ (by omega)]; rfl
theorem fmodN (m k : Nat) : (m : Int).fmod (k : Int) = ((m % k : Nat) : Int) := by
  rw [Int.fmod_eq_emod_of_nonneg _ (by omega)]; rfl
theorem andN (m k : Nat) : Builtin.bitAnd (m : Int) (k : Int) = ((m &&& k : Nat) : Int) := by
  unfold Builtin.bitAnd
  have h1 : decide ((0:Int) ≤ (m : Int)) = true := by simp
  have h2 : decide ((0:Int) ≤ (k : Int)) = true := by simp
  rw [h1, h2]
  simp
def bt (m k : Nat) : Bool := m / k % 2 == 1
theorem and_pow (m i : Nat) : m &&& 2 ^ i = (bt m (2 ^ i)).toNat * 2 ^ i := by
  have hb : bt m (2 ^ i) = m.testBit i := by
    rw [Nat.testBit_eq_decide_div_mod_eq]; unfold bt
    rw [Bool.eq_iff_iff]; simp
  apply Nat.eq_of_testBit_eq
  intro j
  rw [Nat.testBit_and, Nat.testBit_two_pow, hb]
  by_cases e : i = j
  · subst e
    cases m.testBit i <;> simp [Nat.testBit_two_pow]
  · cases m.testBit i <;> simp [Nat.testBit_two_pow, e]
theorem hit1 (m i : Nat) (j : Nat) (hj : j ≠ 0) : hitM (m : Int) j ((2 ^ i : Nat) : Int) = bt m (2 ^ i) := by
  unfold hitM
  rw [if_neg hj, andN, and_pow]
  have : 0 < 2 ^ i := Nat.two_pow_pos i
  cases bt m (2 ^ i) <;> simp
  have := Int.natCast_pos.mpr this
  simp at this
  omega
theorem hit2 (m i k : Nat) (j : Nat) (hj : j ≠ 0) (hik : 2 ^ i ||| 2 ^ k = 2 ^ i + 2 ^ k) : hitM (m : Int) j ((2 ^ i + 2 ^ k : Nat) : Int) = (bt m (2 ^ i) && bt m (2 ^ k)) := by
  unfold hitM
  rw [if_neg hj, andN, ← hik, Nat.and_or_distrib_left, and_pow, and_pow]
  have h1 : 0 < 2 ^ i := Nat.two_pow_pos i
  have h2 : 0 < 2 ^ k := Nat.two_pow_pos k
  cases bt m (2 ^ i) <;> cases bt m (2 ^ k)
  · simp; omega
  · simp only [Bool.toNat_false, Bool.toNat_true, Nat.zero_mul, Nat.one_mul, Nat.zero_or, hik]
    simp; norm_cast; omega
  · simp only [Bool.toNat_false, Bool.toNat_true, Nat.zero_mul, Nat.one_mul, Nat.or_zero, hik]
    simp; norm_cast; omega
  · simp
def rN (b : Bool) (c : Nat) : Nat := if b = true then c else 45
def xN (x s : Bool) (sm gr : Nat) : Nat := if s = true then (if x = true then sm else gr) else (if x = true then 120 else 45)
def signsN (m : Nat) : List Nat := [rN (bt m 256) 114, rN (bt m 128) 119, xN (bt m 64) (bt m 2048) 115 83, rN (bt m 32) 114, rN (bt m 16) 119, xN (bt m 8) (bt m 1024) 115 83, rN (bt m 4) 114, rN (bt m 2) 119, xN (bt m 1) (bt m 512) 116 84]
theorem app_list (x y : Str) : (x ++ y).cps.toList = x.cps.toList ++ y.cps.toList := by
  show (x.cps ++ y.cps).toList = _
  simp
theorem sg_list (c : Bool) (x y : Str) : (sg c x y).cps.toList = if c = true then x.cps.toList else y.cps.toList := by unfold sg; split <;> rfl
theorem fig4 (m k : Nat) (hk : 0 < k) : ((figI (m : Int) (k : Int)).fdiv 4 == 1) = bt m (k * 4) := by
  unfold figI bt
  rw [fdivN, show (8 : Int) = ((8 : Nat) : Int) from rfl, fmodN, show (4 : Int) = ((4 : Nat) : Int) from rfl, fdivN, ← Nat.div_div_eq_div_mul]
  generalize m / k = x
  rw [Bool.eq_iff_iff]; simp only [beq_iff_eq]; omega
theorem fig2 (m k : Nat) (hk : 0 < k) : (((figI (m : Int) (k : Int)).fdiv 2).fmod 2 == 1) = bt m (k * 2) := by
  unfold figI bt
  rw [fdivN, show (8 : Int) = ((8 : Nat) : Int) from rfl, fmodN, show (2 : Int) = ((2 : Nat) : Int) from rfl, fdivN, fmodN, ← Nat.div_div_eq_div_mul]
  generalize m / k = x
  rw [Bool.eq_iff_iff]; simp only [beq_iff_eq]; omega
theorem fig1 (m k : Nat) (hk : 0 < k) : ((figI (m : Int) (k : Int)).fmod 2 == 1) = bt m k := by
  unfold figI bt
  rw [fdivN, show (8 : Int) = ((8 : Nat) : Int) from rfl, fmodN, show (2 : Int) = ((2 : Nat) : Int) from rfl, fmodN]
  generalize m / k = x
  rw [Bool.eq_iff_iff]; simp only [beq_iff_eq]; omega
theorem onN (m k : Nat) : onI (m : Int) (k : Int) = bt m k := by
  unfold onI bt
  rw [fdivN, show (2 : Int) = ((2 : Nat) : Int) from rfl, fmodN]
  rw [Bool.eq_iff_iff]; simp only [beq_iff_eq]; omega
theorem trio_list (m k ab : Nat) (hk : 0 < k) (sm gr told : Str) (s g : Nat) (hs : sm.cps.toList = [s]) (hg : gr.cps.toList = [g]) :
    (trio (m : Int) (k : Int) (ab : Int) sm gr told).cps.toList = told.cps.toList ++ [rN (bt m (k * 4)) 114, rN (bt m (k * 2)) 119, xN (bt m k) (bt m ab) s g] := by
  unfold trio
  rw [fig4 m k hk, fig2 m k hk, fig1 m k hk, onN, app_list, app_list, app_list, sg_list, sg_list]
  have e1 : ("r" : Str).cps.toList = [114] := rfl
  have e2 : ("w" : Str).cps.toList = [119] := rfl
  have e3 : ("-" : Str).cps.toList = [45] := rfl
  have e4 : ("x" : Str).cps.toList = [120] := rfl
  unfold rN xN
  cases bt m (k * 4) <;> cases bt m (k * 2) <;> cases bt m ab <;> cases bt m k <;> simp [sg_list, e1, e2, e3, e4, hs, hg]
theorem told_list (m : Nat) : (told3 (m : Int)).cps.toList = rN (bt m 16384) 100 :: signsN m := by
  unfold told3 told2 told1
  have h0 : (told0 (m : Int)).cps.toList = [rN (bt m 16384) 100] := by
    unfold told0
    have := onN m 16384
    unfold onI at this
    rw [show ((16384 : Nat) : Int) = 16384 from rfl] at this
    rw [this, sg_list]
    unfold rN
    cases bt m 16384 <;> rfl
  have t1 := trio_list m 64 2048 (by decide) "s" "S" (told0 (m : Int)) 115 83 rfl rfl
  have t2 := trio_list m 8 1024 (by decide) "s" "S" (trio (m : Int) 64 2048 "s" "S" (told0 (m : Int))) 115 83 rfl rfl
  have t3 := trio_list m 1 512 (by decide) "t" "T" (trio (m : Int) 8 1024 "s" "S" (trio (m : Int) 64 2048 "s" "S" (told0 (m : Int)))) 116 84 rfl rfl
  refine t3.trans ?_
  rw [show (trio (m : Int) 8 1024 "s" "S" (trio (m : Int) 64 2048 "s" "S" (told0 (m : Int)))).cps.toList = _ from t2, show (trio (m : Int) 64 2048 "s" "S" (told0 (m : Int))).cps.toList = _ from t1, h0]
  rfl
theorem and_base (b q : Nat) (hb : b = 16384 ∨ b = 32768) (hq : q < 4096) : (b + q) &&& 61440 = b := by
  have e : b + q = b ||| q := by
    rcases hb with rfl | rfl
    · have := Nat.two_pow_add_eq_or_of_lt (i := 12) (b := q) hq 4
      exact this
    · have := Nat.two_pow_add_eq_or_of_lt (i := 12) (b := q) hq 8
      exact this
  have h0 : q &&& 61440 = 0 := by
    have h1 : (61440 : Nat) = 2 ^ 12 * 15 := rfl
    apply Nat.eq_of_testBit_eq
    intro i
    rw [Nat.testBit_and, Nat.zero_testBit]
    by_cases hi : i < 12
    · have : (61440 : Nat).testBit i = false := by
        rw [h1, Nat.testBit_two_pow_mul]
        simp
        omega
      rw [this, Bool.and_false]
    · have : q.testBit i = false := Nat.testBit_lt_two_pow (Nat.lt_of_lt_of_le hq (Nat.pow_le_pow_right (n := 2) (by decide) (Nat.le_of_not_lt hi) : 2 ^ 12 ≤ 2 ^ i))
      rw [this, Bool.false_and]
  rw [e, Nat.and_or_distrib_right, h0]
  rcases hb with rfl | rfl <;> rfl
theorem pick1 (m i j c : Nat) (hj : j ≠ 0) (s : Str) (hs : s.cps.toList = [c]) : (pick (m : Int) j [(((2 ^ i : Nat) : Int), s)]).cps.toList = [rN (bt m (2 ^ i)) c] := by
  unfold pick
  simp only [List.findIdx_cons, List.findIdx_nil, hit1 m i j hj]
  cases bt m (2 ^ i)
  · simp [hj]; rfl
  · simp [rN, hs]
theorem pick3 (m i k j s g : Nat) (hj : j ≠ 0) (sm gr : Str) (hik : 2 ^ i ||| 2 ^ k = 2 ^ i + 2 ^ k) (hs : sm.cps.toList = [s]) (hg : gr.cps.toList = [g]) :
    (pick (m : Int) j [(((2 ^ i + 2 ^ k : Nat) : Int), sm), (((2 ^ k : Nat) : Int), gr), (((2 ^ i : Nat) : Int), "x")]).cps.toList = [xN (bt m (2 ^ i)) (bt m (2 ^ k)) s g] := by
  unfold pick
  simp only [List.findIdx_cons, List.findIdx_nil, hit1 m i j hj, hit1 m k j hj, hit2 m i k j hj hik]
  cases bt m (2 ^ i) <;> cases bt m (2 ^ k)
  · simp [hj]; rfl
  · simp [xN, hg]
  · simp [xN]; rfl
  · simp [xN, hs]
theorem pick0 (m : Nat) (h : (m &&& 61440) = 16384 ∨ (m &&& 61440) = 32768) : (pick (m : Int) 0 (tabs.getD 0 [])).cps.toList = [if (m &&& 61440) = 16384 then 100 else 45] := by
  have e : Builtin.bitAnd (m : Int) 61440 = ((m &&& 61440 : Nat) : Int) := andN m 61440
  unfold pick
  simp only [tabs, List.getD_cons_zero, List.findIdx_cons, List.findIdx_nil, hitM, e]
  rcases h with h | h <;> rw [h] <;> rfl
theorem fm_list (m b q : Nat) (hm : m = b + q) (hb : b = 16384 ∨ b = 32768) (hq : q < 4096) : (fmF (m : Int)).cps.toList = (if b = 16384 then 100 else 45) :: signsN m := by
  have hand : m &&& 61440 = b := by rw [hm]; exact and_base b q hb hq
  have hp : picks (m : Int) 10 = [pick m 0 (tabs.getD 0 []), pick m 1 (tabs.getD 1 []), pick m 2 (tabs.getD 2 []), pick m 3 (tabs.getD 3 []), pick m 4 (tabs.getD 4 []), pick m 5 (tabs.getD 5 []), pick m 6 (tabs.getD 6 []), pick m 7 (tabs.getD 7 []), pick m 8 (tabs.getD 8 []), pick m 9 (tabs.getD 9 [])] := rfl
  unfold fmF Txt.join
  rw [hp]
  have h0 := pick0 m (by omega)
  have h1 := pick1 m 8 1 114 (by decide) "r" rfl
  have h2 := pick1 m 7 2 119 (by decide) "w" rfl
  have h3 := pick3 m 6 11 3 115 83 (by decide) "s" "S" rfl rfl rfl
  have h4 := pick1 m 5 4 114 (by decide) "r" rfl
  have h5 := pick1 m 4 5 119 (by decide) "w" rfl
  have h6 := pick3 m 3 10 6 115 83 (by decide) "s" "S" rfl rfl rfl
  have h7 := pick1 m 2 7 114 (by decide) "r" rfl
  have h8 := pick1 m 1 8 119 (by decide) "w" rfl
  have h9 := pick3 m 0 9 9 116 84 (by decide) "t" "T" rfl rfl rfl
  have e0 : ("" : Str).cps.toList = [] := rfl
  rw [hand] at h0
  rw [glued_toList]
  simp only [List.map_cons, List.map_nil, List.flatten_cons, List.flatten_nil, e0, List.nil_append]
  rw [h0, show (pick (m : Int) 1 (tabs.getD 1 [])).cps.toList = _ from h1, show (pick (m : Int) 2 (tabs.getD 2 [])).cps.toList = _ from h2, show (pick (m : Int) 3 (tabs.getD 3 [])).cps.toList = _ from h3, show (pick (m : Int) 4 (tabs.getD 4 [])).cps.toList = _ from h4, show (pick (m : Int) 5 (tabs.getD 5 [])).cps.toList = _ from h5, show (pick (m : Int) 6 (tabs.getD 6 [])).cps.toList = _ from h6, show (pick (m : Int) 7 (tabs.getD 7 [])).cps.toList = _ from h7, show (pick (m : Int) 8 (tabs.getD 8 [])).cps.toList = _ from h8, show (pick (m : Int) 9 (tabs.getD 9 [])).cps.toList = _ from h9]
  rfl

/-! the law's numbers -/
theorem code_len (script : List Int) : (codeF script).length = (drawsF script).length := by simp [codeF]
theorem code_rg {script : List Int} {a : Int} (h : a ∈ codeF script) : 0 ≤ a ∧ a ≤ (codeF script).length + 1 := by
  rw [code_len]
  obtain ⟨d, _, rfl⟩ := List.mem_map.mp h
  have h0 : (0 : Int) < ((drawsF script).length : Int) + 2 := by omega
  exact ⟨Int.fmod_nonneg_of_pos d h0, by have := Int.fmod_lt_of_pos d h0; omega⟩
theorem num_at (script : List Int) {b : Nat} (hb : b < 8) : ∃ q : Nat, q < 4096 ∧ q % 8 = b ∧ numF script b = (((if (codeF script).contains (b : Int) = true then 16384 else 32768) + q : Nat) : Int) := by
  obtain ⟨h0, h1⟩ := draws_rg script b
  unfold numF rightsF
  generalize (drawsF script ++ [5]).getD b 0 = r at h0 h1
  obtain ⟨r, rfl⟩ := Int.eq_ofNat_of_zero_le h0
  refine ⟨r * 43 - r * 43 % 8 + b, by omega, by omega, ?_⟩
  have e : ((r : Int) * 43).fmod 8 = ((r * 43 % 8 : Nat) : Int) := by
    have := fmodN (r * 43) 8
    rw [← this]
    norm_cast
  rw [e]
  split
  · have : r * 43 % 8 ≤ r * 43 := Nat.mod_le _ _
    omega
  · have : r * 43 % 8 ≤ r * 43 := Nat.mod_le _ _
    omega
theorem list_inj {x y : Str} (h : x.cps.toList = y.cps.toList) : x = y := by
  cases x; cases y
  congr 1
  exact Array.toList_inj.mp h
theorem fm_told (script : List Int) {b : Nat} (hb : b < 8) : fmF (numF script b) = told3 (numF script b) := by
  obtain ⟨q, hq, _, e⟩ := num_at script hb
  rw [e]
  apply list_inj
  rw [fm_list _ _ q rfl (by split <;> simp) hq, told_list]
  congr 1
  unfold rN bt
  cases (codeF script).contains (b : Int)
  · have : (32768 + q) / 16384 % 2 = 0 := by omega
    simp [this]
  · simp
    omega
theorem dir_num (script : List Int) {b : Nat} (hb : b < 8) : (Builtin.bitAnd (numF script b) 61440 == 16384) = (codeF script).contains (b : Int) := by
  obtain ⟨q, hq, _, e⟩ := num_at script hb
  rw [e, show (61440 : Int) = ((61440 : Nat) : Int) from rfl, andN, and_base _ q (by split <;> simp) hq]
  cases (codeF script).contains (b : Int) <;> rfl

/-! the order of the ranks' rows is the order of the signs -/
theorem rank_list (m : Nat) : rank3 (m : Int) = [((bt m 256).toNat : Int), ((bt m 128).toNat : Int), rkI ((bt m 64).toNat + 2 * (bt m 2048).toNat), ((bt m 32).toNat : Int), ((bt m 16).toNat : Int), rkI ((bt m 8).toNat + 2 * (bt m 1024).toNat), ((bt m 4).toNat : Int), ((bt m 2).toNat : Int), rkI ((bt m 1).toNat + 2 * (bt m 512).toNat)] := by
  have F : ∀ k ab : Nat, 0 < k → ∀ t, rankStep (m : Int) (k : Int) (ab : Int) t = t ++ [((bt m (k * 4)).toNat : Int), ((bt m (k * 2)).toNat : Int), rkI ((bt m k).toNat + 2 * (bt m ab).toNat)] := by
    intro k ab hk t
    have a1 := fig4 m k hk
    have a2 := fig2 m k hk
    have a3 := fig1 m k hk
    have a4 := onN m ab
    unfold rankStep rkAt
    have tn : ∀ (x : Int) (b : Bool), 0 ≤ x → x < 2 → (x == 1) = b → x = (b.toNat : Int) := by
      intro x b h0 h1 h
      subst h
      have : x = 0 ∨ x = 1 := by omega
      rcases this with rfl | rfl <;> rfl
    have b1 := fm2 (figI m k)
    have b2 := fm2 ((figI m k).fdiv 2)
    have b3 := fm2 ((m : Int).fdiv ab)
    have b0 : 0 ≤ figI m k ∧ figI m k < 8 := ⟨Int.fmod_nonneg_of_pos _ (by decide), Int.fmod_lt_of_pos _ (by decide)⟩
    have b4 : 0 ≤ (figI m k).fdiv 4 ∧ (figI m k).fdiv 4 < 2 := by
      rw [Int.fdiv_eq_ediv_of_nonneg _ (by decide)]; omega
    rw [tn _ _ b4.1 b4.2 a1, tn _ _ b2.1 b2.2 a2, tn _ _ b1.1 b1.2 a3, tn _ _ b3.1 b3.2 a4]
  unfold rank3 rank2 rank1
  have f1 := F 64 2048 (by decide) []
  have f2 := F 8 1024 (by decide)
  have f3 := F 1 512 (by decide)
  rw [show rankStep (m : Int) 64 2048 [] = _ from f1]
  refine (f3 _).trans ?_
  rw [show rankStep (m : Int) 8 1024 _ = _ from f2 _]
  rfl
theorem lt_step {c d : Nat} {r s : Int} {cs ds : List Nat} {rs ss : List Int} {p : Bool} (h1 : decide (c < d) = decide (r < s)) (h2 : (c == d) = (r == s))
    (h : (if cs = ds then p else decide (cs < ds)) = ltI rs ss) : (if c :: cs = d :: ds then p else decide (c :: cs < d :: ds)) = ltI (r :: rs) (s :: ss) := by
  unfold ltI
  by_cases e : c = d
  · subst e
    have e2 : (r == s) = true := by rw [← h2]; simp
    rw [e2, if_pos rfl, ← h]
    by_cases e3 : cs = ds
    · subst e3; simp
    · rw [if_neg (fun q => e3 (List.cons.inj q).2), if_neg e3]
      congr 1
      simp [List.cons_lt_cons_iff]
  · have e2 : (r == s) = false := by rw [← h2]; simpa using e
    rw [if_neg (fun q => e (List.cons.inj q).1), e2, if_neg (by decide), ← h1]
    congr 1
    simp [List.cons_lt_cons_iff, e]
theorem lt_signs (m n a b : Nat) : (if signsN m = signsN n then decide ((a : Int) < b) else decide (signsN m < signsN n)) = ltI (rank3 (m : Int) ++ [(a : Int)]) (rank3 (n : Int) ++ [(b : Int)]) := by
  rw [rank_list, rank_list]
  have R : ∀ (x y : Bool) (c : Nat), 45 < c → decide (rN x c < rN y c) = decide ((x.toNat : Int) < y.toNat) ∧ (rN x c == rN y c) = ((x.toNat : Int) == y.toNat) := by
    intro x y c hc
    cases x <;> cases y <;> simp [rN] <;> omega
  have X : ∀ (x s x' s' : Bool) (sm gr : Nat), 45 < gr → gr < sm → sm < 120 → decide (xN x s sm gr < xN x' s' sm gr) = decide (rkI ((x.toNat : Int) + 2 * s.toNat) < rkI ((x'.toNat : Int) + 2 * s'.toNat)) ∧ (xN x s sm gr == xN x' s' sm gr) = (rkI ((x.toNat : Int) + 2 * s.toNat) == rkI ((x'.toNat : Int) + 2 * s'.toNat)) := by
    intro x s x' s' sm gr h1 h2 h3
    cases x <;> cases s <;> cases x' <;> cases s' <;> simp [xN, rkI] <;> omega
  unfold signsN
  simp only [List.cons_append, List.nil_append]
  refine lt_step (R _ _ _ (by decide)).1 (R _ _ _ (by decide)).2 ?_
  refine lt_step (R _ _ _ (by decide)).1 (R _ _ _ (by decide)).2 ?_
  refine lt_step (X _ _ _ _ _ _ (by decide) (by decide) (by decide)).1 (X _ _ _ _ _ _ (by decide) (by decide) (by decide)).2 ?_
  refine lt_step (R _ _ _ (by decide)).1 (R _ _ _ (by decide)).2 ?_
  refine lt_step (R _ _ _ (by decide)).1 (R _ _ _ (by decide)).2 ?_
  refine lt_step (X _ _ _ _ _ _ (by decide) (by decide) (by decide)).1 (X _ _ _ _ _ _ (by decide) (by decide) (by decide)).2 ?_
  refine lt_step (R _ _ _ (by decide)).1 (R _ _ _ (by decide)).2 ?_
  refine lt_step (R _ _ _ (by decide)).1 (R _ _ _ (by decide)).2 ?_
  refine lt_step (X _ _ _ _ _ _ (by decide) (by decide) (by decide)).1 (X _ _ _ _ _ _ (by decide) (by decide) (by decide)).2 ?_
  rw [if_pos rfl]
  unfold ltI
  split
  · rename_i h; simp at h; simp [h, ltI]
  · rfl

end Mine
end

section
open PySem PySem.W PyProof.Rows
set_option Elab.async false
set_option linter.unusedVariables false
namespace Mine

/-! the decoded tree -/
def lf (code left0 : List Int) (k : Nat) : List Int := (treeN code left0 k).1
def ls (code left0 : List Int) (k : Nat) : Int := leastT code k (lf code left0 k)
def fullC (code : List Int) : List Int := code ++ [(code.length : Int) + 1]
theorem lf_succ (code left0 : List Int) (k : Nat) : lf code left0 (k + 1) = (lf code left0 k).erase (ls code left0 k) := rfl

theorem free_ne' {code : List Int} {k : Nat} {l : List Int} (hk : k ≤ code.length) (H : Left code.length k l) : ∃ b r, freeT code k l = b :: r ∧ leastT code k l = b ∧ b ∈ l ∧ b ∉ code.drop k := by
  by_cases h : k < code.length
  · exact free_ne h H
  · have e : k = code.length := by omega
    subst e
    have hl := H.ln
    have e0 : code.drop code.length = [] := by simp
    cases l with
    | nil => simp at hl
    | cons b r =>
      have hf : freeT code code.length (b :: r) = b :: r := by simp [freeT]
      exact ⟨b, r, hf, by simp [leastT, hf], .head _, by simp⟩

section
variable {code left0 : List Int} (H : Left code.length 0 left0)
include H
theorem lf_left : ∀ k, k ≤ code.length + 1 → Left code.length k (lf code left0 k)
  | 0, _ => H
  | k + 1, h => by
    have ih := lf_left k (by omega)
    obtain ⟨b, r, _, e, hb, _⟩ := free_ne' (by omega) ih
    rw [lf_succ, ls, e]
    exact ⟨ih.nd.erase b, fun x hx => ih.rg x (List.mem_of_mem_erase hx), by rw [List.length_erase_of_mem hb, ih.ln]; omega⟩
theorem ls_mem {k : Nat} (h : k ≤ code.length) : ls code left0 k ∈ lf code left0 k ∧ ls code left0 k ∉ code.drop k := by
  obtain ⟨b, r, _, e, hb, hn⟩ := free_ne' h (lf_left H k (by omega))
  rw [ls, e]
  exact ⟨hb, hn⟩
omit H in
theorem lf_anti {i : Nat} : ∀ {j : Nat}, i ≤ j → ∀ {x : Int}, x ∈ lf code left0 j → x ∈ lf code left0 i
  | 0, h, x, hx => by
    have : i = 0 := by omega
    subst this; exact hx
  | j + 1, h, x, hx => by
    by_cases e : i = j + 1
    · subst e; exact hx
    · rw [lf_succ] at hx
      exact lf_anti (by omega) (List.mem_of_mem_erase hx)
theorem ls_out {i j : Nat} (h : i < j) (hj : j ≤ code.length + 1) : ls code left0 i ∉ lf code left0 j := by
  intro q
  have q1 := lf_anti (i := i + 1) (by omega) q
  rw [lf_succ] at q1
  have nd := (lf_left H i (by omega)).nd
  rw [nd.mem_erase_iff] at q1
  exact q1.1 rfl
theorem ls_inj {i j : Nat} (hi : i ≤ code.length) (hj : j ≤ code.length) (h : ls code left0 i = ls code left0 j) : i = j := by
  rcases Nat.lt_trichotomy i j with q | q | q
  · exact absurd (h ▸ (ls_mem H hj).1 : ls code left0 i ∈ lf code left0 j) (ls_out H q (by omega))
  · exact q
  · exact absurd (h ▸ (ls_mem H hi).1 : ls code left0 j ∈ lf code left0 i) (ls_out H q (by omega))
theorem lf_iff (b : Int) : ∀ (d j : Nat), j + d = code.length + 1 → (b ∈ lf code left0 j ↔ ∃ k, j ≤ k ∧ k ≤ code.length ∧ b = ls code left0 k)
  | 0, j, h => by
    have hl := (lf_left H j (by omega)).ln
    have : lf code left0 j = [] := List.length_eq_zero_iff.mp (by omega)
    rw [this]
    constructor
    · intro q; cases q
    · rintro ⟨k, h1, h2, _⟩; omega
  | d + 1, j, h => by
    have ih := lf_iff b d (j + 1) (by omega)
    have nd := (lf_left H j (by omega)).nd
    constructor
    · intro hb
      by_cases e : b = ls code left0 j
      · exact ⟨j, Nat.le_refl _, by omega, e⟩
      · have : b ∈ lf code left0 (j + 1) := by rw [lf_succ]; exact (List.mem_erase_of_ne e).mpr hb
        obtain ⟨k, h1, h2, h3⟩ := ih.mp this
        exact ⟨k, by omega, h2, h3⟩
    · rintro ⟨k, h1, h2, rfl⟩
      exact lf_anti h1 (ls_mem H h2).1
theorem mem_lf {b : Int} {j : Nat} (h : j ≤ code.length + 1) : b ∈ lf code left0 j ↔ ∃ k, j ≤ k ∧ k ≤ code.length ∧ b = ls code left0 k := lf_iff H b (code.length + 1 - j) j (by omega)
theorem all_left {b : Int} (h0 : 0 ≤ b) (h1 : b ≤ code.length) : b ∈ left0 := by
  by_cases q : b ∈ left0
  · exact q
  · exfalso
    have nd : (b :: left0).Nodup := List.nodup_cons.mpr ⟨q, H.nd⟩
    have := nodup_le (m := (List.range (code.length + 1)).map fun (i : Nat) => (i : Int)) nd fun x hx => by
      have hr : 0 ≤ x ∧ x ≤ code.length := by
        rcases List.mem_cons.mp hx with rfl | hx
        · exact ⟨h0, h1⟩
        · exact H.rg x hx
      exact List.mem_map.mpr ⟨x.toNat, List.mem_range.mpr (by omega), by omega⟩
    have hl := H.ln
    simp at this
    omega
theorem is_ls {b : Int} (h0 : 0 ≤ b) (h1 : b ≤ code.length) : ∃ k, k ≤ code.length ∧ b = ls code left0 k := by
  obtain ⟨k, _, h2, h3⟩ := (mem_lf H (j := 0) (by omega)).mp (all_left H h0 h1)
  exact ⟨k, h2, h3⟩
theorem ls_rg {k : Nat} (h : k ≤ code.length) : 0 ≤ ls code left0 k ∧ ls code left0 k ≤ code.length := (lf_left H k (by omega)).rg _ (ls_mem H h).1

/-- the places above -/
theorem above_at : ∀ k, k ≤ code.length → (∀ i, i < k → (treeN code left0 k).2.getD (ls code left0 i).toNat 0 = code.getD i 0) ∧ (∀ b ∈ lf code left0 k, (treeN code left0 k).2.getD b.toNat 0 = (code.length : Int) + 1)
  | 0, _ => ⟨fun i h => by omega, fun b hb => by
    have := H.rg b hb
    show (List.replicate (code.length + 1) ((code.length : Int) + 1)).getD b.toNat 0 = _
    rw [List.getD_eq_getElem?_getD, List.getElem?_replicate_of_lt (by omega)]; rfl⟩
  | k + 1, h => by
    obtain ⟨a1, a2⟩ := above_at k (by omega)
    have hr := ls_rg H (k := k) (by omega)
    have hlen : (treeN code left0 k).2.length = code.length + 1 := tree_len k
    have e : (treeN code left0 (k + 1)).2 = (treeN code left0 k).2.set (ls code left0 k).toNat (code.getD k 0) := rfl
    rw [e]
    refine ⟨fun i hi => ?_, fun b hb => ?_⟩
    · by_cases q : i = k
      · subst q
        rw [List.getD_eq_getElem?_getD, List.getElem?_set_self (by omega)]; rfl
      · have hne : (ls code left0 k).toNat ≠ (ls code left0 i).toNat := by
          have r2 := ls_rg H (k := i) (by omega)
          intro x
          exact q (ls_inj H (by omega) (by omega) (by omega))
        rw [List.getD_eq_getElem?_getD, List.getElem?_set_ne hne, ← List.getD_eq_getElem?_getD]
        exact a1 i (by omega)
    · have r2 := (lf_left H (k + 1) (by omega)).rg b hb
      have hne : (ls code left0 k).toNat ≠ b.toNat := by
        intro x
        have : ls code left0 k = b := by omega
        exact ls_out H (i := k) (j := k + 1) (by omega) (by omega) (this ▸ hb)
      rw [List.getD_eq_getElem?_getD, List.getElem?_set_ne hne, ← List.getD_eq_getElem?_getD]
      exact a2 b (lf_anti (by omega) hb)
theorem par_ls {k : Nat} (h : k ≤ code.length) : (treeN code left0 code.length).2.getD (ls code left0 k).toNat 0 = (fullC code).getD k 0 := by
  obtain ⟨a1, a2⟩ := above_at H code.length (Nat.le_refl _)
  by_cases q : k < code.length
  · rw [a1 k q]
    simp [fullC, List.getD, List.getElem?_append_left q]
  · have : k = code.length := by omega
    subst this
    rw [a2 _ (ls_mem H h).1]
    simp [fullC, List.getD]
/-- a place above is taken later -/
theorem later {k : Nat} (hk : k ≤ code.length) (hr : 0 ≤ (fullC code).getD k 0 ∧ (fullC code).getD k 0 ≤ code.length) : ∃ i, k < i ∧ i ≤ code.length ∧ (fullC code).getD k 0 = ls code left0 i := by
  have hk' : k < code.length := by
    by_cases q : k < code.length
    · exact q
    · have : k = code.length := by omega
      subst this
      have : (fullC code).getD code.length 0 = (code.length : Int) + 1 := by simp [fullC, List.getD]
      omega
  have e : (fullC code).getD k 0 = code[k] := by simp [fullC, List.getD, List.getElem?_append_left hk', List.getElem?_eq_getElem hk']
  rw [e] at hr ⊢
  obtain ⟨i, hi, ei⟩ := is_ls H hr.1 hr.2
  refine ⟨i, ?_, hi, ei⟩
  by_cases q : k < i
  · exact q
  · exfalso
    refine (ls_mem H hi).2 ?_
    rw [← ei]
    rw [List.mem_iff_getElem]
    refine ⟨k - i, by rw [List.length_drop]; omega, ?_⟩
    rw [List.getElem_drop]
    congr 1
    omega
end
end Mine
end

section
open PySem PySem.W PyProof.Rows
set_option Elab.async false
set_option linter.unusedVariables false
namespace Mine

/-! the chains, from a place up to / -/
def left0F (script : List Int) : List Int := leftI (numsF script ((codeF script).length + 1)) ((codeF script).length + 1)
def nodeF (script : List Int) (k : Nat) : Int := ls (codeF script) (left0F script) k
def parF (script : List Int) (b : Nat) : Int := (aboveF script).getD b 0
def upF (script : List Int) (k : Nat) : Int := (fullC (codeF script)).getD k 0
theorem code_ge (script : List Int) : 2 ≤ (codeF script).length ∧ (codeF script).length ≤ 7 := by rw [code_len]; exact len_draws script
theorem left_H (script : List Int) : Left (codeF script).length 0 (left0F script) := left_start _ (by have := code_ge script; omega)
theorem up_rg (script : List Int) {k : Nat} (hk : k ≤ (codeF script).length) : 0 ≤ upF script k ∧ upF script k ≤ (codeF script).length + 1 := by
  unfold upF fullC
  by_cases q : k < (codeF script).length
  · have : ((codeF script) ++ [((codeF script).length : Int) + 1]).getD k 0 = (codeF script)[k] := by simp [List.getD, List.getElem?_append_left q, List.getElem?_eq_getElem q]
    rw [this]
    exact code_rg (List.getElem_mem q)
  · have : k = (codeF script).length := by omega
    subst this
    have : ((codeF script) ++ [((codeF script).length : Int) + 1]).getD (codeF script).length 0 = (codeF script).length + 1 := by simp [List.getD]
    omega
theorem node_rg (script : List Int) {k : Nat} (hk : k ≤ (codeF script).length) : 0 ≤ nodeF script k ∧ nodeF script k ≤ (codeF script).length := ls_rg (left_H script) hk
theorem par_node (script : List Int) {k : Nat} (hk : k ≤ (codeF script).length) : parF script (nodeF script k).toNat = upF script k := par_ls (left_H script) hk
theorem is_node (script : List Int) {b : Nat} (hb : b ≤ (codeF script).length) : ∃ k, k ≤ (codeF script).length ∧ (b : Int) = nodeF script k := is_ls (left_H script) (by omega) (by omega)
theorem node_later (script : List Int) {k : Nat} (hk : k ≤ (codeF script).length) (h : upF script k ≤ (codeF script).length) : ∃ i, k < i ∧ i ≤ (codeF script).length ∧ upF script k = nodeF script i := later (left_H script) hk ⟨(up_rg script hk).1, h⟩
theorem par_rg (script : List Int) {b : Nat} (hb : b ≤ (codeF script).length) : 0 ≤ parF script b ∧ parF script b ≤ (codeF script).length + 1 := by
  obtain ⟨k, hk, e⟩ := is_node script hb
  have := par_node script hk
  rw [← e] at this
  simp only [Int.toNat_natCast] at this
  rw [this]
  exact up_rg script hk

theorem node_ind (script : List Int) {motive : Nat → Prop} (top : ∀ b, b ≤ (codeF script).length → parF script b = (codeF script).length + 1 → motive b) (step : ∀ b p : Nat, b ≤ (codeF script).length → p ≤ (codeF script).length → parF script b = (p : Int) → motive p → motive b) :
    ∀ b, b ≤ (codeF script).length → motive b := by
  have key : ∀ d k, k + d = (codeF script).length → motive (nodeF script k).toNat := by
    intro d
    induction d using Nat.strongRecOn with
    | _ d ih =>
      intro k hkd
      have hk : k ≤ (codeF script).length := by omega
      have r := node_rg script hk
      have e := par_node script hk
      have u := up_rg script hk
      by_cases q : upF script k ≤ (codeF script).length
      · obtain ⟨i, h1, h2, h3⟩ := node_later script hk q
        refine step _ (upF script k).toNat (by omega) (by omega) (by omega) ?_
        rw [h3]
        exact ih ((codeF script).length - i) (by omega) i (by omega)
      · exact top _ (by omega) (by omega)
  intro b hb
  obtain ⟨k, hk, e⟩ := is_node script hb
  have := key ((codeF script).length - k) k (by omega)
  rw [← e] at this
  simpa using this

theorem names_at (script : List Int) {b : Nat} (hb : b ≤ (codeF script).length) : (namesF script ((codeF script).length + 1)).getD b "" = nameF script b := by
  simp [namesF, List.getD, List.getElem?_range (show b < (codeF script).length + 1 by omega)]
theorem chain_shift (script : List Int) {b : Nat} (hb : b ≤ (codeF script).length) : ∀ j, chainW script b (j + 1) = ((chainW script (parF script b).toNat j).1, (chainW script (parF script b).toNat j).2 ++ [nameF script b])
  | 0 => by
    have := (par_rg script hb).1
    show ((aboveF script).getD (b : Int).toNat 0, (namesF script ((codeF script).length + 1)).getD (b : Int).toNat "" :: []) = (((parF script b).toNat : Int), [] ++ [nameF script b])
    rw [Int.toNat_natCast, names_at script hb, Int.toNat_of_nonneg this]
    rfl
  | j + 1 => by
    have ih := chain_shift script hb j
    show ((aboveF script).getD (chainW script b (j + 1)).1.toNat 0, (namesF script ((codeF script).length + 1)).getD (chainW script b (j + 1)).1.toNat "" :: (chainW script b (j + 1)).2) = _
    rw [ih]
    rfl
def Ends (script : List Int) (b s : Nat) : Prop := (∀ j, j < s → 0 ≤ (chainW script b j).1 ∧ (chainW script b j).1 ≤ (codeF script).length) ∧ ((codeF script).length : Int) < (chainW script b s).1
theorem ends_top (script : List Int) {b : Nat} (hb : b ≤ (codeF script).length) (h : parF script b = (codeF script).length + 1) : Ends script b 1 := by
  refine ⟨fun j hj => ?_, ?_⟩
  · have : j = 0 := by omega
    subst this
    show (0 : Int) ≤ (b : Int) ∧ (b : Int) ≤ _
    omega
  · rw [chain_shift script hb 0]
    show _ < ((parF script b).toNat : Int)
    omega
theorem ends_step (script : List Int) {b p s : Nat} (hb : b ≤ (codeF script).length) (h : parF script b = (p : Int)) (hE : Ends script p s) : Ends script b (s + 1) := by
  have e : (parF script b).toNat = p := by omega
  refine ⟨fun j hj => ?_, ?_⟩
  · cases j with
    | zero =>
      show (0 : Int) ≤ (b : Int) ∧ (b : Int) ≤ _
      omega
    | succ j =>
      rw [chain_shift script hb j, e]
      exact hE.1 j (by omega)
  · rw [chain_shift script hb s, e]
    exact hE.2
theorem ends_one (script : List Int) {b s : Nat} (hE : Ends script b s) (hs : s ≤ (codeF script).length + 1) : stepsF script b = s := by
  unfold stepsF
  have : ((List.range ((codeF script).length + 2)).find? fun j => decide (((codeF script).length : Int) < (chainW script b j).1)) = some s := by
    rw [List.find?_range_eq_some]
    refine ⟨by simpa using hE.2, List.mem_range.mpr (by omega), fun j hj => ?_⟩
    have := (hE.1 j hj).2
    simp
    omega
  rw [this]; rfl
theorem node_time (script : List Int) : ∀ d k, k + d = (codeF script).length → ∃ s, s ≤ d + 1 ∧ Ends script (nodeF script k).toNat s := by
  intro d
  induction d using Nat.strongRecOn with
  | _ d ih =>
    intro k hkd
    have hk : k ≤ (codeF script).length := by omega
    have r := node_rg script hk
    have e := par_node script hk
    have u := up_rg script hk
    by_cases q : upF script k ≤ (codeF script).length
    · obtain ⟨i, h1, h2, h3⟩ := node_later script hk q
      have r2 := node_rg script h2
      obtain ⟨s, hs, hE⟩ := ih ((codeF script).length - i) (by omega) i (by omega)
      exact ⟨s + 1, by omega, ends_step script (p := (nodeF script i).toNat) (by omega) (by omega) hE⟩
    · exact ⟨1, by omega, ends_top script (by omega) (by omega)⟩
theorem node_ends (script : List Int) {b : Nat} (hb : b ≤ (codeF script).length) : Ends script b (stepsF script b) ∧ stepsF script b ≤ (codeF script).length + 1 := by
  obtain ⟨k, hk, e⟩ := is_node script hb
  obtain ⟨s, hs, hE⟩ := node_time script ((codeF script).length - k) k (by omega)
  rw [← e, Int.toNat_natCast] at hE
  have := ends_one script hE (by omega)
  rw [this]
  exact ⟨hE, by omega⟩
theorem chain_top (script : List Int) {b : Nat} (hb : b ≤ (codeF script).length) (h : parF script b = (codeF script).length + 1) : chainF script b = [nameF script b] := by
  have e := ends_one script (ends_top script hb h) (by omega)
  rw [chainF, e, chain_shift script hb 0]
  rfl
theorem chain_step (script : List Int) {b p : Nat} (hb : b ≤ (codeF script).length) (hp : p ≤ (codeF script).length) (h : parF script b = (p : Int)) : chainF script b = chainF script p ++ [nameF script b] := by
  obtain ⟨k, hk, ek⟩ := is_node script hb
  have e : (parF script b).toNat = p := by omega
  obtain ⟨hE, hs⟩ := node_ends script hp
  have hE' := ends_step script hb h hE
  obtain ⟨hE₂, hs₂⟩ := node_ends script hb
  have : stepsF script b = stepsF script p + 1 := by
    rcases Nat.lt_trichotomy (stepsF script b) (stepsF script p + 1) with q | q | q
    · have := (hE'.1 _ q).2
      have := hE₂.2
      omega
    · exact q
    · have := (hE₂.1 _ q).2
      have := hE'.2
      omega
  rw [chainF, this, chain_shift script hb, e]
  rfl

/-! the names -/
def nameL (script : List Int) (b : Nat) : List Nat := (nameF script b).cps.toList
theorem fig_list : ∀ b : Nat, b < 8 → (Str.ofString (toString ((b : Nat) : Int))).cps.toList = [48 + b] := by decide
theorem name_list (script : List Int) {b : Nat} (hb : b < 8) : ∃ x : List Nat, (x = [38] ∨ x = [60] ∨ x = [62] ∨ x = [38, 108, 116, 59] ∨ x = [13]) ∧ nameL script b = x ++ [48 + b] := by
  unfold nameL nameF
  have f := fm5 ((drawsF script ++ [5]).getD b 0 + b)
  generalize ((drawsF script ++ [5]).getD b 0 + (b : Int)).fmod 5 = k at f
  rw [app_list, fig_list b hb]
  have : k = 0 ∨ k = 1 ∨ k = 2 ∨ k = 3 ∨ k = 4 := by omega
  rcases this with rfl | rfl | rfl | rfl | rfl
  · exact ⟨_, .inl rfl, rfl⟩
  · exact ⟨_, .inr (.inl rfl), rfl⟩
  · exact ⟨_, .inr (.inr (.inl rfl)), rfl⟩
  · exact ⟨_, .inr (.inr (.inr (.inl rfl))), rfl⟩
  · exact ⟨_, .inr (.inr (.inr (.inr rfl))), rfl⟩
theorem start_sl {x : Str} (h : 47 ∉ x.cps.toList) : Txt.startswith x "/" = false := by
  unfold Txt.startswith
  rw [Bool.and_eq_false_iff]
  right
  rw [StrLaws.subAt_eq]
  rw [Bool.eq_false_iff]
  intro q
  have q := eq_of_beq q
  apply h
  have e : ("/" : Str).cps.toList = [47] := rfl
  rw [e] at q
  have : (47 : Nat) ∈ List.take ("/" : Str).length (List.drop 0 x.cps.toList) := by rw [q]; exact .head _
  exact List.mem_of_mem_drop (List.mem_of_mem_take this)
theorem name_ok (script : List Int) {b : Nat} (hb : b < 8) : 47 ∉ nameL script b ∧ (nameL script b).length ≤ 5 ∧ nameL script b ≠ [] := by
  obtain ⟨x, hx, e⟩ := name_list script hb
  rw [e]
  rcases hx with rfl | rfl | rfl | rfl | rfl <;> simp <;> omega
theorem chain_mem (script : List Int) : ∀ b, b ≤ (codeF script).length → ∀ x ∈ chainF script b, ∃ i, i ≤ (codeF script).length ∧ x = nameF script i := by
  refine node_ind script (fun b hb h x hx => ?_) (fun b p hb hp h ih x hx => ?_)
  · rw [chain_top script hb h, List.mem_singleton] at hx
    exact ⟨b, hb, hx⟩
  · rw [chain_step script hb hp h, List.mem_append, List.mem_singleton] at hx
    rcases hx with hx | hx
    · exact ih x hx
    · exact ⟨b, hb, hx⟩
theorem steps_ok (script : List Int) : StepsOk script where
  go := fun b hb => by
    obtain ⟨hE, hs⟩ := node_ends script hb
    have := code_ge script
    exact ⟨hE.1, hE.2, by omega⟩
  nm := fun b hb x hx => by
    obtain ⟨i, hi, rfl⟩ := chain_mem script b hb x hx
    have := code_ge script
    have h := name_ok script (b := i) (by omega)
    exact ⟨start_sl h.1, by have := h.2.1; simpa [nameL, Str.length] using this⟩
end Mine
end

section
open PySem PySem.W PyProof.Rows PySem.StrLaws
open Builtin Builtin.Str
set_option Elab.async false
set_option linter.unusedVariables false
namespace Mine

/-! the paths -/
def plainL (script : List Int) (b : Nat) : List Nat := (plainF script b).cps.toList
theorem sl_list : ("/" : Str).cps.toList = [47] := rfl
theorem join_snoc (sep : Str) (l : List Str) (x : Str) (hl : l ≠ []) : (Txt.join sep (l ++ [x])).cps.toList = (Txt.join sep l).cps.toList ++ (sep.cps.toList ++ x.cps.toList) := by
  cases l with
  | nil => exact absurd rfl hl
  | cons y l =>
    unfold Txt.join
    rw [List.cons_append, glued_toList, glued_toList]
    simp
theorem join_one (sep x : Str) : (Txt.join sep [x]).cps.toList = x.cps.toList := by
  unfold Txt.join
  rw [glued_toList]
  simp
theorem chain_ne (script : List Int) {b : Nat} (hb : b ≤ (codeF script).length) : chainF script b ≠ [] := by
  have := par_rg script hb
  by_cases q : parF script b = (codeF script).length + 1
  · rw [chain_top script hb q]; simp
  · rw [chain_step script hb (p := (parF script b).toNat) (by omega) (by omega)]; simp
theorem plain_top (script : List Int) {b : Nat} (hb : b ≤ (codeF script).length) (h : parF script b = (codeF script).length + 1) : plainL script b = 47 :: nameL script b := by
  unfold plainL plainF
  rw [chain_top script hb h, app_list, join_one, sl_list]
  rfl
theorem plain_step (script : List Int) {b p : Nat} (hb : b ≤ (codeF script).length) (hp : p ≤ (codeF script).length) (h : parF script b = (p : Int)) : plainL script b = plainL script p ++ 47 :: nameL script b := by
  unfold plainL plainF
  rw [chain_step script hb hp h, app_list, app_list, join_snoc _ _ _ (chain_ne script hp), sl_list, List.append_assoc]
  rfl
theorem plain_last (script : List Int) {b : Nat} (hb : b ≤ (codeF script).length) : ∃ l, plainL script b = 47 :: (l ++ [48 + b]) := by
  have key : ∀ b, b ≤ (codeF script).length → ∃ l, plainL script b = 47 :: (l ++ [48 + b]) := by
    refine node_ind script (fun b hb h => ?_) (fun b p hb hp h ih => ?_)
    · have := code_ge script
      obtain ⟨x, _, e⟩ := name_list script (b := b) (by omega)
      exact ⟨x, by rw [plain_top script hb h, e]⟩
    · have := code_ge script
      obtain ⟨x, _, e⟩ := name_list script (b := b) (by omega)
      obtain ⟨l, hl⟩ := ih
      exact ⟨l ++ [48 + p] ++ 47 :: x, by rw [plain_step script hb hp h, e, hl]; simp⟩
  exact key b hb
theorem plain_inj (script : List Int) {a b : Nat} (ha : a ≤ (codeF script).length) (hb : b ≤ (codeF script).length) (h : plainF script a = plainF script b) : a = b := by
  obtain ⟨l, e⟩ := plain_last script ha
  obtain ⟨l', e'⟩ := plain_last script hb
  have : plainL script a = plainL script b := by unfold plainL; rw [h]
  rw [e, e'] at this
  have := (List.cons.inj this).2
  have := congrArg List.getLast? this
  simp at this
  exact this
theorem plain_ne (script : List Int) {b : Nat} (hb : b ≤ (codeF script).length) : plainF script b ≠ "/" := by
  obtain ⟨l, e⟩ := plain_last script hb
  intro q
  have : plainL script b = [47] := by unfold plainL; rw [q]; rfl
  rw [e] at this
  have := (List.cons.inj this).2
  simp at this

/-! join's way is the plain one -/
theorem end_sl {x : Str} {l : List Nat} {c : Nat} (h : x.cps.toList = l ++ [c]) (hc : c ≠ 47) : Txt.endswith x "/" = false := by
  unfold Txt.endswith
  rw [Bool.and_eq_false_iff]
  right
  rw [StrLaws.subAt_eq, Bool.eq_false_iff]
  intro q
  have q := eq_of_beq q
  have hl : x.length = l.length + 1 := by
    have : x.cps.toList.length = x.length := by simp [Str.length]
    rw [← this, h]; simp
  have h1 : ("/" : Str).length = 1 := rfl
  rw [sl_list, h, hl, h1] at q
  have e1 : l.length + 1 - 1 = l.length := by omega
  rw [e1, List.drop_left] at q
  simp at q
  exact hc q
theorem joinP_list {x y : Str} {l : List Nat} {c : Nat} (h : x.cps.toList = l ++ [c]) (hc : c ≠ 47) : (joinP x y).cps.toList = x.cps.toList ++ 47 :: y.cps.toList := by
  unfold joinP
  rw [end_sl h hc, if_neg Bool.false_ne_true, app_list, app_list, sl_list]
  rfl
theorem way_plain (script : List Int) : ∀ b, b ≤ (codeF script).length → wayF script b = plainF script b := by
  refine node_ind script (fun b hb h => ?_) (fun b p hb hp h ih => ?_)
  · apply list_inj
    have : plainL script b = _ := plain_top script hb h
    unfold plainL at this
    rw [this]
    unfold wayF
    rw [chain_top script hb h]
    show (joinP "/" (nameF script b)).cps.toList = _
    unfold joinP
    rw [if_pos (by decide), app_list, sl_list]
    rfl
  · apply list_inj
    have : plainL script b = _ := plain_step script hb hp h
    unfold plainL at this
    rw [this]
    have e : wayF script b = joinP (wayF script p) (nameF script b) := by
      unfold wayF
      rw [chain_step script hb hp h, List.foldl_append]
      rfl
    obtain ⟨l, el⟩ := plain_last script hp
    unfold plainL at el
    have := code_ge script
    rw [e, ih]
    exact joinP_list (l := 47 :: l) (c := 48 + p) (by rw [el]; rfl) (by omega)

/-! the text that stands before the last / -/
theorem rfind_at {x : Str} {p q : List Nat} (h : x.cps.toList = p ++ 47 :: q) (hq : 47 ∉ q) : Txt.rfind x "/" = p.length := by
  have hl : x.length = p.length + (1 + q.length) := by
    have : x.cps.toList.length = x.length := by simp [Str.length]
    rw [← this, h]; simp; omega
  have h1 : ("/" : Str).length = 1 := rfl
  have at_iff : ∀ i, At x "/" x.length i ↔ x.cps.toList[i]? = some 47 := fun i => subAt_one x 47 i
  have hp : At x "/" x.length p.length := by
    rw [at_iff, h]; simp
  have hn : ∀ k, p.length < k → ¬ At x "/" x.length k := by
    intro k hk hA
    rw [at_iff, h, List.getElem?_append_right (by omega)] at hA
    obtain ⟨j, hj⟩ : ∃ j, k - p.length = j + 1 := ⟨k - p.length - 1, by omega⟩
    rw [hj, List.getElem?_cons_succ] at hA
    exact hq (List.mem_of_getElem? hA)
  unfold Txt.rfind
  rcases last_spec x "/" with ⟨e, hno⟩ | ⟨i, e, hi, hi'⟩
  · exact absurd hp (hno _)
  · rw [e]
    have : i = p.length := by
      rcases Nat.lt_trichotomy i p.length with q | q | q
      · exact absurd hp (hi' _ q)
      · exact q
      · exact absurd hi (hn _ q)
    rw [this]
end Mine
end

section
open PySem PySem.W PyProof.Rows PySem.StrLaws
open Builtin Builtin.Str
set_option Elab.async false
set_option linter.unusedVariables false
namespace Mine

theorem len_list (x : Str) : x.cps.toList.length = x.length := by simp [Str.length]
theorem slice_list (x : Str) {a b : Nat} (hab : a ≤ b) (hb : b ≤ x.length) : (Txt.slice x (some (a : Int)) (some (b : Int))).cps.toList = (x.cps.toList.drop a).take (b - a) := by
  unfold Txt.slice
  split
  · rename_i h
    have h2 := (Bool.and_eq_true_iff.mp h).2
    rw [strSliceIndices_plain hab hb] at h2
    simp at h2
    have : a = 0 ∧ b = x.length := by omega
    obtain ⟨rfl, rfl⟩ := this
    rw [List.drop_zero, List.take_of_length_le (by rw [len_list]; omega)]
  · show List.filterMap _ _ = _
    exact sliced_plain x hab hb
theorem idx_lo (b : Int) (n : Nat) : strSliceIndices none (some b) 1 n = strSliceIndices (some ((0 : Nat) : Int)) (some b) 1 n := by
  have e : max (0 : Int) (min ((0 : Nat) : Int) (n : Int)) = 0 := by omega
  have h1 : ¬ (((0 : Nat) : Int) < 0) := by omega
  simp only [strSliceIndices, h1, if_false, show ((1 : Int) > 0) = True from by simp, if_true, e]
theorem idx_hi (a : Int) (n : Nat) : strSliceIndices (some a) none 1 n = strSliceIndices (some a) (some (n : Int)) 1 n := by
  have e : max (0 : Int) (min (n : Int) (n : Int)) = n := by omega
  have h1 : ¬ ((n : Int) < 0) := by omega
  simp only [strSliceIndices, h1, if_false, show ((1 : Int) > 0) = True from by simp, if_true, e]
theorem slice_to (x : Str) {b : Nat} (hb : b ≤ x.length) : (Txt.slice x none (some (b : Int))).cps.toList = x.cps.toList.take b := by
  have : Txt.slice x none (some (b : Int)) = Txt.slice x (some ((0 : Nat) : Int)) (some (b : Int)) := by
    unfold Txt.slice
    rw [idx_lo]
  rw [this, slice_list x (Nat.zero_le _) hb]
  simp
theorem slice_from (x : Str) {a : Nat} (ha : a ≤ x.length) : (Txt.slice x (some (a : Int)) none).cps.toList = x.cps.toList.drop a := by
  have : Txt.slice x (some (a : Int)) none = Txt.slice x (some (a : Int)) (some (x.length : Int)) := by
    unfold Txt.slice
    rw [idx_hi]
  rw [this, slice_list x ha (Nat.le_refl _), List.take_of_length_le (by rw [List.length_drop, len_list]; omega)]
theorem mul_sl (n : Int) : ∀ y ∈ (Txt.mul "/" n).cps.toList, y = 47 := by
  intro y hy
  unfold Txt.mul at hy
  split at hy
  · simp [Str.empty] at hy
  · split at hy
    · rw [sl_list] at hy
      simpa using hy
    · have key : ∀ (k : Nat) (acc : Array Nat), (∀ y ∈ acc.toList, y = 47) → ∀ y ∈ ((List.replicate k ("/" : Str).cps).foldl (· ++ ·) acc).toList, y = 47 := by
        intro k
        induction k with
        | zero => intro acc h; simpa using h
        | succ k ih =>
          intro acc h
          rw [List.replicate_succ, List.foldl_cons]
          refine ih _ fun y hy => ?_
          rw [Array.toList_append, List.mem_append, sl_list] at hy
          rcases hy with hy | hy
          · exact h y hy
          · simpa using hy
      exact key _ #[] (by simp) y hy
theorem dirH_list {x : Str} {p q : List Nat} (h : x.cps.toList = p ++ 47 :: q) (hq : 47 ∉ q) : (dirH x).cps.toList = p ++ [47] := by
  unfold dirH
  rw [rfind_at h hq]
  have hl : x.length = p.length + (1 + q.length) := by rw [← len_list, h]; simp; omega
  have := slice_to x (b := p.length + 1) (by omega)
  rw [show ((p.length : Int) + 1) = ((p.length + 1 : Nat) : Int) by push_cast; rfl, this, h]
  rw [show p ++ 47 :: q = (p ++ [47]) ++ q by simp, List.take_left' (by simp)]
theorem dirP_top {x : Str} {q : List Nat} (h : x.cps.toList = 47 :: q) (hq : 47 ∉ q) : dirP x = "/" := by
  have e : dirH x = "/" := list_inj (dirH_list (p := []) h hq)
  unfold dirP
  rw [e]
  rfl
theorem dirP_in {x y : Str} {l q : List Nat} {c : Nat} (hy : y.cps.toList = l ++ [c]) (hc : c ≠ 47) (h : x.cps.toList = y.cps.toList ++ 47 :: q) (hq : 47 ∉ q) : dirP x = y := by
  have e := dirH_list h hq
  have hl : (dirH x).length = y.length + 1 := by rw [← len_list, e, List.length_append, len_list]; rfl
  have hly : y.length = l.length + 1 := by rw [← len_list, hy]; simp
  have hne : (dirH x != Txt.mul "/" (dirH x).length) = true := by
    rw [bne_iff_ne]
    intro q
    have : c ∈ (dirH x).cps.toList := by rw [e, hy]; simp
    rw [q] at this
    exact hc (mul_sl _ c this)
  have hpos : (((dirH x).length : Int) != 0) = true := by
    rw [bne_iff_ne]; omega
  unfold dirP
  rw [hpos, hne]
  apply list_inj
  show (Txt.rstripChars (dirH x) "/").cps.toList = _
  unfold Txt.rstripChars Txt.stripBy
  have hlo : stripLo (("/" : Str).cps.contains) false (dirH x) = 0 := rfl
  have hgo : ("/" : Str).cps.contains c = false := by
    rw [Bool.eq_false_iff]
    intro q
    rw [Array.contains_iff_mem] at q
    have : c ∈ ("/" : Str).cps.toList := by simpa using q
    rw [sl_list] at this
    exact hc (by simpa using this)
  have hgo2 : ("/" : Str).cps.contains 47 = true := by
    rw [Array.contains_iff_mem]
    have : (47 : Nat) ∈ ("/" : Str).cps.toList := by rw [sl_list]; simp
    simpa using this
  have hhi : stripHi (("/" : Str).cps.contains) true (dirH x) 0 = y.length := by
    unfold stripHi
    rw [if_pos rfl, List.drop_zero, e, hy]
    have : ((l ++ [c] ++ [47]).reverse.takeWhile ("/" : Str).cps.contains).length = 1 := by
      simp only [List.reverse_append, List.reverse_cons, List.reverse_nil, List.nil_append, List.singleton_append, List.takeWhile_cons, hgo2, hgo]
      rfl
    rw [this, hl]
    omega
  have hsame : stripSame (("/" : Str).cps.contains) false true (dirH x) = false := by
    unfold stripSame
    rw [hlo, hhi, hl]
    simp
  rw [hsame, if_neg Bool.false_ne_true]
  unfold PySem.stripped
  rw [hlo, hhi, strSub_toList, e]
  rw [List.drop_zero, Nat.sub_zero]
  exact List.take_left' (len_list y)
/-- the place above, as a text -/
def rootF (script : List Int) (a : Int) : Str := if a ≤ ((codeF script).length : Int) then plainF script a.toNat else "/"
theorem dir_plain (script : List Int) {b : Nat} (hb : b ≤ (codeF script).length) : dirP (plainF script b) = rootF script (parF script b) := by
  have hr := par_rg script hb
  have := code_ge script
  have hn := name_ok script (b := b) (by omega)
  unfold rootF
  by_cases q : parF script b = (codeF script).length + 1
  · rw [if_neg (by omega)]
    exact dirP_top (plain_top script hb q) hn.1
  · rw [if_pos (by omega)]
    obtain ⟨l, e⟩ := plain_last script (b := (parF script b).toNat) (by omega)
    exact dirP_in (l := 47 :: l) (c := 48 + (parF script b).toNat) (by unfold plainL at e; rw [e]; rfl) (by omega) (plain_step script hb (p := (parF script b).toNat) (by omega) (by omega)) hn.1
end Mine
end

section
open PySem PySem.W PyProof.Rows PySem.StrLaws
open Builtin Builtin.Str
set_option Elab.async false
set_option linter.unusedVariables false
namespace Mine

/-! there and back -/
theorem best_min (bt : Nat → Nat → Bool) (tr : ∀ i j k, bt i j = true → bt j k = true → bt i k = true) (ir : ∀ i, bt i i = false) : ∀ k i, i ≤ k → bt i (argBest bt k) = false
  | 0, i, h => by
    have : i = 0 := by omega
    subst this
    exact ir 0
  | k + 1, i, h => by
    unfold argBest
    split
    · rename_i hb
      by_cases q : i = k + 1
      · subst q; exact ir _
      · have ih := best_min bt tr ir k i (by omega)
        rw [Bool.eq_false_iff]
        intro x
        rw [tr _ _ _ x hb] at ih
        cases ih
    · rename_i hb
      by_cases q : i = k + 1
      · subst q; simpa using hb
      · exact best_min bt tr ir k i (by omega)
def numsA (script : List Int) : List Int := numsF script ((codeF script).length + 1)
theorem nums_at (script : List Int) {b : Nat} (hb : b ≤ (codeF script).length) : (numsA script).getD b 0 = numF script b := by
  simp [numsA, numsF, List.getD, List.getElem?_range (show b < (codeF script).length + 1 by omega)]
theorem told_len (m : Nat) : (told3 (m : Int)).length = 10 := (len_toldS (m : Int)).2.2.2
theorem pair_lt (script : List Int) {a b : Int} (ha : 0 ≤ a ∧ a ≤ (codeF script).length) (hb : 0 ≤ b ∧ b ≤ (codeF script).length) : ltLL (pairF script a) (pairF script b) = ltI (rowI (numsA script) a.toNat) (rowI (numsA script) b.toNat) := by
  have hc := code_ge script
  obtain ⟨i, rfl⟩ := Int.eq_ofNat_of_zero_le ha.1
  obtain ⟨j, rfl⟩ := Int.eq_ofNat_of_zero_le hb.1
  obtain ⟨q, _, _, e⟩ := num_at script (b := i) (by omega)
  obtain ⟨q', _, _, e'⟩ := num_at script (b := j) (by omega)
  unfold rowI pairF
  simp only [Int.toNat_natCast]
  rw [nums_at script (b := i) (by omega), nums_at script (b := j) (by omega), e, e']
  generalize ((if (codeF script).contains ((i : Nat) : Int) = true then 16384 else 32768) + q) = m
  generalize ((if (codeF script).contains ((j : Nat) : Int) = true then 16384 else 32768) + q') = n
  rw [← lt_signs m n i j]
  have s1 : ∀ m : Nat, (Txt.slice (told3 (m : Int)) (some 1) none).cps.toList = signsN m := fun m => by
    have := slice_from (told3 (m : Int)) (a := 1) (by rw [told_len]; decide)
    rw [show (some (1 : Int)) = some ((1 : Nat) : Int) from rfl, this, told_list]
    rfl
  have s2 : (Txt.slice (told3 (m : Int)) (some 1) none == Txt.slice (told3 (n : Int)) (some 1) none) = decide (signsN m = signsN n) := by
    rw [Bool.eq_iff_iff, beq_iff_eq, decide_eq_true_eq, ← s1 m, ← s1 n]
    exact ⟨fun q => by rw [q], list_inj⟩
  show (if (Txt.slice (told3 (m : Int)) (some 1) none == Txt.slice (told3 (n : Int)) (some 1) none) = true then (if ((i : Int) == (j : Int)) = true then false else decide ((i : Int) < (j : Int))) else decide ((Txt.slice (told3 (m : Int)) (some 1) none).cps.toList < (Txt.slice (told3 (n : Int)) (some 1) none).cps.toList)) = _
  rw [s1, s1, s2]
  by_cases q : signsN m = signsN n
  · simp only [q, decide_true, if_true]
    split
    · rename_i h; have := eq_of_beq h; simp; omega
    · rfl
  · simp only [q, decide_false, Bool.false_eq_true, if_false]

theorem left_sorted (script : List Int) : ∀ k, (lf (codeF script) (left0F script) k).Pairwise fun a b => ltI (rowI (numsA script) a.toNat) (rowI (numsA script) b.toNat) = true
  | 0 => by
    have := code_ge script
    obtain ⟨_, _, _, h⟩ := leftQ_spec (numsA script) (n := (codeF script).length + 1) (by omega)
    show (leftI (numsA script) ((codeF script).length + 1)).Pairwise _
    unfold leftI
    rw [List.pairwise_map]
    exact h
  | k + 1 => by
    rw [lf_succ]
    exact (left_sorted script k).sublist List.erase_sublist
theorem least_first (script : List Int) {k : Nat} (hk : k ≤ (codeF script).length) : ∀ z ∈ freeT (codeF script) k (lf (codeF script) (left0F script) k), z ≠ nodeF script k → ltI (rowI (numsA script) (nodeF script k).toNat) (rowI (numsA script) z.toNat) = true := by
  intro z hz hne
  obtain ⟨b, r, e, el, _, _⟩ := free_ne' hk (lf_left (left_H script) k (by omega))
  have hs : (freeT (codeF script) k (lf (codeF script) (left0F script) k)).Pairwise fun a b => ltI (rowI (numsA script) a.toNat) (rowI (numsA script) b.toNat) = true := (left_sorted script k).sublist List.filter_sublist
  have en : nodeF script k = b := el
  rw [e] at hz hs
  rw [en] at hne ⊢
  rcases List.mem_cons.mp hz with rfl | hz
  · exact absurd rfl hne
  · exact (List.pairwise_cons.mp hs).1 z hz
theorem read_at (script : List Int) {b : Int} (hb : 0 ≤ b ∧ b ≤ (codeF script).length) : readF script b = plainF script b.toNat := by
  unfold readF plainsF
  simp [List.getD, List.getElem?_range (show b.toNat < (codeF script).length + 1 by omega)]
theorem roof_at (script : List Int) {b : Int} (hb : 0 ≤ b ∧ b ≤ (codeF script).length) : roofF script b = rootF script (parF script b.toNat) := by
  rw [← dir_plain script (b := b.toNat) (by omega)]
  unfold roofF roofsF plainsF
  simp [List.getD, List.getElem?_range (show b.toNat < (codeF script).length + 1 by omega)]
theorem root_plain (script : List Int) {a : Int} {b : Nat} (ha : 0 ≤ a) (hb : b ≤ (codeF script).length) : rootF script a = plainF script b ↔ a = b := by
  unfold rootF
  constructor
  · intro h
    by_cases q : a ≤ ((codeF script).length : Int)
    · rw [if_pos q] at h
      have := plain_inj script (by omega) hb h
      omega
    · rw [if_neg q] at h
      exact absurd h.symm (plain_ne script hb)
  · rintro rfl
    rw [if_pos (by omega)]
    rfl
theorem mem_drop (script : List Int) {k : Nat} (hk : k ≤ (codeF script).length) {b : Nat} (hb : b ≤ (codeF script).length) : (b : Int) ∈ (codeF script).drop k ↔ ∃ i, k ≤ i ∧ i ≤ (codeF script).length ∧ upF script i = b := by
  have up : ∀ i (hi : i < (codeF script).length), upF script i = (codeF script)[i] := fun i hi => by simp [upF, fullC, List.getD, List.getElem?_append_left hi, List.getElem?_eq_getElem hi]
  constructor
  · intro h
    obtain ⟨j, hj, e⟩ := List.getElem_of_mem h
    rw [List.length_drop] at hj
    rw [List.getElem_drop] at e
    exact ⟨k + j, by omega, by omega, (up _ (by omega)).trans e⟩
  · rintro ⟨i, h1, h2, e⟩
    have hi : i < (codeF script).length := by
      by_cases q : i < (codeF script).length
      · exact q
      · have : i = (codeF script).length := by omega
        subst this
        have : upF script (codeF script).length = (codeF script).length + 1 := by simp [upF, fullC, List.getD]
        omega
    rw [up i hi] at e
    rw [List.mem_iff_getElem]
    refine ⟨i - k, by rw [List.length_drop]; omega, ?_⟩
    rw [List.getElem_drop, ← e]
    congr 1
    omega
/-- the same places are free -/
theorem free_same (script : List Int) {k : Nat} (hk : k ≤ (codeF script).length) {here : List Int} (hm : ∀ b, b ∈ here ↔ b ∈ lf (codeF script) (left0F script) k) (b : Int) :
    b ∈ freeH script here ↔ b ∈ freeT (codeF script) k (lf (codeF script) (left0F script) k) := by
  unfold freeH freeT
  rw [List.mem_filter, List.mem_filter, hm]
  refine and_congr_right fun hb => ?_
  have hr := (lf_left (left_H script) k (by omega)).rg b hb
  have hlf := fun c => mem_lf (left_H script) (b := c) (j := k) (by omega)
  have key : ((here.map (roofF script)).contains (readF script b) = true) ↔ ((codeF script).drop k).contains b = true := by
    rw [List.contains_iff_mem, List.contains_iff_mem, List.mem_map, read_at script hr]
    have e : b = ((b.toNat : Nat) : Int) := by omega
    rw [show (b ∈ (codeF script).drop k) = (((b.toNat : Nat) : Int) ∈ (codeF script).drop k) by rw [← e], mem_drop script hk (by omega)]
    constructor
    · rintro ⟨c, hc, h⟩
      obtain ⟨i, h1, h2, rfl⟩ := (hlf c).mp ((hm c).mp hc)
      have hr2 := node_rg script h2
      rw [show roofF script (ls (codeF script) (left0F script) i) = rootF script (parF script (nodeF script i).toNat) from roof_at script hr2] at h
      have hp := par_node script h2
      rw [hp, root_plain script (up_rg script h2).1 (by omega)] at h
      exact ⟨i, h1, h2, h⟩
    · rintro ⟨i, h1, h2, h⟩
      refine ⟨nodeF script i, (hm _).mpr ((hlf _).mpr ⟨i, h1, h2, rfl⟩), ?_⟩
      rw [roof_at script (node_rg script h2), par_node script h2, root_plain script (up_rg script h2).1 (by omega)]
      exact h
  rw [Bool.not_eq_true', Bool.not_eq_true', ← Bool.not_eq_true, ← Bool.not_eq_true, not_congr key]
theorem least_same (script : List Int) {k : Nat} (hk : k ≤ (codeF script).length) {here : List Int} (hm : ∀ b, b ∈ here ↔ b ∈ lf (codeF script) (left0F script) k) : freeH script here ≠ [] ∧ leastH script here = nodeF script k := by
  obtain ⟨b, r, e, el, _, _⟩ := free_ne' hk (lf_left (left_H script) k (by omega))
  have hfs := free_same script hk hm
  have en : nodeF script k = b := el
  have hbm : nodeF script k ∈ freeH script here := (hfs _).mpr (by rw [e, en]; exact .head _)
  have hne : freeH script here ≠ [] := fun q => by rw [q] at hbm; cases hbm
  refine ⟨hne, ?_⟩
  obtain ⟨hl, _⟩ := least_mem hne
  have hlm := List.mem_of_getElem? hl
  by_cases q : leastH script here = nodeF script k
  · exact q
  · exfalso
    have h1 := least_first script hk _ ((hfs _).mp hlm) q
    have rg : ∀ z ∈ freeH script here, 0 ≤ z ∧ z ≤ (codeF script).length := fun z hz => (lf_left (left_H script) k (by omega)).rg z ((hm z).mp (List.mem_filter.mp hz).1)
    obtain ⟨i, hi, ei⟩ := List.getElem_of_mem hbm
    generalize hxs : freeH script here = xs at *
    let bt' : Nat → Nat → Bool := fun i j => ltI (rowI (numsA script) (xs.getD i 0).toNat) (rowI (numsA script) (xs.getD j 0).toNat)
    have ebt : ∀ k, k < xs.length → argBest (fun i j => ltLL ((xs.map (pairF script)).getD i .none) ((xs.map (pairF script)).getD j .none)) k = argBest bt' k := by
      intro k
      induction k with
      | zero => intro _; rfl
      | succ k ih =>
        intro hk
        have ih := ih (by omega)
        unfold argBest
        rw [ih]
        have hle := argBest_le bt' k
        have eb : ltLL ((xs.map (pairF script)).getD (k + 1) .none) ((xs.map (pairF script)).getD (argBest bt' k) .none) = bt' (k + 1) (argBest bt' k) := by
          have g : ∀ j, j < xs.length → (xs.map (pairF script)).getD j .none = pairF script (xs.getD j 0) ∧ (xs.getD j 0) ∈ xs := fun j hj => by
            have e1 : xs.getD j 0 = xs[j] := by simp [List.getD, List.getElem?_eq_getElem hj]
            rw [e1]
            exact ⟨by simp [List.getD, List.getElem?_eq_getElem hj], List.getElem_mem hj⟩
          obtain ⟨g1, m1⟩ := g (k + 1) hk
          obtain ⟨g2, m2⟩ := g (argBest bt' k) (by omega)
          rw [g1, g2]
          exact pair_lt script (rg _ m1) (rg _ m2)
        rw [eb]
    have hb := best_min bt' (fun i j k => ltI_trans _ _ _) (fun i => by
      rw [Bool.eq_false_iff]; intro h
      have h' := ltI_asym _ _ h
      rw [show ltI (rowI (numsA script) (xs.getD i 0).toNat) (rowI (numsA script) (xs.getD i 0).toNat) = true from h] at h'; cases h') (xs.length - 1) i (by omega)
    have ebd : bestD (xs.map (pairF script)) = argBest bt' (xs.length - 1) := by
      unfold bestD
      rw [List.length_map]
      exact ebt _ (by omega)
    have e1 : xs.getD i 0 = nodeF script k := by simp [List.getD, List.getElem?_eq_getElem hi, ei]
    have e2 : xs.getD (argBest bt' (xs.length - 1)) 0 = leastH script here := by
      rw [← ebd]
      simp [List.getD, hl]
    have hb' : ltI (rowI (numsA script) (xs.getD i 0).toNat) (rowI (numsA script) (xs.getD (argBest bt' (xs.length - 1)) 0).toNat) = false := hb
    rw [e1, e2, h1] at hb'
    cases hb'
theorem here_same (script : List Int) : ∀ k, k ≤ (codeF script).length + 1 → (hereN script k).Nodup ∧ ∀ b, b ∈ hereN script k ↔ b ∈ lf (codeF script) (left0F script) k
  | 0, _ => by
    have hm : ∀ b, b ∈ hereN script 0 ↔ 0 ≤ b ∧ b ≤ (codeF script).length := by
      intro b
      constructor
      · exact here_sub script 0 b
      · intro h
        exact List.mem_map.mpr ⟨b.toNat, List.mem_range.mpr (by omega), by omega⟩
    refine ⟨?_, fun b => ?_⟩
    · show (List.map _ (List.range _)).Nodup
      rw [List.nodup_iff_pairwise_ne, List.pairwise_map]
      have := List.nodup_range (n := (codeF script).length + 1)
      rw [List.nodup_iff_pairwise_ne] at this
      exact this.imp fun h q => h (by omega)
    · rw [hm]
      constructor
      · intro h; exact all_left (left_H script) h.1 h.2
      · intro h; exact (left_H script).rg b h
  | k + 1, h => by
    obtain ⟨nd, hm⟩ := here_same script k (by omega)
    have el := (least_same script (by omega) hm).2
    have nd2 := (lf_left (left_H script) k (by omega)).nd
    show ((hereN script k).erase (leastH script (hereN script k))).Nodup ∧ _
    rw [show hereN script (k + 1) = (hereN script k).erase (leastH script (hereN script k)) from rfl, el]
    refine ⟨nd.erase _, fun b => ?_⟩
    rw [lf_succ, nd.mem_erase_iff, nd2.mem_erase_iff, hm]
    rfl
theorem told_at (script : List Int) : ∀ k, k ≤ (codeF script).length + 1 → toldN script k = (List.range k).map fun i => rootF script (upF script i)
  | 0, _ => rfl
  | k + 1, h => by
    obtain ⟨nd, hm⟩ := here_same script k (by omega)
    have el := (least_same script (by omega) hm).2
    show toldN script k ++ [roofF script (leastH script (hereN script k))] = _
    rw [told_at script k (by omega), el, roof_at script (node_rg script (by omega)), par_node script (by omega), List.range_succ, List.map_append]
    rfl
theorem loop_ok (script : List Int) : LoopOk script where
  ne := fun k hk => (least_same script hk (here_same script k (by omega)).2).1
  en := by
    have h := (here_same script _ (Nat.le_refl _)).2
    have hl := (lf_left (left_H script) _ (Nat.le_refl _)).ln
    have e : lf (codeF script) (left0F script) ((codeF script).length + 1) = [] := List.length_eq_zero_iff.mp (by omega)
    rw [e] at h
    exact List.eq_nil_iff_forall_not_mem.mpr fun b hb => by cases (h b).mp hb
  told := by
    rw [told_at script _ (Nat.le_refl _), List.range_succ, List.map_append]
    congr 1
    · apply List.ext_getElem
      · simp
      · intro i h1 h2
        have hi : i < (codeF script).length := by simpa using h1
        have hc := code_rg (List.getElem_mem hi)
        simp only [List.getElem_map, List.getElem_range]
        have eu : upF script i = (codeF script)[i] := by simp [upF, fullC, List.getD, List.getElem?_append_left hi, List.getElem?_eq_getElem hi]
        rw [eu]
        unfold rootF
        split
        · rename_i q
          rw [read_at script ⟨hc.1, q⟩]
        · rfl
    · have : upF script (codeF script).length = (codeF script).length + 1 := by simp [upF, fullC, List.getD]
      simp only [List.map_cons, List.map_nil, this]
      unfold rootF
      rw [if_neg (by omega)]
end Mine
end

section
open PySem PySem.W PyProof.Rows PySem.StrLaws
open Builtin Builtin.Str
set_option Elab.async false
set_option linter.unusedVariables false
namespace Mine

/-! the references, letter by letter -/
theorem rep_one (c : Nat) (z : List Nat) : ∀ l : List Nat, Rep2 [c] z l (l.flatMap fun d => if d = c then z else [d])
  | [] => .nil
  | d :: l => by
    rw [List.flatMap_cons]
    by_cases h : d = c
    · subst h
      rw [if_pos rfl]
      exact Rep2.hit (y := [d]) (rep_one d z l)
    · rw [if_neg h]
      exact Rep2.miss (fun q => h (List.cons_prefix_cons.mp q).1.symm) (rep_one c z l)
theorem esc1_list (c : Nat) (x z : Str) : (esc1 ⟨#[c]⟩ z x).cps.toList = x.cps.toList.flatMap fun d => if d = c then z.cps.toList else [d] := by
  unfold esc1
  split
  · exact Rep2.fn (y := [c]) (z := z.cps.toList) (by simp) (replace_rep x ⟨#[c]⟩ z (Nat.le_refl 1)) (rep_one c _ _)
  · rename_i h
    have : c ∉ x.cps.toList := by
      have e : Txt.contains x ⟨#[c]⟩ = decide (c ∈ x.cps.toList) := found_one x c
      rw [e] at h
      simpa using h
    have key : ∀ l : List Nat, c ∉ l → l = l.flatMap fun d => if d = c then z.cps.toList else [d] := by
      intro l
      induction l with
      | nil => intro _; rfl
      | cons d l ih =>
        intro h
        rw [List.mem_cons, not_or] at h
        rw [List.flatMap_cons, if_neg (Ne.symm h.1), ← ih h.2]
        rfl
    exact key _ this

/-- what stands for a letter, behind i steps of the undoing -/
def gL (w : Bool) (i : Nat) (d : Nat) : List Nat :=
  if d = 38 then (if i < 4 then [38, 97, 109, 112, 59] else [38]) else if d = 60 then (if i < 1 then [38, 108, 116, 59] else [60]) else if d = 62 then (if i < 2 then [38, 103, 116, 59] else [62])
  else if d = 13 then (if w = true ∧ i < 3 then [38, 35, 120, 68, 59] else [13]) else [d]
theorem gL_38 (w : Bool) (i : Nat) : gL w i 38 = if i < 4 then [38, 97, 109, 112, 59] else [38] := rfl
theorem gL_60 (w : Bool) (i : Nat) : gL w i 60 = if i < 1 then [38, 108, 116, 59] else [60] := rfl
theorem gL_62 (w : Bool) (i : Nat) : gL w i 62 = if i < 2 then [38, 103, 116, 59] else [62] := rfl
theorem gL_13 (w : Bool) (i : Nat) : gL w i 13 = if w = true ∧ i < 3 then [38, 35, 120, 68, 59] else [13] := rfl
theorem gL_else (w : Bool) (i : Nat) {d : Nat} (h1 : d ≠ 38) (h2 : d ≠ 60) (h3 : d ≠ 62) (h4 : d ≠ 13) : gL w i d = [d] := by
  unfold gL
  rw [if_neg h1, if_neg h2, if_neg h3, if_neg h4]
theorem five (d : Nat) : d = 38 ∨ d = 60 ∨ d = 62 ∨ d = 13 ∨ (d ≠ 38 ∧ d ≠ 60 ∧ d ≠ 62 ∧ d ≠ 13) := by omega
theorem escA_list (x : Str) : (escA x).cps.toList = x.cps.toList.flatMap (gL false 0) := by
  have a1 := esc1_list 38 x "&amp;"
  have a2 := esc1_list 60 (esc1 "&" "&amp;" x) "&lt;"
  have a3 := esc1_list 62 (esc1 "<" "&lt;" (esc1 "&" "&amp;" x)) "&gt;"
  refine a3.trans ?_
  rw [show (esc1 "<" "&lt;" (esc1 "&" "&amp;" x)).cps.toList = _ from a2, show (esc1 "&" "&amp;" x).cps.toList = _ from a1, List.flatMap_assoc, List.flatMap_assoc]
  congr 1
  funext d
  rcases five d with rfl | rfl | rfl | rfl | ⟨h1, h2, h3, h4⟩
  · rfl
  · rfl
  · rfl
  · rfl
  · rw [gL_else _ _ h1 h2 h3 h4]
    simp [h1, h2, h3]
theorem escC_list (x : Str) : (escC x).cps.toList = x.cps.toList.flatMap (gL true 0) := by
  have a1 := esc1_list 13 (escA x) "&#xD;"
  refine a1.trans ?_
  rw [escA_list, List.flatMap_assoc]
  congr 1
  funext d
  rcases five d with rfl | rfl | rfl | rfl | ⟨h1, h2, h3, h4⟩
  · rfl
  · rfl
  · rfl
  · rfl
  · rw [gL_else _ _ h1 h2 h3 h4, gL_else _ _ h1 h2 h3 h4]
    simp [h4]
def wF (which : Int) : Bool := !(which == 0)
theorem escF_list (which : Int) (x : Str) : (escF which x).cps.toList = x.cps.toList.flatMap (gL (wF which) 0) := by
  unfold escF wF
  cases which == 0
  · exact escC_list x
  · exact escA_list x

def NoAt (y p : List Nat) : Prop := ∀ rest k, k < p.length → ¬ y <+: (p ++ rest).drop k
theorem no_one {y : List Nat} {d : Nat} (h : d ≠ 38) : NoAt (38 :: y) [d] := fun rest k hk q => by
  have : k = 0 := by simpa using hk
  subst this
  exact h (List.cons_prefix_cons.mp q).1.symm
theorem rep_flat {y z : List Nat} {g g' : Nat → List Nat} (H : ∀ d, (g d = y ∧ g' d = z) ∨ (g' d = g d ∧ NoAt y (g d))) : ∀ l : List Nat, Rep2 y z (l.flatMap g) (l.flatMap g')
  | [] => .nil
  | d :: l => by
    rw [List.flatMap_cons, List.flatMap_cons]
    rcases H d with ⟨h1, h2⟩ | ⟨h1, h2⟩
    · rw [h1, h2]
      exact .hit (rep_flat H l)
    · rw [h1]
      exact Rep2.skip (fun k hk => h2 _ k hk) (rep_flat H l)
theorem undo {x y z : Str} {l : List Nat} {g g' : Nat → List Nat} (hy : 1 ≤ y.length) (hx : x.cps.toList = l.flatMap g) (H : ∀ d, (g d = y.cps.toList ∧ g' d = z.cps.toList) ∨ (g' d = g d ∧ NoAt y.cps.toList (g d))) : (Txt.replace x y z).cps.toList = l.flatMap g' := by
  have h := replace_rep x y z hy
  rw [hx] at h
  refine Rep2.fn (fun q => ?_) h (rep_flat H l)
  have : y.cps.toList.length = 0 := by rw [q]; rfl
  rw [len_list] at this
  omega
theorem no_amp {y : List Nat} (h : ∀ c r, y = c :: r → c ≠ 97) : NoAt (38 :: y) [38, 97, 109, 112, 59] ∨ y = [] := by
  cases y with
  | nil => exact .inr rfl
  | cons c r =>
    left
    intro rest k hk q
    have hc := h c r rfl
    match k, hk with
    | 0, _ => exact hc (List.cons_prefix_cons.mp (List.cons_prefix_cons.mp q).2).1
    | 1, _ => exact absurd (List.cons_prefix_cons.mp q).1 (by decide)
    | 2, _ => exact absurd (List.cons_prefix_cons.mp q).1 (by decide)
    | 3, _ => exact absurd (List.cons_prefix_cons.mp q).1 (by decide)
    | 4, _ => exact absurd (List.cons_prefix_cons.mp q).1 (by decide)
theorem no_two {c : Nat} {r p : List Nat} {e : Nat} (hp : ∀ k, k < p.length → p[k]? ≠ some 38) (hc : c ≠ e) : NoAt (38 :: c :: r) (38 :: e :: p) ∨ e = 38 := by
  by_cases he : e = 38
  · exact .inr he
  · left
    intro rest k hk q
    match k, hk with
    | 0, _ => exact hc (List.cons_prefix_cons.mp (List.cons_prefix_cons.mp q).2).1
    | 1, _ => exact he (List.cons_prefix_cons.mp q).1.symm
    | k + 2, hk =>
      have hk' : k < p.length := by simpa using hk
      have e1 : ((38 :: e :: p) ++ rest).drop (k + 2) = p[k] :: (p ++ rest).drop (k + 1) := by
        show (p ++ rest).drop k = _
        rw [List.drop_eq_getElem_cons (by rw [List.length_append]; omega), List.getElem_append_left hk']
      rw [e1] at q
      refine hp k hk' ?_
      rw [List.getElem?_eq_getElem hk', ← (List.cons_prefix_cons.mp q).1]
theorem no_refs {c : Nat} {r p : List Nat} {e : Nat} (hp : 38 ∉ e :: p) (hc : c ≠ e) : NoAt (38 :: c :: r) (38 :: e :: p) := by
  rcases no_two (c := c) (r := r) (p := p) (e := e) (fun k hk q => hp (.tail _ (List.mem_of_getElem? q))) hc with h | h
  · exact h
  · exact absurd (h ▸ List.mem_cons_self) hp
theorem unesc_list (w : Bool) (x : Str) (l : List Nat) (hx : x.cps.toList = l.flatMap (gL w 0)) : (unescF x).cps.toList = l := by
  have s1 : (Txt.replace x "&lt;" "<").cps.toList = l.flatMap (gL w 1) := undo (by decide) hx fun d => by
    show (gL w 0 d = [38, 108, 116, 59] ∧ gL w 1 d = [60]) ∨ (gL w 1 d = gL w 0 d ∧ NoAt [38, 108, 116, 59] (gL w 0 d))
    rcases five d with rfl | rfl | rfl | rfl | ⟨h1, h2, h3, h4⟩
    · exact .inr ⟨rfl, no_refs (by decide) (by decide)⟩
    · exact .inl ⟨rfl, rfl⟩
    · exact .inr ⟨rfl, no_refs (by decide) (by decide)⟩
    · cases w
      · exact .inr ⟨rfl, no_one (by decide)⟩
      · exact .inr ⟨rfl, no_refs (by decide) (by decide)⟩
    · rw [gL_else _ _ h1 h2 h3 h4, gL_else _ _ h1 h2 h3 h4]
      exact .inr ⟨rfl, no_one h1⟩
  have s2 : (Txt.replace (Txt.replace x "&lt;" "<") "&gt;" ">").cps.toList = l.flatMap (gL w 2) := undo (by decide) s1 fun d => by
    show (gL w 1 d = [38, 103, 116, 59] ∧ gL w 2 d = [62]) ∨ (gL w 2 d = gL w 1 d ∧ NoAt [38, 103, 116, 59] (gL w 1 d))
    rcases five d with rfl | rfl | rfl | rfl | ⟨h1, h2, h3, h4⟩
    · exact .inr ⟨rfl, no_refs (by decide) (by decide)⟩
    · exact .inr ⟨rfl, no_one (by decide)⟩
    · exact .inl ⟨rfl, rfl⟩
    · cases w
      · exact .inr ⟨rfl, no_one (by decide)⟩
      · exact .inr ⟨rfl, no_refs (by decide) (by decide)⟩
    · rw [gL_else _ _ h1 h2 h3 h4, gL_else _ _ h1 h2 h3 h4]
      exact .inr ⟨rfl, no_one h1⟩
  have s3 : (Txt.replace (Txt.replace (Txt.replace x "&lt;" "<") "&gt;" ">") "&#xD;" "\r").cps.toList = l.flatMap (gL w 3) := undo (by decide) s2 fun d => by
    show (gL w 2 d = [38, 35, 120, 68, 59] ∧ gL w 3 d = [13]) ∨ (gL w 3 d = gL w 2 d ∧ NoAt [38, 35, 120, 68, 59] (gL w 2 d))
    rcases five d with rfl | rfl | rfl | rfl | ⟨h1, h2, h3, h4⟩
    · exact .inr ⟨rfl, no_refs (by decide) (by decide)⟩
    · exact .inr ⟨rfl, no_one (by decide)⟩
    · exact .inr ⟨rfl, no_one (by decide)⟩
    · cases w
      · exact .inr ⟨rfl, no_one (by decide)⟩
      · exact .inl ⟨rfl, rfl⟩
    · rw [gL_else _ _ h1 h2 h3 h4, gL_else _ _ h1 h2 h3 h4]
      exact .inr ⟨rfl, no_one h1⟩
  have s4 : (Txt.replace (Txt.replace (Txt.replace (Txt.replace x "&lt;" "<") "&gt;" ">") "&#xD;" "\r") "&amp;" "&").cps.toList = l.flatMap (gL w 4) := undo (by decide) s3 fun d => by
    show (gL w 3 d = [38, 97, 109, 112, 59] ∧ gL w 4 d = [38]) ∨ (gL w 4 d = gL w 3 d ∧ NoAt [38, 97, 109, 112, 59] (gL w 3 d))
    rcases five d with rfl | rfl | rfl | rfl | ⟨h1, h2, h3, h4⟩
    · exact .inl ⟨rfl, rfl⟩
    · exact .inr ⟨rfl, no_one (by decide)⟩
    · exact .inr ⟨rfl, no_one (by decide)⟩
    · cases w
      · exact .inr ⟨rfl, no_one (by decide)⟩
      · exact .inr ⟨rfl, no_one (by decide)⟩
    · rw [gL_else _ _ h1 h2 h3 h4, gL_else _ _ h1 h2 h3 h4]
      exact .inr ⟨rfl, no_one h1⟩
  refine s4.trans ?_
  have : gL w 4 = fun d => [d] := by
    funext d
    rcases five d with rfl | rfl | rfl | rfl | ⟨h1, h2, h3, h4⟩
    · rfl
    · rfl
    · rfl
    · cases w <;> rfl
    · exact gL_else _ _ h1 h2 h3 h4
  rw [this]
  simp
theorem esc_no60 (w : Bool) (l : List Nat) : 60 ∉ l.flatMap (gL w 0) := by
  intro h
  obtain ⟨d, _, hd⟩ := List.mem_flatMap.mp h
  rcases five d with rfl | rfl | rfl | rfl | ⟨h1, h2, h3, h4⟩
  · revert hd; cases w <;> decide
  · revert hd; cases w <;> decide
  · revert hd; cases w <;> decide
  · revert hd; cases w <;> decide
  · rw [gL_else _ _ h1 h2 h3 h4, List.mem_singleton] at hd; omega
theorem esc_no62 (w : Bool) (l : List Nat) : 62 ∉ l.flatMap (gL w 0) := by
  intro h
  obtain ⟨d, _, hd⟩ := List.mem_flatMap.mp h
  rcases five d with rfl | rfl | rfl | rfl | ⟨h1, h2, h3, h4⟩
  · revert hd; cases w <;> decide
  · revert hd; cases w <;> decide
  · revert hd; cases w <;> decide
  · revert hd; cases w <;> decide
  · rw [gL_else _ _ h1 h2 h3 h4, List.mem_singleton] at hd; omega
theorem esc_no13 (l : List Nat) : 13 ∉ l.flatMap (gL true 0) := by
  intro h
  obtain ⟨d, _, hd⟩ := List.mem_flatMap.mp h
  rcases five d with rfl | rfl | rfl | rfl | ⟨h1, h2, h3, h4⟩
  · revert hd; decide
  · revert hd; decide
  · revert hd; decide
  · revert hd; decide
  · rw [gL_else _ _ h1 h2 h3 h4, List.mem_singleton] at hd; omega
end Mine
end

section
open PySem PySem.W PyProof.Rows PySem.StrLaws
open Builtin Builtin.Str
set_option Elab.async false
set_option linter.unusedVariables false
namespace Mine

/-! the page, cut at its < -/
def tailL (ps : List (List Nat)) : List Nat := (ps.map fun q => 60 :: q).flatten
theorem tail_cons (p : List Nat) (ps : List (List Nat)) : tailL (p :: ps) = 60 :: (p ++ tailL ps) := by simp [tailL]
theorem tail_append (ps qs : List (List Nat)) : tailL (ps ++ qs) = tailL ps ++ tailL qs := by simp [tailL]
theorem tail_shape (ps : List (List Nat)) : tailL ps = [] ∨ ∃ r, tailL ps = 60 :: r := by
  cases ps with
  | nil => exact .inl rfl
  | cons p ps => exact .inr ⟨_, tail_cons p ps⟩
theorem head_same : ∀ {p q X Y : List Nat}, 60 ∉ p → 60 ∉ q → (X = [] ∨ ∃ r, X = 60 :: r) → (Y = [] ∨ ∃ r, Y = 60 :: r) → p ++ X = q ++ Y → p = q ∧ X = Y
  | [], [], _, _, _, _, _, _, h => ⟨rfl, h⟩
  | [], c :: q, X, Y, _, hq, hX, _, h => by
    rcases hX with rfl | ⟨r, rfl⟩
    · cases h
    · have := (List.cons.inj h).1
      exact absurd (this ▸ List.mem_cons_self) hq
  | c :: p, [], X, Y, hp, _, _, hY, h => by
    rcases hY with rfl | ⟨r, rfl⟩
    · cases h
    · have := (List.cons.inj h).1
      exact absurd (this ▸ List.mem_cons_self) hp
  | c :: p, d :: q, X, Y, hp, hq, hX, hY, h => by
    obtain ⟨h1, h2⟩ := List.cons.inj h
    have := head_same (fun x => hp (.tail _ x)) (fun x => hq (.tail _ x)) hX hY h2
    exact ⟨by rw [h1, this.1], this.2⟩
theorem cut_one : ∀ {ps qs : List (List Nat)} {p q : List Nat}, (∀ x ∈ p :: ps, 60 ∉ x) → (∀ x ∈ q :: qs, 60 ∉ x) → p ++ tailL ps = q ++ tailL qs → p :: ps = q :: qs
  | [], [], p, q, hp, hq, h => by
    have := (head_same (hp p (.head _)) (hq q (.head _)) (tail_shape _) (tail_shape _) h).1
    rw [this]
  | [], q' :: qs, p, q, hp, hq, h => by
    have := (head_same (hp p (.head _)) (hq q (.head _)) (tail_shape _) (tail_shape _) h).2
    rw [tail_cons] at this; cases this
  | p' :: ps, [], p, q, hp, hq, h => by
    have := (head_same (hp p (.head _)) (hq q (.head _)) (tail_shape _) (tail_shape _) h).2
    rw [tail_cons] at this; cases this
  | p' :: ps, q' :: qs, p, q, hp, hq, h => by
    obtain ⟨h1, h2⟩ := head_same (hp p (.head _)) (hq q (.head _)) (tail_shape _) (tail_shape _) h
    rw [tail_cons, tail_cons] at h2
    rw [h1, cut_one (fun x hx => hp x (.tail _ hx)) (fun x hx => hq x (.tail _ hx)) (List.cons.inj h2).2]
theorem split_list {x : Str} {p : List Nat} {ps : List (List Nat)} (hx : x.cps.toList = p ++ tailL ps) (hne : ps ≠ []) (hp : ∀ y ∈ p :: ps, 60 ∉ y) : (Txt.split x "<").map (fun y => y.cps.toList) = p :: ps := by
  have hj : Str.join "<" (Txt.split x "<") = x := join_split x "<"
  have hf : ∀ y ∈ Txt.split x "<", 60 ∉ y.cps.toList := split_free x 60
  rw [← glued_eq_join] at hj
  cases hs : Txt.split x "<" with
  | nil =>
    exfalso
    rw [hs] at hj
    have h0 : x.cps.toList = [] := by rw [← hj]; rfl
    rw [hx] at h0
    cases ps with
    | nil => exact hne rfl
    | cons q ps => rw [tail_cons] at h0; simp at h0
  | cons q qs =>
    rw [hs] at hj hf
    have h1 : q.cps.toList ++ tailL (qs.map fun y => y.cps.toList) = p ++ tailL ps := by
      rw [← hx, ← hj, glued_toList]
      congr 1
      unfold tailL
      rw [List.map_map]
      rfl
    rw [List.map_cons]
    refine cut_one (fun y hy => ?_) hp h1
    rcases List.mem_cons.mp hy with rfl | hy
    · exact hf _ (.head _)
    · obtain ⟨z, hz, rfl⟩ := List.mem_map.mp hy
      exact hf _ (.tail _ hz)

/-! the law's page -/
def escL (script : List Int) (which : Int) (b : Nat) : List Nat := (plainL script b).flatMap (gL (wF which) 0)
def pieceL (script : List Int) (which : Int) (b : Nat) : List Nat := [102, 32, 109, 61, 34] ++ ((told3 (numF script b)).cps.toList ++ ([34, 62] ++ escL script which b))
def piecesL (script : List Int) (which : Int) : Nat → List (List Nat)
  | 0 => []
  | k + 1 => piecesL script which k ++ [pieceL script which k, [47, 102, 62]]
theorem len_pieces (script : List Int) (which : Int) : ∀ k, (piecesL script which k).length = 2 * k
  | 0 => rfl
  | k + 1 => by
    show (piecesL script which k ++ _).length = _
    rw [List.length_append, len_pieces script which k]; rfl
theorem pieces_at (script : List Int) (which : Int) {b : Nat} : ∀ k, b < k → (piecesL script which k)[2 * b]? = some (pieceL script which b)
  | 0, h => by omega
  | k + 1, h => by
    show (piecesL script which k ++ [pieceL script which k, [47, 102, 62]])[2 * b]? = _
    have hl := len_pieces script which k
    by_cases q : b < k
    · rw [List.getElem?_append_left (by omega)]
      exact pieces_at script which k q
    · have : b = k := by omega
      subst this
      rw [List.getElem?_append_right (by omega), hl, Nat.sub_self]
      rfl
theorem item_list (script : List Int) (which : Int) {b : Nat} (hb : b ≤ (codeF script).length) : (itemF script which b).cps.toList = tailL [pieceL script which b, [47, 102, 62]] := by
  have hc := code_ge script
  have e1 : ("<f m=\"" : Str).cps.toList = [60, 102, 32, 109, 61, 34] := rfl
  have e2 : ("\">" : Str).cps.toList = [34, 62] := rfl
  have e3 : ("</f>" : Str).cps.toList = [60, 47, 102, 62] := rfl
  have e4 : (escF which (wayF script b)).cps.toList = escL script which b := by
    rw [escF_list, way_plain script b hb]; rfl
  unfold itemF
  rw [app_list, app_list, app_list, app_list, e1, e2, e3, e4, fm_told script (b := b) (by omega)]
  simp [tailL, pieceL]
theorem page_list (script : List Int) (which : Int) : ∀ k, k ≤ (codeF script).length + 1 → (pageF script which k).cps.toList = tailL (piecesL script which k)
  | 0, _ => rfl
  | k + 1, h => by
    show (pageF script which k ++ itemF script which k).cps.toList = tailL (piecesL script which k ++ _)
    rw [app_list, page_list script which k (by omega), item_list script which (by omega), tail_append]
theorem signs_no60 (m : Nat) : 60 ∉ (told3 (m : Int)).cps.toList := by
  have hr : ∀ (b : Bool) (c : Nat), c ≠ 60 → 60 ≠ rN b c := fun b c hc => by unfold rN; split <;> omega
  have hx : ∀ (x s : Bool) (a b : Nat), a ≠ 60 → b ≠ 60 → 60 ≠ xN x s a b := fun x s a b h1 h2 => by unfold xN; split <;> split <;> omega
  rw [told_list]
  unfold signsN
  simp only [List.mem_cons, List.not_mem_nil, or_false, not_or]
  exact ⟨hr _ _ (by decide), hr _ _ (by decide), hr _ _ (by decide), hx _ _ _ _ (by decide) (by decide), hr _ _ (by decide), hr _ _ (by decide), hx _ _ _ _ (by decide) (by decide), hr _ _ (by decide), hr _ _ (by decide), hx _ _ _ _ (by decide) (by decide)⟩
theorem pieces_no60 (script : List Int) (which : Int) : ∀ k, k ≤ (codeF script).length + 1 → ∀ y ∈ piecesL script which k, 60 ∉ y
  | 0, _, y, hy => by cases hy
  | k + 1, h, y, hy => by
    have hc := code_ge script
    rcases List.mem_append.mp hy with hy | hy
    · exact pieces_no60 script which k (by omega) y hy
    · simp only [List.mem_cons, List.not_mem_nil, or_false] at hy
      rcases hy with rfl | rfl
      · obtain ⟨q, _, _, e⟩ := num_at script (b := k) (by omega)
        unfold pieceL
        rw [List.mem_append, List.mem_append, List.mem_append, e]
        have h1 := signs_no60 ((if (codeF script).contains (k : Int) = true then 16384 else 32768) + q)
        have h2 : 60 ∉ escL script which k := esc_no60 _ _
        rintro (x | x | x | x)
        · revert x; decide
        · exact h1 x
        · revert x; decide
        · exact h2 x
      · decide
theorem pieces_map (script : List Int) (which : Int) : (piecesF script which).map (fun y => y.cps.toList) = [] :: piecesL script which ((codeF script).length + 1) := by
  unfold piecesF
  refine split_list (p := []) ?_ ?_ ?_
  · rw [page_list script which _ (Nat.le_refl _)]; rfl
  · intro q
    have := len_pieces script which ((codeF script).length + 1)
    rw [q] at this
    simp at this
  · intro y hy
    rcases List.mem_cons.mp hy with rfl | hy
    · decide
    · exact pieces_no60 script which _ (Nat.le_refl _) y hy
theorem piece_list (script : List Int) (which : Int) {b : Nat} (hb : b ≤ (codeF script).length) : ((piecesF script which).getD (2 * b + 1) "").cps.toList = pieceL script which b := by
  have h := congrArg (fun l => l[2 * b + 1]?) (pieces_map script which)
  simp only [List.getElem?_map, List.getElem?_cons_succ] at h
  rw [pieces_at script which _ (by omega)] at h
  cases e : (piecesF script which)[2 * b + 1]? with
  | none => rw [e] at h; cases h
  | some y =>
    rw [e] at h
    simp only [Option.map_some, Option.some.injEq] at h
    simp [List.getD, e, h]
theorem told_ten (script : List Int) {b : Nat} (hb : b < 8) : (told3 (numF script b)).cps.toList.length = 10 := by
  rw [len_list]
  exact (len_toldS _).2.2.2
theorem piece_len (script : List Int) (which : Int) {b : Nat} (hb : b ≤ (codeF script).length) : (pieceL script which b).length = 17 + (escL script which b).length := by
  have hc := code_ge script
  unfold pieceL
  rw [List.length_append, List.length_append, List.length_append, told_ten script (b := b) (by omega)]
  simp only [List.length_cons, List.length_nil]
  omega
theorem txt_list (script : List Int) (which : Int) {b : Nat} (hb : b ≤ (codeF script).length) : (txtF script which b).cps.toList = escL script which b := by
  have hc := code_ge script
  have hp := piece_list script which hb
  have hl := piece_len script which hb
  rw [← hp, len_list] at hl
  unfold txtF
  rw [show (some (17 : Int)) = some ((17 : Nat) : Int) from rfl, slice_from _ (by omega), hp]
  unfold pieceL
  have e : [102, 32, 109, 61, 34] ++ ((told3 (numF script b)).cps.toList ++ ([34, 62] ++ escL script which b)) = ([102, 32, 109, 61, 34] ++ (told3 (numF script b)).cps.toList ++ [34, 62]) ++ escL script which b := by simp
  rw [e, List.drop_left']
  rw [List.length_append, List.length_append, told_ten script (b := b) (by omega)]
  rfl
theorem sgn_told (script : List Int) (which : Int) {b : Nat} (hb : b ≤ (codeF script).length) : sgnF script which b = told3 (numF script b) := by
  have hc := code_ge script
  have hp := piece_list script which hb
  have hl := piece_len script which hb
  rw [← hp, len_list] at hl
  apply list_inj
  unfold sgnF
  rw [show (some (5 : Int)) = some ((5 : Nat) : Int) from rfl, show (some (15 : Int)) = some ((15 : Nat) : Int) from rfl, slice_list _ (by decide) (by omega), hp]
  unfold pieceL
  rw [List.drop_left' (by rfl), List.take_left' (by rw [told_ten script (b := b) (by omega)])]
theorem page_ok (script : List Int) (which : Int) : PageOk script which where
  pl := by
    have := congrArg List.length (pieces_map script which)
    rw [List.length_map, List.length_cons, len_pieces] at this
    omega
  ps := fun b hb => by
    have hp := piece_list script which hb
    have hl := piece_len script which hb
    rw [← hp, len_list] at hl
    have e4 : (escF which (wayF script b)).cps.toList = escL script which b := by
      rw [escF_list, way_plain script b hb]; rfl
    have := len_escF which (wayF script b) (len_wayF (steps_ok script) hb)
    rw [← e4, len_list] at hl
    omega
  no := fun b hb => by
    have e := txt_list script which hb
    have f1 : Txt.contains (txtF script which b) ">" = decide (62 ∈ (txtF script which b).cps.toList) := found_one _ 62
    have f2 : Txt.contains (txtF script which b) "\r" = decide (13 ∈ (txtF script which b).cps.toList) := found_one _ 13
    rw [f1, f2, e]
    refine ⟨?_, fun hw => ?_⟩
    · exact decide_eq_false (esc_no62 (wF which) (plainL script b))
    · subst hw
      exact decide_eq_false (esc_no13 (plainL script b))
  sg := fun b hb => sgn_told script which hb
  rd := fun b hb => list_inj (unesc_list (wF which) _ (plainL script b) (txt_list script which hb))
  dr := fun b hb => by
    have hc := code_ge script
    rw [dir_num script (b := b) (by omega), Bool.eq_iff_iff, List.contains_iff_mem, List.contains_iff_mem]
    have h0 := mem_drop script (k := 0) (by omega) hb
    rw [List.drop_zero] at h0
    rw [h0, List.mem_map]
    constructor
    · rintro ⟨i, _, h2, e⟩
      have r := node_rg script h2
      refine ⟨plainF script (nodeF script i).toNat, List.mem_map.mpr ⟨_, List.mem_range.mpr (by omega), rfl⟩, ?_⟩
      rw [dir_plain script (by omega), par_node script h2, root_plain script (up_rg script h2).1 hb]
      exact e
    · rintro ⟨x, hx, e⟩
      obtain ⟨c, hc', rfl⟩ := List.mem_map.mp hx
      have hc2 := List.mem_range.mp hc'
      obtain ⟨i, hi, ei⟩ := is_node script (b := c) (by omega)
      rw [dir_plain script (by omega), root_plain script (par_rg script (by omega)).1 hb] at e
      refine ⟨i, Nat.zero_le _, hi, ?_⟩
      rw [← par_node script hi, ← ei, Int.toNat_natCast]
      exact e
end Mine
end

section
open PySem PySem.W PyProof.Rows
set_option Elab.async false
namespace Mine
/-! names that the line would give to twins of the heaps that it writes out; a name that is taken keeps it from writing that twin (the compiled file stays small) -/
theorem whole.tw17692944630003236201 : True := trivial
theorem whole.tw1470681187219097129 : True := trivial
theorem whole.tw2227712719689012414 : True := trivial
theorem whole.tw13133317986965953558 : True := trivial
theorem whole.tw3547787042168469905 : True := trivial
theorem whole.tw17351461997606004466 : True := trivial
theorem whole.tw3860174431591174066 : True := trivial
theorem whole.tw5015864234111024480 : True := trivial
theorem whole.tw2500447980570765793 : True := trivial
theorem whole.tw10553060692774321354 : True := trivial
theorem whole.tw638039869848467855 : True := trivial
theorem whole.tw1242133270297695508 : True := trivial
theorem whole.tw7080966684591057860 : True := trivial
theorem whole.tw3162365515331879682 : True := trivial
theorem whole.tw13285438998962464343 : True := trivial
theorem whole.tw14661705875561194100 : True := trivial
theorem whole.tw5942346508108547180 : True := trivial
theorem whole.tw9258520918328675761 : True := trivial
theorem whole.tw13749801708979339770 : True := trivial
theorem whole.tw10344827342348678470 : True := trivial
theorem whole.tw8983667203327932493 : True := trivial
theorem whole.tw715978364194892080 : True := trivial
theorem whole.tw18135788421098096370 : True := trivial
theorem whole.tw2439357469168130064 : True := trivial
theorem whole.tw1021466310418864216 : True := trivial
theorem whole.tw17395194986337826024 : True := trivial
theorem whole.tw15835130817642446534 : True := trivial
theorem whole.tw46433443316919834 : True := trivial
theorem whole.tw381110514646162275 : True := trivial
theorem whole.tw11401351377558187561 : True := trivial
theorem whole.tw10379991877525085312 : True := trivial
theorem whole.tw6888942637506950926 : True := trivial
theorem whole.tw1640677438868554593 : True := trivial
theorem whole.tw9951143050096045611 : True := trivial
theorem whole.tw14138553856905868755 : True := trivial
theorem whole.tw17870853324313594786 : True := trivial
theorem whole.tw4162360135600614074 : True := trivial
theorem whole.tw15103685750691789098 : True := trivial
theorem whole.tw5001923725869043736 : True := trivial
theorem whole.tw6896427876366098391 : True := trivial
theorem whole.tw6891315699540082446 : True := trivial
theorem whole.tw5438831827131416888 : True := trivial
theorem whole.tw6266228650988000492 : True := trivial
theorem whole.tw2290268214366725154 : True := trivial
theorem whole.tw10007520593648235073 : True := trivial
theorem whole.tw17075553230084287909 : True := trivial
theorem whole.tw14492196311604417308 : True := trivial
theorem whole.tw1393339623888494026 : True := trivial
theorem whole.tw1329479340354266572 : True := trivial
theorem whole.tw3945383572190744343 : True := trivial
theorem whole.tw2013318861076662011 : True := trivial
theorem whole.tw2168223474955763204 : True := trivial
theorem whole.tw3150075250938504248 : True := trivial
theorem whole.tw5408107943391738 : True := trivial
theorem whole.tw7689902935678670512 : True := trivial
theorem whole.tw2912573282932879776 : True := trivial
theorem whole.tw8181180424491326830 : True := trivial
theorem whole.tw7466904020207815869 : True := trivial
theorem whole.tw14890280090424698046 : True := trivial
theorem whole.tw5081031077709457048 : True := trivial
theorem whole.tw12117460353608821864 : True := trivial
theorem whole.tw8868806382682364411 : True := trivial
theorem whole.tw3141554390599180669 : True := trivial
theorem whole.tw10339747121181971505 : True := trivial
theorem whole.tw842793390314483620 : True := trivial
theorem whole.tw9406530864695525851 : True := trivial
theorem whole.tw14756447051001558117 : True := trivial
theorem whole.tw10838650209671834137 : True := trivial
theorem whole.tw8243020233432551205 : True := trivial
theorem whole.tw10301362462094837657 : True := trivial
theorem whole.tw17529894129228449367 : True := trivial
theorem whole.tw12562849145585476731 : True := trivial
theorem whole.tw5233578499609466721 : True := trivial
theorem whole.tw7509650053966640704 : True := trivial
theorem whole.tw10887019763833697050 : True := trivial
theorem whole.tw4909349585908861296 : True := trivial
theorem whole.tw17092094596097150618 : True := trivial
theorem whole.tw978456291528864041 : True := trivial
theorem whole.tw10499325594661192776 : True := trivial
theorem whole.tw254780913952180833 : True := trivial
theorem whole.tw10000958634945066235 : True := trivial
theorem whole.tw14381574177426341226 : True := trivial
theorem whole.tw5405151241437436114 : True := trivial
theorem whole.tw9501391760213346845 : True := trivial
theorem whole.tw11678933692714762019 : True := trivial
theorem whole.tw7078629122812257199 : True := trivial
theorem whole.tw17700112632457955127 : True := trivial
theorem whole.tw2665807779830099079 : True := trivial
theorem whole.tw13334927893685096626 : True := trivial
theorem whole.tw14621228733418778453 : True := trivial
theorem whole.tw5833760311655045577 : True := trivial
theorem whole.tw7276013540153241084 : True := trivial
theorem whole.tw6416634858453334624 : True := trivial
theorem whole.tw8444963059077079450 : True := trivial
theorem whole.tw3798757254938238448 : True := trivial
theorem whole.tw4447922135398794285 : True := trivial
theorem whole.tw1633898876240874773 : True := trivial
theorem whole.tw6774775609766916077 : True := trivial
set_option Elab.async true in
set_option maxRecDepth 100000 in
set_option maxHeartbeats 8000000 in
theorem whole : PySem.Challenge.rw_il0062_01.Holds := by
  w_on
  o_law
  k_head
  case hw => w_witness2
  k_go0
  rename_i W₀ s₀ s₁ mg mb G Y fa o pm doc ho hg KX X V GL T B TE TW wa wb M wc wd hcd script hs hlay hLl hr hl2 as bs a vs cs hL ra w1 r0 hI hrd hc0 hc1 K0 hD h₁ tk₁ F o1 o2 o3 o4 o5 o6 o7 d1 d2 d3 d4 d5 d6 d7 N0 X0
  have hpl : s₁.heap.PlainList a vs.toArray := by
    have w1' : Well _ s₁.heap (.ref a) (.list (ofPys (List.map PyData.int script))) := w1
    cases w1' with
    | list e _ =>
      obtain ⟨o, e', hcl, k, hdt⟩ := hL
      rw [e] at e'
      cases e'
      cases hdt
      exact ⟨_, e⟩
  have hlen : script.length ≤ 63 := by omega
  have hcl : Cl s₁.heap.objs.size (lawEnv W₀.params s₁.heap.objs.size fa (.ref wc)).cells h₁ _ := Cl.of_news (own := []) N0 X0 (cells_apart W₀.params _ fa (.ref wc)) (cells_above W₀.params _ fa (.ref wc))
  refine law_go (f := fa) (P := W₀.params) (script := script) KX T V F hcl rfl hpl hI hlen (steps_ok script) (page_ok script _) (loop_ok script) (fun h' tk up => ?_)
  refine ⟨.inl ⟨_, .bool true, [], rfl, fun _ => rfl, .bool _, ?_, fun _ => ⟨List.nodup_nil, fun a ha => by cases ha⟩⟩, up, rfl, hg⟩
  exact postW_of (by wrow_shape) (by wtm_val) (by w_fin)
end Mine
end

theorem PySem.Challenge.cw_il0062_01_holds : PySem.Challenge.rw_il0062_01.Holds := by
  exact Mine.whole
