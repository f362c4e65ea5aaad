import PyProof.Rows.All
import Wide.All
import OpenK.AllK
import Wide.FinOn
import KE.IntText
import KE.KLcPair
import KE.KSortTup
import PySem.Challenge.RW_wu0010_01

set_option Elab.async false
set_option linter.all false

namespace Mine
open PySem PySem.W PyProof.Rows
set_option maxRecDepth 100000 in
set_option maxHeartbeats 8000000 in
open_top hd for PySem.Challenge.rw_wu0010_01
end Mine

/-! MLogic -/
namespace Mine
set_option maxRecDepth 100000
open PySem PySem.W PyProof.Rows PySem.Calls

/-- plain data -/
inductive D where
  | none | bool (b : Bool) | int (i : Int) | flt (b : UInt64) | str (s : Str) | byt (b : Array UInt8)
  | lst (ds : List D) | tup (ds : List D)

structure Wd where
  prog : Program
  w : World
  K : Frag
  mg : Str → Option Value
  mb : Str → Option Value

structure Wd.ok (W : Wd) (h : Heap) : Prop where
  K : W.K.In h
  g : h.Ns mainGlobals W.mg
  b : h.Ns builtinsNs W.mb
  nolimit : h.NoLimit
  bi : ∀ x : Str, x ≠ "__name__" → W.mb x = bootBuiltins x

def Ext (h h' : Heap) : Prop := ∀ b o, h.get? b = some o → h'.get? b = some o
theorem Ext.refl (h : Heap) : Ext h h := fun _ _ e => e
theorem Ext.trans {h h' h'' : Heap} (x : Ext h h') (y : Ext h' h'') : Ext h h'' := fun b o e => y b o (x b o e)
theorem Ext.push (h : Heap) (o : Obj) : Ext h (h.push o) := fun _ _ e => Heap.get?_push_of_some _ e
theorem Ext.extBut {h h' : Heap} (x : Heap.ExtBut h.objs.size h h') : Ext h h' := fun b o e => x b o (Nat.ne_of_lt (Heap.lt_size e)) e

theorem Wd.ok.ext {W : Wd} {h h' : Heap} (x : W.ok h) (e : Ext h h') : W.ok h' :=
  ⟨x.K.keeps e, x.g.keeps e, x.b.keeps e, x.nolimit.keeps e, x.bi⟩

mutual
inductive Rp (O : List Addr) (h : Heap) : Value → D → Prop
  | none : Rp O h .none .none
  | bool (b : Bool) : Rp O h (.bool b) (.bool b)
  | int (i : Int) (t : Tok) : Rp O h (.int i t) (.int i)
  | flt (b : UInt64) (t : Tok) : Rp O h (.float b t) (.flt b)
  | str (s : Str) (t : Tok) : Rp O h (.str s t) (.str s)
  | byt (b : Array UInt8) (t : Tok) : Rp O h (.bytes b t) (.byt b)
  | lst {a : Addr} {vs : List Value} {ds : List D} : a ∉ O → h.PlainList a vs.toArray → RpA O h vs ds → Rp O h (.ref a) (.lst ds)
  | tup {a : Addr} {vs : List Value} {ds : List D} : a ∉ O → h.IsTuple a vs.toArray → RpA O h vs ds → Rp O h (.ref a) (.tup ds)
inductive RpA (O : List Addr) (h : Heap) : List Value → List D → Prop
  | nil : RpA O h [] []
  | cons {v : Value} {vs : List Value} {d : D} {ds : List D} : Rp O h v d → RpA O h vs ds → RpA O h (v :: vs) (d :: ds)
end

/-- the address a of an object that h holds and that is not of O stands in h' as it was -/
def Off (O : List Addr) (h h' : Heap) : Prop := ∀ b o, b ∉ O → h.get? b = some o → h'.get? b = some o
theorem Off.ofExt {O : List Addr} {h h' : Heap} (x : Ext h h') : Off O h h' := fun b o _ e => x b o e

mutual
theorem Rp.off {O O' : List Addr} {h h' : Heap} (x : Off O h h') (hO : ∀ a o, a ∈ O' → h.get? a = some o → a ∈ O) : ∀ {v : Value} {d : D}, Rp O h v d → Rp O' h' v d
  | _, _, .none => .none
  | _, _, .bool b => .bool b
  | _, _, .int i t => .int i t
  | _, _, .flt i t => .flt i t
  | _, _, .str i t => .str i t
  | _, _, .byt i t => .byt i t
  | _, _, .lst n l r => .lst (fun hm => by obtain ⟨o, ho⟩ := id l; exact n (hO _ _ hm ho)) (l.at fun o e => x _ o n e) (RpA.off x hO r)
  | _, _, .tup n l r => .tup (fun hm => by obtain ⟨o, ho, _⟩ := id l; exact n (hO _ _ hm ho)) (by obtain ⟨o, ho, q⟩ := l; exact ⟨o, x _ o n ho, q⟩) (RpA.off x hO r)
theorem RpA.off {O O' : List Addr} {h h' : Heap} (x : Off O h h') (hO : ∀ a o, a ∈ O' → h.get? a = some o → a ∈ O) : ∀ {vs : List Value} {ds : List D}, RpA O h vs ds → RpA O' h' vs ds
  | _, _, .nil => .nil
  | _, _, .cons a r => .cons (Rp.off x hO a) (RpA.off x hO r)
end
section
variable {O O' : List Addr} {h h' : Heap} {v : Value} {d : D} {vs ws : List Value} {ds es : List D}
theorem Rp.ext (r : Rp O h v d) (x : Ext h h') : Rp O h' v d := r.off (.ofExt x) fun _ _ m _ => m
theorem RpA.ext (r : RpA O h vs ds) (x : Ext h h') : RpA O h' vs ds := r.off (.ofExt x) fun _ _ m _ => m
theorem Rp.weak (r : Rp O h v d) (x : ∀ b ∈ O', b ∈ O) : Rp O' h v d := r.off (.ofExt (Ext.refl _)) fun _ _ m _ => x _ m
theorem RpA.weak (r : RpA O h vs ds) (x : ∀ b ∈ O', b ∈ O) : RpA O' h vs ds := r.off (.ofExt (Ext.refl _)) fun _ _ m _ => x _ m
theorem RpA.append (x : RpA O h vs ds) (y : RpA O h ws es) : RpA O h (vs ++ ws) (ds ++ es) := by
  induction vs generalizing ds with
  | nil => cases x; exact y
  | cons v vs ih => cases x with | cons a r => exact .cons a (ih r)
theorem RpA.length (x : RpA O h vs ds) : vs.length = ds.length := by
  induction vs generalizing ds with
  | nil => cases x; rfl
  | cons v vs ih => cases x with | cons a r => simp [ih r]
theorem RpA.get (x : RpA O h vs ds) {i : Nat} (hi : ds[i]? = some d) : ∃ v, vs[i]? = some v ∧ Rp O h v d := by
  induction vs generalizing ds i with
  | nil => cases x; simp at hi
  | cons v vs ih =>
    cases x with
    | cons a r =>
      cases i with
      | zero => simp at hi; subst hi; exact ⟨v, by simp, a⟩
      | succ i => simpa using ih r (by simpa using hi)
theorem RpA.getv (x : RpA O h vs ds) {i : Nat} (hi : vs[i]? = some v) : ∃ d, ds[i]? = some d ∧ Rp O h v d := by
  induction vs generalizing ds i with
  | nil => simp at hi
  | cons v vs ih =>
    cases x with
    | cons a r =>
      cases i with
      | zero => simp at hi; subst hi; exact ⟨_, by simp, a⟩
      | succ i => simpa using ih r (by simpa using hi)
theorem RpA.split (x : RpA O h vs (ds ++ es)) : ∃ us ws, vs = us ++ ws ∧ RpA O h us ds ∧ RpA O h ws es := by
  induction ds generalizing vs with
  | nil => exact ⟨[], vs, rfl, .nil, x⟩
  | cons d ds ih =>
    cases x with
    | cons a r =>
      obtain ⟨us, ws, rfl, p, q⟩ := ih r
      exact ⟨_ :: us, ws, rfl, .cons a p, q⟩
end

/-- what a value's tree computes -/
def Cmp (W : Wd) (A : Around) (s : Shared) (O : List Addr) (t : Sem Value) (d : D) : Prop :=
  ∀ (Q E : Value → Shared → Prop), (∀ v h' tk, Ext s.heap h' → Rp O h' v d → Q v { s with heap := h', toks := tk }) → wpAny (model W.prog W.w) A t Q E s

def InDom (O : List Addr) (h : Heap) : Prop := ∀ b ∈ O, ∃ o, h.get? b = some o
theorem InDom.ext {O : List Addr} {h h' : Heap} (x : InDom O h) (e : Ext h h') : InDom O h' := fun b hb => let ⟨o, ho⟩ := x b hb; ⟨o, e b o ho⟩
theorem InDom.fresh {O : List Addr} {h : Heap} (x : InDom O h) : h.objs.size ∉ O := fun hm => let ⟨_, ho⟩ := x _ hm; absurd (Heap.lt_size ho) (Nat.lt_irrefl _)
theorem InDom.freshOf {O : List Addr} {h : Heap} (x : InDom O h) {a : Addr} (ha : h.get? a = none) : a ∉ O := fun hm => let ⟨_, ho⟩ := x _ hm; by rw [ha] at ho; cases ho

structure Room (n : Nat) (A : Around) : Prop where
  handled : A.handled = none
  depth : A.depth + n < recursionLimit
  units : A.units + 20 * n + 20 < cLine
theorem Room.deeper {n : Nat} {A : Around} {env : Env} (r : Room (n + 1) A) : Room n (A.deeper env) :=
  ⟨r.handled, by have := r.depth; show A.depth + 1 + n < _; omega, by have := r.units; show A.units + 3 + 20 * n + 20 < _; omega⟩
theorem Room.mono {n k : Nat} {A : Around} (r : Room n A) (hk : k ≤ n) : Room k A :=
  ⟨r.handled, by have := r.depth; omega, by have := r.units; omega⟩

/-- one activation of a def, or the block of a comprehension -/
structure Act where
  A : Around
  env : Env
  h₀ : Heap
  O₀ : List Addr

inductive Sl where
  | val (d : D)
  | mu (a : Addr) (ds : List D)
abbrev Rho := List (Str × Sl)
/-- the ledger: an object that stays, and whether its address is of O -/
abbrev Led := List (Addr × Obj)

def SlotOk (c : Act) (I : Led) (O : List Addr) (h : Heap) (v : Value) : Sl → Prop
  | .val d => Rp O h v d
  | .mu a ds => v = .ref a ∧ a ∈ O ∧ a ≠ c.env.locals ∧ c.h₀.get? a = none ∧ (∀ p ∈ I, p.1 ≠ a) ∧ (∀ p ∈ c.env.cells, p.2 ≠ a) ∧ ∃ vs n, h.get? a = some (W.listOf vs.toArray n) ∧ RpA O h vs ds
/-- the name x bears v -/
def Bears (c : Act) (m : Str → Option Value) (h : Heap) (x : Str) (v : Value) : Prop :=
  match c.env.cells.lookup x with
  | some ca => h.IsCell ca (some v)
  | none => m x = some v

structure Sit (W : Wd) (c : Act) (ρ : Rho) (I : Led) (O : List Addr) (h : Heap) : Prop where
  ok : W.ok c.h₀
  fr : ∃ m, h.Ns c.env.locals m ∧ ∀ x sl, ρ.lookup x = some sl → ∃ v, Bears c m h x v ∧ SlotOk c I O h v sl
  keep : Ext c.h₀ h
  fresh : c.h₀.get? c.env.locals = none
  glob : c.env.globals = mainGlobals
  bins : c.env.builtins = builtinsNs
  kind : c.env.scope.kind = .function
  cells : ∀ p ∈ c.env.cells, p.2 ∈ O ∧ p.2 ≠ c.env.locals ∧ ∀ q ∈ I, q.1 ≠ p.2
  cellIs : ∀ p ∈ c.env.cells, ∃ v, h.IsCell p.2 v
  hL : c.env.locals ∈ O
  h0 : ∀ b ∈ c.O₀, b ∈ O
  d0 : InDom c.O₀ c.h₀
  dom : InDom O h
  its : ∀ p ∈ I, p.1 ≠ c.env.locals ∧ h.get? p.1 = some p.2

section
variable {W : Wd} {c : Act} {ρ ρ' : Rho} {I I' : Led} {O : List Addr} {h h' : Heap}
theorem SlotOk.ext {v : Value} {sl : Sl} (x : SlotOk c I O h v sl) (e : Ext h h') : SlotOk c I O h' v sl := by
  cases sl with
  | val d => exact Rp.ext x e
  | mu a ds =>
    obtain ⟨h1, h2, h3, h4, h5, h5', vs, n, h6, h7⟩ := x
    exact ⟨h1, h2, h3, h4, h5, h5', vs, n, e _ _ h6, h7.ext e⟩
theorem cellExt0 {c : Act} {h h' : Heap} (S : ∀ p ∈ c.env.cells, ∃ v, h.IsCell p.2 v) (e : ∀ p ∈ c.env.cells, ∀ o, h.get? p.2 = some o → h'.get? p.2 = some o) : ∀ p ∈ c.env.cells, ∃ v, h'.IsCell p.2 v := fun p hp => let ⟨v, o, ho, q⟩ := S p hp; ⟨v, o, e p hp o ho, q⟩
theorem cellExt {ca : Addr} {v : Option Value} (x : h.IsCell ca v) (e : ∀ o, h.get? ca = some o → h'.get? ca = some o) : h'.IsCell ca v := let ⟨o, ho, r⟩ := x; ⟨o, e _ ho, r⟩
theorem Bears.off {m : Str → Option Value} {x : Str} {v : Value} (b : Bears c m h x v) (e : ∀ p ∈ c.env.cells, ∀ o, h.get? p.2 = some o → h'.get? p.2 = some o) : Bears c m h' x v := by
  unfold Bears at b ⊢
  split at b
  · rename_i ca hca; exact cellExt b (e (x, ca) (mem_of_lookup hca))
  · exact b
theorem Bears.ext {m : Str → Option Value} {x : Str} {v : Value} (b : Bears c m h x v) (e : Ext h h') : Bears c m h' x v := b.off fun _ _ o => e _ o
theorem Sit.ext (S : Sit W c ρ I O h) (e : Ext h h') : Sit W c ρ I O h' := by
  obtain ⟨m, F, hm⟩ := S.fr
  refine { S with cellIs := cellExt0 S.cellIs fun _ _ o => e _ o, fr := ⟨m, F.keeps e, fun x sl hx => ?_⟩, keep := S.keep.trans e, dom := S.dom.ext e, its := fun p hp => ⟨(S.its p hp).1, e _ _ (S.its p hp).2⟩ }
  obtain ⟨v, hv, r⟩ := hm x sl hx
  exact ⟨v, hv.ext e, r.ext e⟩
theorem Sit.here (S : Sit W c ρ I O h) : W.ok h := S.ok.ext S.keep
theorem Sit.sub (S : Sit W c ρ I O h) (hs : ∀ x sl, ρ'.lookup x = some sl → ρ.lookup x = some sl) : Sit W c ρ' I O h := by
  obtain ⟨m, F, hm⟩ := S.fr
  exact { S with fr := ⟨m, F, fun x sl hx => hm x sl (hs x sl hx)⟩ }
theorem Sit.led (S : Sit W c ρ I O h) (hs : ∀ p ∈ I', p ∈ I) : Sit W c ρ I' O h := by
  obtain ⟨m, F, hm⟩ := S.fr
  refine { S with fr := ⟨m, F, fun x sl hx => ?_⟩, cells := fun p hp => ⟨(S.cells p hp).1, (S.cells p hp).2.1, fun q hq => (S.cells p hp).2.2 q (hs q hq)⟩, its := fun p hp => S.its p (hs p hp) }
  obtain ⟨v, hv, r⟩ := hm x sl hx
  refine ⟨v, hv, ?_⟩
  cases sl with
  | val d => exact r
  | mu a ds => exact ⟨r.1, r.2.1, r.2.2.1, r.2.2.2.1, fun p hp => r.2.2.2.2.1 p (hs p hp), r.2.2.2.2.2⟩
end

/-- an expression's worth -/
def Ev (W : Wd) (c : Act) (ρ : Rho) (e : Expr) (d : D) : Prop :=
  ∀ I O s, Sit W c ρ I O s.heap → Cmp W c.A s O (eval e c.env) d
/-- a test's -/
def Tr (W : Wd) (c : Act) (ρ : Rho) (e : Expr) (b : Bool) : Prop :=
  ∀ I O s, Sit W c ρ I O s.heap → ∀ (Q : Bool → Shared → Prop) (E : Value → Shared → Prop),
    (∀ h' tk, Ext s.heap h' → Q b { s with heap := h', toks := tk }) → wpAny (model W.prog W.w) c.A (PySem.isTrue e c.env (eval e c.env)) Q E s
/-- arguments' -/
def EvL (W : Wd) (c : Act) (ρ : Rho) (pos : Pos) (es : List Expr) (ds : List D) : Prop :=
  ∀ I O s, Sit W c ρ I O s.heap → ∀ (Q : List Value → Shared → Prop) (E : Value → Shared → Prop),
    (∀ vs h' tk, Ext s.heap h' → RpA O h' vs ds → Q vs { s with heap := h', toks := tk }) → wpAny (model W.prog W.w) c.A (spliced (backTo pos (starEach es c.env))) Q E s

inductive Out where
  | nx (ρ : Rho)
  | bk (ρ : Rho)
  | rt (d : D)
def GxO (W : Wd) (c : Act) (I : Led) (s : Shared) (Q : Flow → Shared → Prop) : Out → Prop
  | .nx ρ => ∀ h' tk O', Sit W c ρ I O' h' → Q .next { s with heap := h', toks := tk }
  | .bk ρ => ∀ h' tk O', Sit W c ρ I O' h' → Q .brk { s with heap := h', toks := tk }
  | .rt d => ∀ v h' tk, Ext c.h₀ h' → Rp c.O₀ h' v d → Q (.ret v) { s with heap := h', toks := tk }
def Ex (W : Wd) (c : Act) (ρ : Rho) (sts : List Stmt) (o : Out) : Prop :=
  ∀ I O s, Sit W c ρ I O s.heap → ∀ (Q : Flow → Shared → Prop) (E : Value → Shared → Prop), GxO W c I s Q o → wpAny (model W.prog W.w) c.A (execs sts c.env) Q E s

section
variable {W : Wd} {c : Act} {ρ ρ' : Rho} {pos : Pos}

theorem ev_local {x : Str} {p : Pos} {d : D} (hx : ρ.lookup x = some (.val d)) (hl : c.env.kindOf x = some .local := by rfl) (hc : c.env.cells.lookup x = none := by rfl)
    (hd : (x == ("__debug__" : Str)) = false := by decide) : Ev W c ρ (.Name x p) d := by
  intro I O s S Q E h
  obtain ⟨m, F, hm⟩ := S.fr
  obtain ⟨v, hv, r⟩ := hm x _ hx
  unfold Bears at hv
  rw [hc] at hv
  exact wpAny_Name (wpAny_loadName_local S.kind hl F hv (h v s.heap s.toks (Ext.refl _) r)) hd
theorem ev_cell {x : Str} {p : Pos} {d : D} {ca : Addr} (hx : ρ.lookup x = some (.val d)) (hl : c.env.kindOf x = some .cell := by rfl) (hc : c.env.cells.lookup x = some ca := by rfl)
    (hd : (x == ("__debug__" : Str)) = false := by decide) : Ev W c ρ (.Name x p) d := by
  intro I O s S Q E h
  obtain ⟨m, F, hm⟩ := S.fr
  obtain ⟨v, hv, r⟩ := hm x _ hx
  unfold Bears at hv
  rw [hc] at hv
  exact wpAny_Name (wpAny_loadName_cell S.kind hl hc hv (h v s.heap s.toks (Ext.refl _) r)) hd

theorem ev_bin {l r : Expr} {op : Operator} {d1 d2 d : D} (h1 : Ev W c ρ l d1) (h2 : Ev W c ρ r d2)
    (hb : ∀ O s v1 v2, InDom O s.heap → Rp O s.heap v1 d1 → Rp O s.heap v2 d2 → Cmp W c.A s O (binaryOp op v1 v2) d) : Ev W c ρ (.BinOp l op r pos) d := by
  intro I O s S Q E h
  refine wpAny_BinOp (h1 I O s S _ _ fun v1 g1 tk1 e1 r1 => h2 I O _ (S.ext e1) _ _ fun v2 g2 tk2 e2 r2 => ?_)
  exact hb O _ v1 v2 ((S.ext e1).ext e2).dom (r1.ext e2) r2 _ _ fun v g tk e r => h v g tk (e1.trans (e2.trans e)) r

theorem ev_cmp {l r : Expr} {op : CmpOp} {d1 d2 d : D} (h1 : Ev W c ρ l d1) (h2 : Ev W c ρ r d2)
    (hb : ∀ O s v1 v2, InDom O s.heap → Rp O s.heap v1 d1 → Rp O s.heap v2 d2 → Cmp W c.A s O (compareOp op v1 v2) d) (hm : behindInMarks op r = false := by with_unfolding_all rfl) : Ev W c ρ (.Compare l [op] [r] pos) d := by
  intro I O s S Q E h
  refine wpAny_Compare1 (h1 I O s S _ _ fun v1 g1 tk1 e1 r1 => h2 I O _ (S.ext e1) _ _ fun v2 g2 tk2 e2 r2 => ?_) hm
  exact hb O _ v1 v2 ((S.ext e1).ext e2).dom (r1.ext e2) r2 _ _ fun v g tk e r => h v g tk (e1.trans (e2.trans e)) r

theorem ev_un {x : Expr} {op : UnaryOp} {d1 d : D} (h1 : Ev W c ρ x d1)
    (hb : ∀ O s v1, InDom O s.heap → Rp O s.heap v1 d1 → Cmp W c.A s O (unaryOp op v1) d) : Ev W c ρ (.UnaryOp op x pos) d := by
  intro I O s S Q E h
  refine wpAny_UnaryOp (h1 I O s S _ _ fun v1 g1 tk1 e1 r1 => ?_)
  exact hb O _ v1 (S.ext e1).dom r1 _ _ fun v g tk e r => h v g tk (e1.trans e) r

theorem evl_nil : EvL W c ρ pos [] [] := fun I O s S Q E h => spliced_nil (h [] s.heap s.toks (Ext.refl _) .nil)
theorem evl_cons {e : Expr} {es : List Expr} {d : D} {ds : List D} (h1 : Ev W c ρ e d) (h2 : EvL W c ρ pos es ds)
    (he : backTo pos (starEach (e :: es) c.env) = (false, eval e c.env) :: backTo pos (starEach es c.env) := by rfl) : EvL W c ρ pos (e :: es) (d :: ds) := by
  intro I O s S Q E h
  rw [he]
  refine spliced_cons (h1 I O s S _ _ fun v1 g1 tk1 e1 r1 => h2 I O _ (S.ext e1) _ _ fun vs g2 tk2 e2 r2 => ?_)
  exact h (v1 :: vs) g2 tk2 (e1.trans e2) (.cons (r1.ext e2) r2)

theorem ev_list {es : List Expr} {ds : List D} (h1 : EvL W c ρ pos es ds) (hn : ds.length ≤ sizeLine := by size_fits) : Ev W c ρ (.List es pos) (.lst ds) := by
  intro I O s S Q E h
  refine wpAny_List_spliced (h1 I O s S _ _ fun vs g tk e r => ?_)
  refine ⟨r.length ▸ hn, ?_⟩
  refine h _ _ _ (e.trans (Ext.push _ _)) (.lst (S.ext e).dom.fresh ⟨_, Heap.get?_push_size _ rfl⟩ (r.ext (Ext.push _ _)))
theorem ev_tuple {es : List Expr} {k : Nat} {ds : List D} (h1 : EvL W c ρ pos es ds) (hn : ds.length ≤ sizeLine := by size_fits) : Ev W c ρ (.Tuple es k pos) (.tup ds) := by
  intro I O s S Q E h
  refine wpAny_Tuple_spliced (h1 I O s S _ _ fun vs g tk e r => ?_)
  refine ⟨r.length ▸ hn, ?_⟩
  refine h _ _ _ (e.trans (Ext.push _ _)) (.tup (S.ext e).dom.fresh ⟨_, Heap.get?_push_size _ rfl, rfl, _, rfl⟩ (r.ext (Ext.push _ _)))

theorem ex_nil (hs : ∀ x sl, ρ'.lookup x = some sl → ρ.lookup x = some sl) : Ex W c ρ [] (.nx ρ') :=
  fun I O s S Q E h => wpAny_execs_nil (h s.heap s.toks O (S.sub hs))
theorem ex_sub {sts : List Stmt} {o : Out} (hs : ∀ x sl, ρ'.lookup x = some sl → ρ.lookup x = some sl) (h : Ex W c ρ' sts o) : Ex W c ρ sts o :=
  fun I O s S => h I O s (S.sub hs)

theorem GxO.at {I : Led} {s : Shared} {Q : Flow → Shared → Prop} {o : Out} (h : GxO W c I s Q o) (g : Heap) (tk : Nat) : GxO W c I { s with heap := g, toks := tk } Q o := by
  cases o with
  | nx ρ => exact fun h' tk' => h h' tk'
  | bk ρ => exact fun h' tk' => h h' tk'
  | rt d => exact fun v h' tk' => h v h' tk'

/-- a statement that goes on -/
theorem ex_seq {st : Stmt} {rest : List Stmt} {o : Out} (h1 : Ex W c ρ [st] (.nx ρ')) (h2 : Ex W c ρ' rest o) : Ex W c ρ (st :: rest) o := by
  intro I O s S Q E h
  refine wpAny_execs_cons ?_
  have q := h1 I O s S (fun f s' => match f with | .next => wpAny (model W.prog W.w) c.A (execs rest c.env) Q E s' | f => False) E
    (fun h' tk O' S' => h2 I O' _ S' Q E (h.at h' tk))
  have q' : wpAny (model W.prog W.w) c.A (exec st c.env) (fun f s' => match f with | .next => wpAny (model W.prog W.w) c.A (execs rest c.env) Q E s' | f => False) E s := by
    intro Γ p hΓ
    have := q Γ p hΓ
    rw [execs_cons, Sem.wp_bind'] at this
    refine Sem.wp_mono _ _ _ (fun f p' s' h' => ?_) (fun _ _ _ h' => h') _ _ this
    cases f with
    | next => exact h'
    | brk => exact h'
    | cont => exact h'
    | ret v => exact h'
  exact wpAny_mono q' (fun f s' h' => by cases f <;> first | exact h' | exact h'.elim) fun _ _ x => x

theorem ex_return {e : Expr} {rest : List Stmt} {d : D} (h1 : Ev W c ρ e d) : Ex W c ρ (.Return (some e) pos :: rest) (.rt d) := by
  intro I O s S Q E h
  refine wpAny_execs_cons (wpAny_Return_some (h1 I O s S _ _ fun v g tk e1 r => ?_))
  exact h v g tk (S.ext e1).keep (r.weak S.h0)

theorem ex_if {test : Expr} {body orelse rest : List Stmt} {o : Out} {b : Bool} (h1 : Tr W c ρ test b) (h2 : if b then Ex W c ρ body (.nx ρ') ∧ Ex W c ρ' rest o else Ex W c ρ orelse (.nx ρ') ∧ Ex W c ρ' rest o) :
    Ex W c ρ (.If test body orelse pos :: rest) o := by
  cases b with
  | true =>
    refine ex_seq (ρ' := ρ') ?_ h2.2
    intro I O s S Q E h
    refine wpAny_execs_cons (wpAny_mono (wpAny_If (h1 I O s S _ _ fun g tk e => ?_)) (fun f s' h' => h') fun _ _ x => x)
    simp only [if_true]
    refine h2.1 I O _ (S.ext e) _ _ fun h' tk' O' S' => ?_
    exact wpAny_execs_nil (h h' tk' O' S')
  | false =>
    refine ex_seq (ρ' := ρ') ?_ h2.2
    intro I O s S Q E h
    refine wpAny_execs_cons (wpAny_mono (wpAny_If (h1 I O s S _ _ fun g tk e => ?_)) (fun f s' h' => h') fun _ _ x => x)
    simp only [Bool.false_eq_true, if_false]
    refine h2.1 I O _ (S.ext e) _ _ fun h' tk' O' S' => ?_
    exact wpAny_execs_nil (h h' tk' O' S')
/-- an if whose taken way leaves: by return or break -/
theorem ex_if_leave {test : Expr} {body orelse rest : List Stmt} {o : Out} {b : Bool} (h1 : Tr W c ρ test b) (h2 : Ex W c ρ (if b then body else orelse) o) (hl : match o with | .nx _ => False | _ => True) :
    Ex W c ρ (.If test body orelse pos :: rest) o := by
  intro I O s S Q E h
  refine wpAny_execs_cons (wpAny_If (h1 I O s S _ _ fun g tk e => ?_))
  cases b with
  | true =>
    simp only [if_true]
    refine h2 I O _ (S.ext e) _ _ ?_
    cases o with
    | nx ρ => exact hl.elim
    | bk ρ => exact fun h' tk' => h h' tk'
    | rt d => exact fun v h' tk' => h v h' tk'
  | false =>
    simp only [Bool.false_eq_true, if_false]
    refine h2 I O _ (S.ext e) _ _ ?_
    cases o with
    | nx ρ => exact hl.elim
    | bk ρ => exact fun h' tk' => h h' tk'
    | rt d => exact fun v h' tk' => h v h' tk'
end
end Mine

/-! MStore -/
namespace Mine
set_option maxRecDepth 100000
open PySem PySem.W PyProof.Rows PySem.Calls

def setR : Rho → Str → Sl → Rho
  | [], x, sl => [(x, sl)]
  | (y, t) :: r, x, sl => if x == y then (y, sl) :: r else (y, t) :: setR r x sl
theorem look_setR (ρ : Rho) (x : Str) (sl : Sl) (y : Str) : (setR ρ x sl).lookup y = if y = x then some sl else ρ.lookup y := by
  induction ρ with
  | nil =>
    simp only [setR, List.lookup_cons, List.lookup_nil]
    by_cases h : y = x
    · subst h; simp
    · have : (y == x) = false := by simpa using h
      simp [this, h]
  | cons p r ih =>
    obtain ⟨z, t⟩ := p
    unfold setR
    by_cases hxz : (x == z) = true
    · have e : x = z := by simpa using hxz
      subst e
      simp only [beq_self_eq_true, if_true, List.lookup_cons]
      by_cases h : y = x
      · subst h; simp
      · have : (y == x) = false := by simpa using h
        simp [this, h]
    · rw [if_neg hxz]
      simp only [List.lookup_cons]
      have hne : x ≠ z := by simpa using hxz
      by_cases hy : (y == z) = true
      · have e : y = z := by simpa using hy
        subst e
        simp [Ne.symm hne]
      · have hy' : (y == z) = false := by simpa using hy
        simp only [hy']
        exact ih

section
variable {W : Wd} {c : Act} {ρ ρ' : Rho} {I : Led} {O : List Addr} {h h' : Heap}

/-- only L turns: a name is stored -/
theorem Sit.stored {m : Str → Option Value} {x : Str} {v : Value} {d : D} (S : Sit W c ρ I O h) (hm : h.Ns c.env.locals m) (hml : ∀ y sl, ρ.lookup y = some sl → ∃ u, Bears c m h y u ∧ SlotOk c I O h u sl) (hc : c.env.cells.lookup x = none)
    (r : Rp O h' v d) (hn : h'.Ns c.env.locals (fun y => if y = x then some v else m y)) (hs : Heap.ExtBut c.env.locals h h') : Sit W c (setR ρ x (.val d)) I O h' := by
  have off : Off O h h' := fun b o hb e => hs b o (fun q => hb (q ▸ S.hL)) e
  refine { S with cellIs := cellExt0 S.cellIs fun p hp o e => hs _ _ (S.cells p hp).2.1 e, fr := ⟨_, hn, fun y sl hy => ?_⟩, keep := fun b o e => hs b o (fun q => by rw [q, S.fresh] at e; cases e) (S.keep b o e), dom := fun b hb => ?_, its := fun p hp => ⟨(S.its p hp).1, hs _ _ (S.its p hp).1 (S.its p hp).2⟩ }
  · rw [look_setR] at hy
    by_cases e : y = x
    · rw [if_pos e] at hy
      cases hy
      refine ⟨v, ?_, r⟩
      unfold Bears
      rw [e, hc]; simp
    · rw [if_neg e] at hy
      obtain ⟨u, b, k⟩ := hml y sl hy
      refine ⟨u, ?_, ?_⟩
      · have b' := b.off (h' := h') fun p hp o e => hs _ _ (S.cells p hp).2.1 e
        unfold Bears at b' ⊢
        split
        · rename_i ca hca; rw [hca] at b'; exact b'
        · rename_i hca; rw [hca] at b'; simpa [e] using b'
      · cases sl with
        | val d => exact Rp.off off (fun _ _ m _ => m) k
        | mu a ds =>
          obtain ⟨h1, h2, h3, h4, h5, h5', vs, n, h6, h7⟩ := k
          exact ⟨h1, h2, h3, h4, h5, h5', vs, n, hs _ _ h3 h6, h7.off off fun _ _ m _ => m⟩
  · obtain ⟨o, ho⟩ := S.dom b hb
    by_cases e : b = c.env.locals
    · obtain ⟨o', _, _, ho', _⟩ := hn
      exact ⟨o', e ▸ ho'⟩
    · exact ⟨o, hs b o e ho⟩

theorem st_store {A : Around} {s : Shared} {x : Str} {v : Value} {d : D} {Q : Unit → Shared → Prop} {E : Value → Shared → Prop} {M : Model} (S : Sit W c ρ I O s.heap) (r : Rp O s.heap v d)
    (hQ : ∀ h', Sit W c (setR ρ x (.val d)) I O h' → Q () { s with heap := h', toks := s.toks + 1 })
    (hl : c.env.kindOf x = some .local) (hc : c.env.cells.lookup x = none) : wpAny M A (storeName c.env x v) Q E s := by
  obtain ⟨m, F, hm⟩ := S.fr
  refine wpAny_storeName_local hl F (fun h' hn hs => hQ h' (S.stored F hm hc (r.off (fun b o hb e => hs.extBut b o (fun q => hb (q ▸ S.hL)) e) fun _ _ m _ => m) hn hs.extBut)) ?_
  rw [S.kind]; rfl

theorem st_storeX {A : Around} {s : Shared} {x : Str} {v : Value} {d : D} {Q : Unit → Shared → Prop} {E : Value → Shared → Prop} {M : Model} (S : Sit W c ρ I O s.heap) (r : Rp O s.heap v d)
    (hQ : ∀ h', Sit W c (setR ρ x (.val d)) I O h' → (∀ {vs ds}, RpA O s.heap vs ds → RpA O h' vs ds) → Q () { s with heap := h', toks := s.toks + 1 })
    (hl : c.env.kindOf x = some .local) (hc : c.env.cells.lookup x = none) : wpAny M A (storeName c.env x v) Q E s := by
  obtain ⟨m, F, hm⟩ := S.fr
  refine wpAny_storeName_local hl F (fun h' hn hs => ?_) ?_
  · have off : Off O s.heap h' := fun b o hb e => hs.extBut b o (fun q => hb (q ▸ S.hL)) e
    exact hQ h' (S.stored F hm hc (r.off off fun _ _ m _ => m) hn hs.extBut) fun r => r.off off fun _ _ m _ => m
  rw [S.kind]; rfl

/-- a cell is stored: the only one, and no list turns -/
theorem Sit.storedCell {m : Str → Option Value} {x : Str} {ca : Addr} {v : Value} {d : D} (S : Sit W c ρ I O h) (hm : h.Ns c.env.locals m) (hml : ∀ y sl, ρ.lookup y = some sl → ∃ u, Bears c m h y u ∧ SlotOk c I O h u sl)
    (hc : c.env.cells = [(x, ca)]) (h0 : c.h₀.get? ca = none) (hall : ∀ y sl, ρ.lookup y = some sl → ∃ d, sl = .val d)
    (r : Rp O h v d) (hn : h'.IsCell ca (some v)) (hs : Heap.SameBut ca h h') : Sit W c (setR ρ x (.val d)) I O h' := by
  have hcell := S.cells (x, ca) (by rw [hc]; exact List.mem_singleton.mpr rfl)
  have off : Off O h h' := fun b o hb e => hs.extBut b o (fun q => hb (q ▸ hcell.1)) e
  refine { S with cellIs := fun p hp => by rw [hc] at hp; rw [List.mem_singleton.mp hp]; exact ⟨_, hn⟩, fr := ⟨m, hm.sameBut hs (Ne.symm hcell.2.1), fun y sl hy => ?_⟩, keep := fun b o e => hs.extBut b o (fun q => by rw [q, h0] at e; cases e) (S.keep b o e), dom := fun b hb => ?_, its := fun p hp => ⟨(S.its p hp).1, hs.extBut _ _ (hcell.2.2 p hp) (S.its p hp).2⟩ }
  · rw [look_setR] at hy
    by_cases e : y = x
    · rw [if_pos e] at hy
      cases hy
      refine ⟨v, ?_, r.off off fun _ _ m _ => m⟩
      unfold Bears
      rw [e, hc]; simpa using hn
    · rw [if_neg e] at hy
      obtain ⟨u, b, k⟩ := hml y sl hy
      obtain ⟨d', rfl⟩ := hall y sl hy
      refine ⟨u, ?_, Rp.off off (fun _ _ m _ => m) k⟩
      unfold Bears at b ⊢
      have e2 : c.env.cells.lookup y = none := by rw [hc]; have : (y == x) = false := by simpa using e
                                                  simp [List.lookup_cons, this]
      rw [e2] at b ⊢
      exact b
  · obtain ⟨o, ho⟩ := S.dom b hb
    by_cases e : b = ca
    · obtain ⟨o', ho', _⟩ := hn
      exact ⟨o', e ▸ ho'⟩
    · exact ⟨o, hs.extBut b o e ho⟩

def Sl.isVal : Sl → Bool
  | .val _ => true
  | .mu .. => false
theorem allVal {ρ : Rho} (h : (ρ.all fun p => p.2.isVal) = true) : ∀ y sl, ρ.lookup y = some sl → ∃ d, sl = .val d := by
  intro y sl hy
  have := List.all_eq_true.mp h _ (mem_of_lookup hy)
  cases sl with
  | val d => exact ⟨d, rfl⟩
  | mu a ds => cases this
theorem restVal {ρ : Rho} {x : Str} (h : (ρ.all fun p => p.1 == x || p.2.isVal) = true) : ∀ y sl, y ≠ x → ρ.lookup y = some sl → ∃ d, sl = .val d := by
  intro y sl hne hy
  have := List.all_eq_true.mp h _ (mem_of_lookup hy)
  cases sl with
  | val d => exact ⟨d, rfl⟩
  | mu a ds => simp [Sl.isVal] at this; exact absurd this hne

theorem st_storeCell {A : Around} {s : Shared} {x : Str} {ca : Addr} {v : Value} {d : D} {Q : Unit → Shared → Prop} {E : Value → Shared → Prop} {M : Model} (S : Sit W c ρ I O s.heap) (r : Rp O s.heap v d)
    (hQ : ∀ h', Sit W c (setR ρ x (.val d)) I O h' → Q () { s with heap := h' })
    (hl : c.env.kindOf x = some .cell) (hc : c.env.cells = [(x, ca)]) (h0 : c.h₀.get? ca = none) (hall : ∀ y sl, ρ.lookup y = some sl → ∃ d, sl = .val d) : wpAny M A (storeName c.env x v) Q E s := by
  obtain ⟨m, F, hm⟩ := S.fr
  obtain ⟨v₀, hv⟩ := S.cellIs (x, ca) (by rw [hc]; exact List.mem_singleton.mpr rfl)
  exact wpAny_storeName_cell S.kind hl (by rw [hc]; simp) hv (fun h' hn hs => hQ h' (S.storedCell F hm hc h0 hall r hn hs))

/-- a list of the frame's own turns -/
theorem Sit.turned {x : Str} {a : Addr} {ds ds' : List D} {vs' : List Value} {n' : Nat} (S : Sit W c ρ I O h) (hx : ρ.lookup x = some (.mu a ds)) (hone : ∀ y sl, y ≠ x → ρ.lookup y = some sl → ∃ d, sl = .val d)
    (r : RpA O h vs' ds') (hn : h'.get? a = some (PySem.W.listOf vs'.toArray n')) (hs : Heap.SameBut a h h') : Sit W c (setR ρ x (.mu a ds')) I O h' := by
  obtain ⟨m, F, hm⟩ := S.fr
  obtain ⟨u, b, k⟩ := hm x _ hx
  obtain ⟨h1, h2, h3, h4, h5, h5', vs, n, h6, h7⟩ := k
  have off : Off O h h' := fun b o hb e => hs.extBut b o (fun q => hb (q ▸ h2)) e
  refine { S with cellIs := cellExt0 S.cellIs fun p hp o q => hs.extBut _ _ (h5' p hp) q, fr := ⟨m, F.sameBut hs (Ne.symm h3), fun y sl hy => ?_⟩, keep := fun b o e => hs.extBut b o (fun q => by rw [q, h4] at e; cases e) (S.keep b o e), dom := fun b hb => ?_, its := fun p hp => ⟨(S.its p hp).1, hs.extBut _ _ (h5 p hp) (S.its p hp).2⟩ }
  · rw [look_setR] at hy
    by_cases e : y = x
    · rw [if_pos e] at hy
      cases hy
      refine ⟨u, e ▸ b.off fun p hp o q => hs.extBut _ _ (h5' p hp) q, h1, h2, h3, h4, h5, h5', vs', n', hn, r.off off fun _ _ m _ => m⟩
    · rw [if_neg e] at hy
      obtain ⟨u', b', k'⟩ := hm y sl hy
      obtain ⟨d', rfl⟩ := hone y sl e hy
      exact ⟨u', b'.off fun p hp o q => hs.extBut _ _ (h5' p hp) q, Rp.off off (fun _ _ m _ => m) k'⟩
  · obtain ⟨o, ho⟩ := S.dom b hb
    by_cases e : b = a
    · exact ⟨_, e ▸ hn⟩
    · exact ⟨o, hs.extBut b o e ho⟩

/-- a list of the frame's own that turns no more -/
theorem Sit.frozen {x : Str} {a : Addr} {ds : List D} (S : Sit W c ρ I O h) (hx : ρ.lookup x = some (.mu a ds)) (hone : ∀ y sl, y ≠ x → ρ.lookup y = some sl → ∃ d, sl = .val d) :
    Sit W c (setR ρ x (.val (.lst ds))) I (O.filter fun b => b != a) h := by
  obtain ⟨m, F, hm⟩ := S.fr
  obtain ⟨u, b, k⟩ := hm x _ hx
  obtain ⟨rfl, h2, h3, h4, h5, h5', vs, n, h6, h7⟩ := k
  have wk : ∀ b ∈ O.filter fun b => b != a, b ∈ O := fun b hb => (List.mem_filter.mp hb).1
  refine { S with fr := ⟨m, F, fun y sl hy => ?_⟩, cells := fun p hp => ⟨List.mem_filter.mpr ⟨(S.cells p hp).1, by simpa using h5' p hp⟩, (S.cells p hp).2⟩, hL := List.mem_filter.mpr ⟨S.hL, by simpa using Ne.symm h3⟩, h0 := fun b hb => List.mem_filter.mpr ⟨S.h0 b hb, ?_⟩, dom := fun b hb => S.dom b (wk b hb) }
  · rw [look_setR] at hy
    by_cases e : y = x
    · rw [if_pos e] at hy
      cases hy
      exact ⟨_, e ▸ b, .lst (by simp) ⟨n, h6⟩ (h7.weak wk)⟩
    · rw [if_neg e] at hy
      obtain ⟨u', b', k'⟩ := hm y sl hy
      obtain ⟨d', rfl⟩ := hone y sl e hy
      exact ⟨u', b', Rp.weak k' wk⟩
  · have : b ≠ a := fun q => by obtain ⟨o, ho⟩ := S.d0 b hb; rw [q, h4] at ho; cases ho
    simpa using this

theorem ex_assign {x : Str} {p' pos : Pos} {value : Expr} {rest : List Stmt} {d : D} {o : Out} (h1 : Ev W c ρ value d) (hρ : setR ρ x (.val d) = ρ') (h2 : Ex W c ρ' rest o)
    (hl : c.env.kindOf x = some .local := by rfl) (hc : c.env.cells.lookup x = none := by rfl)
    (hs : swapsWith value (some (.Name x p')) pos.line c.env = pure false := by rfl) : Ex W c ρ (.Assign [.Name x p'] value pos :: rest) o := by
  subst hρ
  intro I O s S Q E h
  refine wpAny_execs_cons (wpAny_Assign_Name (h1 I O s S _ _ fun v g tk e r => ?_) hs)
  exact st_store (S.ext e) r (fun h' S' => h2 I O _ S' Q E (h.at _ _)) hl hc

theorem ex_aug {x : Str} {p' pos : Pos} {op : Operator} {value : Expr} {rest : List Stmt} {d0 d1 d : D} {o : Out} (hx : ρ.lookup x = some (.val d0)) (h1 : Ev W c ρ value d1)
    (hb : ∀ O s v1 v2, InDom O s.heap → Rp O s.heap v1 d0 → Rp O s.heap v2 d1 → Cmp W c.A s O (inplaceOp op v1 v2) d) (hρ : setR ρ x (.val d) = ρ') (h2 : Ex W c ρ' rest o)
    (hl : c.env.kindOf x = some .local := by rfl) (hc : c.env.cells.lookup x = none := by rfl) : Ex W c ρ (.AugAssign (.Name x p') op value pos :: rest) o := by
  subst hρ
  intro I O s S Q E h
  obtain ⟨m, F, hm⟩ := S.fr
  obtain ⟨v0, hv, r0⟩ := hm x _ hx
  unfold Bears at hv
  rw [hc] at hv
  refine wpAny_execs_cons (wpAny_AugAssign_Name (wpAny_loadName_local S.kind hl F hv (h1 I O s S _ _ fun v g tk e r => ?_)))
  refine hb O _ v0 v (S.ext e).dom (Rp.ext r0 e) r _ _ fun w g2 tk2 e2 r2 => ?_
  exact st_store ((S.ext e).ext e2) r2 (fun h' S' => h2 I O _ S' Q E (h.at _ _)) hl hc

theorem ex_open {x : Str} {p' pos lpos : Pos} {es : List Expr} {rest : List Stmt} {ds : List D} {o : Out} (h1 : EvL W c ρ lpos es ds) (h2 : ∀ a, Ex W c (setR ρ x (.mu a ds)) rest o) (hall : (ρ.all fun p => p.2.isVal) = true)
    (hn : ds.length ≤ sizeLine := by size_fits) (hl : c.env.kindOf x = some .local := by rfl) (hc : c.env.cells.lookup x = none := by rfl)
    (hs : swapsWith (.List es lpos) (some (.Name x p')) pos.line c.env = pure false := by rfl) : Ex W c ρ (.Assign [.Name x p'] (.List es lpos) pos :: rest) o := by
  intro I O s S Q E h
  refine wpAny_execs_cons (wpAny_Assign_Name (wpAny_List_spliced (h1 I O s S _ _ fun vs g tk e r => ?_)) hs)
  refine ⟨r.length ▸ hn, ?_⟩
  have S1 := S.ext e
  have hnew : g.get? g.objs.size = none := by
    cases q : g.get? g.objs.size with
    | none => rfl
    | some o => exact absurd (Heap.lt_size q) (Nat.lt_irrefl _)
  have S2 := S1.ext (Ext.push g { cls := Value.type "list", data := Data.seq vs.toArray })
  have hg2 : (g.push { cls := Value.type "list", data := Data.seq vs.toArray }).get? g.objs.size = some (PySem.W.listOf vs.toArray 0) := Heap.get?_push_size _ rfl
  obtain ⟨m, F1, hm⟩ := S1.fr
  have F := F1.keeps (Ext.push g { cls := Value.type "list", data := Data.seq vs.toArray })
  have hLne : c.env.locals ≠ g.objs.size := fun q => by obtain ⟨o, ho⟩ := S1.dom _ S1.hL; rw [q, hnew] at ho; cases ho
  refine wpAny_storeName_local hl F (fun h' hn' hs' => ?_) (by rw [S.kind]; rfl)
  refine h2 g.objs.size I (g.objs.size :: O) _ ?_ Q E (h.at _ _)
  show Sit W c _ I (g.objs.size :: O) h'
  have off : Off O (g.push { cls := Value.type "list", data := Data.seq vs.toArray }) h' := fun b o hb e => hs'.extBut b o (fun q => hb (q ▸ S.hL)) e
  have off0 : Off O g h' := fun b o hb e => off b o hb (Heap.get?_push_of_some _ e)
  have up : ∀ a o, a ∈ g.objs.size :: O → g.get? a = some o → a ∈ O := fun a o hm ho => by
    rcases List.mem_cons.mp hm with q | q
    · rw [q, hnew] at ho; cases ho
    · exact q
  refine { S with cellIs := cellExt0 S2.cellIs fun p hp o q => hs'.extBut _ _ (S.cells p hp).2.1 q, fr := ⟨_, hn', fun y sl hy => ?_⟩, keep := fun b o e => hs'.extBut b o (fun q => by rw [q, S.fresh] at e; cases e) (S2.keep b o e), cells := fun p hp => ⟨.tail _ (S.cells p hp).1, (S.cells p hp).2⟩, hL := .tail _ S.hL, h0 := fun b hb => .tail _ (S.h0 b hb), dom := fun b hb => ?_, its := fun p hp => ⟨(S.its p hp).1, hs'.extBut _ _ (S.its p hp).1 (S2.its p hp).2⟩ }
  · rw [look_setR] at hy
    by_cases q : y = x
    · rw [if_pos q] at hy
      cases hy
      refine ⟨.ref g.objs.size, ?_, rfl, .head _, Ne.symm hLne, ?_, ?_, ?_, vs, 0, hs'.extBut _ _ (Ne.symm hLne) hg2, r.off off0 up⟩
      · unfold Bears; rw [q, hc]; simp
      · cases q' : c.h₀.get? g.objs.size with
        | none => rfl
        | some o => have := S1.keep _ _ q'; rw [hnew] at this; cases this
      · intro p hp q'
        have := (S1.its p hp).2
        rw [q', hnew] at this; cases this
      · intro p hp q'
        obtain ⟨o, ho⟩ := S1.dom _ (S1.cells p hp).1
        rw [q', hnew] at ho; cases ho
    · rw [if_neg q] at hy
      obtain ⟨d', rfl⟩ := allVal hall y sl hy
      obtain ⟨u, b, k⟩ := hm y _ hy
      refine ⟨u, ?_, Rp.off off0 up k⟩
      have b' := (b.ext (Ext.push g { cls := Value.type "list", data := Data.seq vs.toArray })).off (h' := h') fun p hp o e => hs'.extBut _ _ (S.cells p hp).2.1 e
      unfold Bears at b' ⊢
      split
      · rename_i ca hca; rw [hca] at b'; exact b'
      · rename_i hca; rw [hca] at b'; simpa [q] using b'
  · rcases List.mem_cons.mp hb with q | q
    · exact ⟨_, q ▸ hs'.extBut _ _ (Ne.symm hLne) hg2⟩
    · obtain ⟨o, ho⟩ := S2.dom b q
      by_cases e : b = c.env.locals
      · obtain ⟨o', _, _, ho', _⟩ := hn'
        exact ⟨o', e ▸ ho'⟩
      · exact ⟨o, hs'.extBut b o e ho⟩
end
end Mine

/-! MCall -/
namespace Mine
set_option maxRecDepth 100000
open PySem PySem.W PyProof.Rows PySem.Calls

section
variable {W : Wd} {c : Act} {ρ ρ' : Rho}

theorem ex_append {pl : Sem Bool} {x : Str} {p1 p2 p3 p4 : Pos} {e : Expr} {rest : List Stmt} {a : Addr} {ds : List D} {d : D} {o : Out} (hx : ρ.lookup x = some (.mu a ds)) (h1 : Ev W c ρ e d)
    (hρ : setR ρ x (.mu a (ds ++ [d])) = ρ') (h2 : Ex W c ρ' rest o) (hone : (ρ.all fun p => p.1 == x || p.2.isVal) = true := by rfl) (hn : ds.length ≤ sizeLine := by size_fits)
    (hl : c.env.kindOf x = some .local := by rfl) (hc : c.env.cells.lookup x = none := by rfl)
    (he : backTo p3 (starEach [e] c.env) = (false, eval e c.env) :: backTo p3 (starEach [] c.env) := by rfl)
    (he' : starEach [e] c.env = (false, eval e c.env) :: starEach [] c.env := by rfl)
    (hm : eval (.Call (.Attribute (.Name x p1) "append" p2) [e] [] p3) c.env = (do
      let ov ← eval (.Name x p1) c.env
      standAt p2.atName
      let (f, first) ← holding [ov] (getMethod ov "append" pl)
      callWith p3 f first (backTo p3 (starEach [e] c.env)) []) := by rfl)
    (hi : interactive c.env = false := by rfl) (hs : swapsWith (.Call (.Attribute (.Name x p1) "append" p2) [e] [] p3) none p4.line c.env = pure false := by rfl)
    (hd : (x == ("__debug__" : Str)) = false := by decide) :
    Ex W c ρ (.Expr (.Call (.Attribute (.Name x p1) "append" p2) [e] [] p3) p4 :: rest) o := by
  subst hρ
  intro I O s S Q E h
  obtain ⟨m, F, hml⟩ := S.fr
  obtain ⟨v0, hv, k⟩ := hml x _ hx
  unfold Bears at hv
  rw [hc] at hv
  obtain ⟨rfl, k2, k3, k4, k5, k5', vs, n, k6, k7⟩ := k
  refine wpAny_execs_cons (wpAny_Expr (MethodCall_ (pl := pl) ?_ hm) hi hs)
  refine wpAny_Name (wpAny_loadName_local S.kind hl F hv ?_) hd
  refine Calls.getMethod_list_append k6 rfl rfl ?_
  refine callWith_method1 ?_ he' rfl
  refine evl_cons h1 evl_nil he I O s S _ _ fun ws g tk e1 r => ?_
  cases r with
  | cons r1 r2 =>
    cases r2
    rename_i v
    have S1 := S.ext e1
    refine append_at (e1 _ _ k6) (fun h' hs' hg' => ?_) (by rw [List.size_toArray, k7.length]; exact hn)
    refine h2 I O _ ?_ Q E (h.at _ _)
    exact S1.turned hx (restVal hone) ((k7.ext e1).append (.cons r1 .nil)) (by simpa using hg') hs'

theorem call_extend {prog : Program} {w : World} {A : Around} {E : Value → Shared → Prop} {s : Shared} {D b : Addr} {ys : List Value} {n n2 : Nat} {its2 : Array Value} {Q : Value → Shared → Prop}
    (hm : s.heap.get? D = some { cls := .type "list", data := .seq ys.toArray n })
    (hb : s.heap.get? b = some { cls := .type "list", data := .seq its2 n2 })
    (h : ∀ h' n', Heap.SameBut D s.heap h' → h'.get? D = some { cls := .type "list", data := .seq (ys ++ its2.toList).toArray n' } → Q .none { s with heap := h' })
    (hsz : ys.length + its2.size ≤ sizeLine) :
    wpAny (model prog w) A (call (.builtin "list.extend") [.ref D, .ref b]) Q E s := by
  have hsz' : ys.toArray.size + its2.size ≤ sizeLine := by rw [List.size_toArray]; exact hsz
  refine call_meets PySem.F.slot_list_extend ⟨_, hm, rfl⟩ PySem.F.entry_list_extend (PySem.F.args_list_extend_2 _ _) (AutoSeq1.list_extend_list_list_0 D ys.toArray n b its2 n2 (extend_door hsz') (Nat.le_trans (Nat.le_add_right _ _) hsz')) ⟨hm, hb, ?_⟩
  have ho' : (s.heap.update D (Obj.mapSeq fun x => x ++ its2)).get? D = some { cls := .type "list", data := .seq (ys ++ its2.toList).toArray (if (ys.toArray ++ its2).size == ys.toArray.size then n else n + 1) } := by
    rw [Heap.get?_update_self _ hm (by rw [mapSeq_app]; rfl), mapSeq_app]
    simp
  exact h _ _ (Heap.SameBut.update ..) ho'

theorem ex_extend {pl : Sem Bool} {x : Str} {p1 p2 p3 p4 : Pos} {e : Expr} {rest : List Stmt} {a : Addr} {ds es : List D} {o : Out} (hx : ρ.lookup x = some (.mu a ds)) (h1 : Ev W c ρ e (.lst es))
    (hρ : setR ρ x (.mu a (ds ++ es)) = ρ') (h2 : Ex W c ρ' rest o) (hn : ds.length + es.length ≤ sizeLine) (hone : (ρ.all fun p => p.1 == x || p.2.isVal) = true := by rfl)
    (hl : c.env.kindOf x = some .local := by rfl) (hc : c.env.cells.lookup x = none := by rfl)
    (he : backTo p3 (starEach [e] c.env) = (false, eval e c.env) :: backTo p3 (starEach [] c.env) := by rfl)
    (he' : starEach [e] c.env = (false, eval e c.env) :: starEach [] c.env := by rfl)
    (hm : eval (.Call (.Attribute (.Name x p1) "extend" p2) [e] [] p3) c.env = (do
      let ov ← eval (.Name x p1) c.env
      standAt p2.atName
      let (f, first) ← holding [ov] (getMethod ov "extend" pl)
      callWith p3 f first (backTo p3 (starEach [e] c.env)) []) := by rfl)
    (hi : interactive c.env = false := by rfl) (hs : swapsWith (.Call (.Attribute (.Name x p1) "extend" p2) [e] [] p3) none p4.line c.env = pure false := by rfl)
    (hd : (x == ("__debug__" : Str)) = false := by decide) :
    Ex W c ρ (.Expr (.Call (.Attribute (.Name x p1) "extend" p2) [e] [] p3) p4 :: rest) o := by
  subst hρ
  intro I O s S Q E h
  obtain ⟨m, F, hml⟩ := S.fr
  obtain ⟨v0, hv, k⟩ := hml x _ hx
  unfold Bears at hv
  rw [hc] at hv
  obtain ⟨rfl, k2, k3, k4, k5, k5', vs, n, k6, k7⟩ := k
  refine wpAny_execs_cons (wpAny_Expr (MethodCall_ (pl := pl) ?_ hm) hi hs)
  refine wpAny_Name (wpAny_loadName_local S.kind hl F hv ?_) hd
  refine getMethod_builtin (T := "list") ⟨_, k6, rfl⟩ PySem.F.plainAttrs_list PySem.F.slot_list_extend PySem.F.type_list_extend (fun b e => by cases e; exact ⟨_, k6, rfl⟩) ?_
  refine callWith_method1 ?_ he' rfl
  refine evl_cons h1 evl_nil he I O s S _ _ fun ws g tk e1 r => ?_
  cases r with
  | cons r1 r2 =>
    cases r2
    have S1 := S.ext e1
    cases r1 with
    | lst hO hp hr =>
      rename_i b us
      obtain ⟨n2, hb⟩ := hp
      refine call_extend (e1 _ _ k6) hb (fun h' n' hs' hg' => ?_) (by rw [List.size_toArray, k7.length, hr.length]; exact hn)
      refine h2 I O _ ?_ Q E (h.at _ _)
      exact S1.turned hx (restVal hone) ((k7.ext e1).append hr) (by simpa using hg') hs'

theorem ex_freeze {x : Str} {a : Addr} {ds : List D} {sts : List Stmt} {o : Out} (hx : ρ.lookup x = some (.mu a ds)) (hρ : setR ρ x (.val (.lst ds)) = ρ') (h2 : Ex W c ρ' sts o) (hone : (ρ.all fun p => p.1 == x || p.2.isVal) = true := by rfl) :
    Ex W c ρ sts o := by
  subst hρ
  intro I O s S Q E h
  exact h2 I _ s (S.frozen hx (restVal hone)) Q E h

/-- a def of the top: what a call of it hands back -/
def Fn (W : Wd) (k : Nat) (name : Str) (ds : List D) (d : D) : Prop :=
  ∃ f o fd, nsIn W.K mainGlobals name = some (some (.ref f)) ∧ W.K.lookup f = some o ∧ o.data = .func fd ∧
    ∀ A s O vs, Room k A → W.ok s.heap → InDom O s.heap → RpA O s.heap vs ds → Cmp W A s O (call (.ref f) vs) d

theorem ld_global {x : Str} {p : Pos} {v : Value} {I : Led} {O : List Addr} {s : Shared} {Q E : Value → Shared → Prop} {M : Model} {A : Around} (S : Sit W c ρ I O s.heap) (e : nsIn W.K mainGlobals x = some (some v)) (h : Q v s)
    (hx : c.env.kindOf x = some .globalImplicit) (hd : (x == ("__debug__" : Str)) = false) : wpAny M A (eval (.Name x p) c.env) Q E s :=
  Name_function_global S.kind hx (loadGlobal_global (by rw [S.glob]; exact S.here.g) (mg_of S.here.K S.here.g e) h) hd
theorem ld_builtin {x : Str} {p : Pos} {v : Value} {I : Led} {O : List Addr} {s : Shared} {Q E : Value → Shared → Prop} {M : Model} {A : Around} (S : Sit W c ρ I O s.heap) (e : nsIn W.K mainGlobals x = some none) (hv : bootBuiltins x = some v) (hn : x ≠ "__name__") (h : Q v s)
    (hx : c.env.kindOf x = some .globalImplicit) (hd : (x == ("__debug__" : Str)) = false) : wpAny M A (eval (.Name x p) c.env) Q E s :=
  Name_function_global S.kind hx (loadGlobal_builtin (by rw [S.glob]; exact S.here.g) (mg_none_of S.here.K S.here.g e) (by rw [S.bins]; exact S.here.b) ((S.here.bi x hn).trans hv) h) hd

theorem ev_call {f : Str} {p pos : Pos} {e : Expr} {es : List Expr} {ds : List D} {d : D} {k : Nat} (hf : Fn W k f ds d) (hr : Room k c.A) (ha : EvL W c ρ pos (e :: es) ds)
    (hx : c.env.kindOf f = some .globalImplicit := by rfl) (hd : (f == ("__debug__" : Str)) = false := by decide)
    (he : starEach (e :: es) c.env = (false, eval e c.env) :: starEach es c.env := by rfl)
    (hc : eval (.Call (.Name f p) (e :: es) [] pos) c.env = (do callWith pos (← eval (.Name f p) c.env) [] (backTo pos (starEach (e :: es) c.env)) (backToKw pos (keywordEach [] c.env))) := by rfl) :
    Ev W c ρ (.Call (.Name f p) (e :: es) [] pos) d := by
  intro I O s S Q E h
  obtain ⟨fa, o, fd, hns, hlook, hdat, hcall⟩ := hf
  refine Call_ ?_ hc
  refine ld_global S hns ?_ hx hd
  refine callWith_def hdat ?_ he
  refine ha I O s S _ _ fun vs g tk e1 r => ⟨(S.ext e1).here.K _ _ hlook, ?_⟩
  exact hcall c.A _ O vs hr (S.ext e1).here (S.ext e1).dom r _ _ fun v g2 tk2 e2 r2 => h v g2 tk2 (e1.trans e2) r2

/-- a built-in of one name, called by its name with some arguments -/
theorem ev_builtin {f : Str} {id : String} {p pos : Pos} {e : Expr} {es : List Expr} {ds : List D} {d : D} (hns : nsIn W.K mainGlobals f = some none) (hb : bootBuiltins f = some (.builtin id)) (ha : EvL W c ρ pos (e :: es) ds)
    (hcall : ∀ s O vs, InDom O s.heap → RpA O s.heap vs ds → Cmp W c.A s O (call (.builtin id) vs) d)
    (hx : c.env.kindOf f = some .globalImplicit := by rfl) (hn : f ≠ "__name__" := by decide) (hd : (f == ("__debug__" : Str)) = false := by decide)
    (he : starEach (e :: es) c.env = (false, eval e c.env) :: starEach es c.env := by rfl) (hplain : (backTo pos (starEach es c.env)).any (·.1) = false := by rfl)
    (hc : eval (.Call (.Name f p) (e :: es) [] pos) c.env = (do callWith pos (← eval (.Name f p) c.env) [] (backTo pos (starEach (e :: es) c.env)) (backToKw pos (keywordEach [] c.env))) := by rfl) :
    Ev W c ρ (.Call (.Name f p) (e :: es) [] pos) d := by
  intro I O s S Q E h
  refine Call_ ?_ hc
  refine ld_builtin S hns hb hn ?_ hx hd
  refine PyProof.Rows.callWith_builtin1 ?_ he hplain
  refine ha I O s S _ _ fun vs g tk e1 r => ?_
  exact hcall _ O vs (S.ext e1).dom r _ _ fun v g2 tk2 e2 r2 => h v g2 tk2 (e1.trans e2) r2
theorem ev_type {f : Str} {T : String} {p pos : Pos} {e : Expr} {es : List Expr} {ds : List D} {d : D} (hns : nsIn W.K mainGlobals f = some none) (hb : bootBuiltins f = some (.type T)) (ha : EvL W c ρ pos (e :: es) ds)
    (hcall : ∀ s O vs, InDom O s.heap → RpA O s.heap vs ds → Cmp W c.A s O (call (.type T) vs) d)
    (hx : c.env.kindOf f = some .globalImplicit := by rfl) (hn : f ≠ "__name__" := by decide) (hd : (f == ("__debug__" : Str)) = false := by decide)
    (he : starEach (e :: es) c.env = (false, eval e c.env) :: starEach es c.env := by rfl) (hplain : (backTo pos (starEach es c.env)).any (·.1) = false := by rfl)
    (hc : eval (.Call (.Name f p) (e :: es) [] pos) c.env = (do callWith pos (← eval (.Name f p) c.env) [] (backTo pos (starEach (e :: es) c.env)) (backToKw pos (keywordEach [] c.env))) := by rfl) :
    Ev W c ρ (.Call (.Name f p) (e :: es) [] pos) d := by
  intro I O s S Q E h
  refine Call_ ?_ hc
  refine ld_builtin S hns hb hn ?_ hx hd
  refine Pv.callWith_type1 ?_ he hplain
  refine ha I O s S _ _ fun vs g tk e1 r => ?_
  exact hcall _ O vs (S.ext e1).dom r _ _ fun v g2 tk2 e2 r2 => h v g2 tk2 (e1.trans e2) r2

theorem lookup_nodup {α : Type} : ∀ {l : List (Str × α)} {x : Str} {v : α}, (l.map (·.1)).Nodup → (x, v) ∈ l → l.lookup x = some v
  | (y, u) :: r, x, v, hn, hm => by
    rcases List.mem_cons.mp hm with e | hm'
    · cases e; simp
    · have hne : x ≠ y := fun e => (List.nodup_cons.mp hn).1 (List.mem_map.mpr ⟨(x, v), hm', e⟩)
      have : (x == y) = false := by simpa using hne
      rw [List.lookup_cons, this]
      exact lookup_nodup (List.nodup_cons.mp hn).2 hm'

theorem zip_at {O : List Addr} {h : Heap} : ∀ {names : List Str} {vs : List Value} {ds : List D}, RpA O h vs ds → ∀ {x : Str} {sl : Sl}, (x, sl) ∈ names.zip (ds.map Sl.val) → ∃ v d, sl = .val d ∧ (x, v) ∈ names.zip vs ∧ Rp O h v d
  | [], _, _, _, _, _, hm => by simp at hm
  | n :: ns, _, _, .nil, _, _, hm => by simp at hm
  | n :: ns, _, _, .cons (v := v) (d := d) a r, x, sl, hm => by
    rw [List.map_cons, List.zip_cons_cons] at hm
    rcases List.mem_cons.mp hm with e | hm
    · cases e; exact ⟨v, d, rfl, .head _, a⟩
    · obtain ⟨v', d', e, hm', r'⟩ := zip_at r hm
      exact ⟨v', d', e, .tail _ hm', r'⟩

/-- a def's contract, by its body -/
theorem fn_intro {k : Nat} {name : Str} {ds : List D} {d : D} {f : Addr} {oc : Value} {od : Option Addr} {osl : Array (Option Value)} {fd : FuncData} {body : List Stmt} {names : List Str}
    (hns : nsIn W.K mainGlobals name = some (some (.ref f))) (hlook : W.K.lookup f = some ⟨oc, od, .func fd, osl⟩) (hcode : codeIn W.K fd.code fd.qualname = true)
    (hco : fd.scope.isCoroutine = false) (hgen : fd.scope.isGenerator = false) (hbody : fd.body = .stmts body) (hkind : fd.scope.kind = .function)
    (hglob : fd.globals = mainGlobals) (hbins : fd.builtins = builtinsNs) (hclo : fd.closure = [])
    (hnd : names.Nodup) (hlen : ds.length = names.length)
    (hbind : ∀ vs : List Value, vs.length = names.length → bindArgs fd ⟨vs, []⟩ = pure (names.zip vs))
    (hloc : ∀ x ∈ names, fd.scope.names.lookup x = some .local)
    (hcell : ∀ x ∈ fd.scope.names, x.2 ≠ .cell)
    (h : ∀ A L h₀ O₀, Room k A → Ex W { A := A, env := { scope := fd.scope, locals := L, globals := mainGlobals, cells := [], qual := fd.qualname ++ ".<locals>.", func := some f, code := fd.code, frame := some L, builtins := builtinsNs }, h₀ := h₀, O₀ := O₀ }
      (names.zip (ds.map .val)) body (.rt d)) : Fn W (k + 1) name ds d := by
  refine ⟨f, _, fd, hns, hlook, rfl, fun A s O vs hr hok hO hvs Q E hQ => ?_⟩
  have hroom : A.depth < recursionLimit := by have := hr.depth; omega
  refine wpAny_call (codeAny_call_function hroom (hok.K _ _ hlook) rfl hco hgen hbody (codeRec_of hok.K hcode) ?_)
  rw [hbind vs (hvs.length.trans hlen)]
  have hz : ∀ x ∈ names.zip vs, fd.scope.names.lookup x.1 = some .local := fun x hx => hloc _ (List.of_mem_zip hx).1
  refine wpAny_pure (wpAny_newFunctionEnv hcell hz (fun h₁ hns₁ hsb => ?_) hkind)
  have e1 : Ext s.heap h₁ := fun b o e => hsb.extBut b o (Nat.ne_of_lt (Heap.lt_size e)) (Heap.get?_push_of_some _ e)
  refine ⟨hok.nolimit.keeps e1, codeAny_func ?_⟩
  rw [hglob, hbins, hclo]
  refine h _ s.heap.objs.size s.heap O (hr.deeper) [] (s.heap.objs.size :: O) _ ?_ _ _ ?_
  · show Sit W _ _ [] _ h₁
    have hfr : s.heap.get? s.heap.objs.size = none := by
      cases q : s.heap.get? s.heap.objs.size with
      | none => rfl
      | some o => exact absurd (Heap.lt_size q) (Nat.lt_irrefl _)
    refine { ok := hok, fr := ⟨_, hns₁, fun x sl hx => ?_⟩, keep := e1, fresh := hfr, glob := rfl, bins := rfl, kind := hkind, cells := fun p hp => (nomatch hp), cellIs := fun p hp => (nomatch hp), hL := .head _, h0 := fun b hb => .tail _ hb, d0 := hO, dom := fun b hb => ?_, its := fun p hp => (nomatch hp) }
    · obtain ⟨v, d', rfl, hm, r⟩ := zip_at hvs (PySem.mem_of_lookup hx)
      refine ⟨v, ?_, ?_⟩
      · show (names.zip vs).reverse.lookup x = some v
        refine lookup_nodup ?_ (List.mem_reverse.mpr hm)
        rw [List.map_reverse]
        refine List.pairwise_reverse.mpr ?_
        show List.Pairwise (fun a b => b ≠ a) _
        have e : (names.zip vs).map (·.1) = names := by
          have := List.map_fst_zip (l₁ := names) (l₂ := vs) (by rw [hvs.length, hlen]; exact Nat.le_refl _)
          simpa using this
        rw [e]; exact hnd.imp fun h => Ne.symm h
      · refine Rp.off (Off.ofExt e1) (fun a o ha ho => ?_) r
        rcases List.mem_cons.mp ha with q | q
        · rw [q, hfr] at ho; cases ho
        · exact q
    · rcases List.mem_cons.mp hb with q | q
      · obtain ⟨o, _, _, ho, _⟩ := hns₁
        exact ⟨o, q ▸ ho⟩
      · obtain ⟨o, ho⟩ := hO b q
        exact ⟨o, e1 _ _ ho⟩
  · intro v h' tk e2 r2
    exact hQ v h' tk e2 r2
end
end Mine

/-! MLoop -/
namespace Mine
set_option maxRecDepth 100000
open PySem PySem.W PyProof.Rows PySem.Calls

section
variable {W : Wd} {c : Act} {ρ ρ' : Rho} {I : Led} {O : List Addr} {h h' : Heap}

def NotSeq (o : Obj) : Prop := o.cls ≠ .type "list" ∧ o.cls ≠ .type "tuple"

mutual
theorem Rp.but {it : Addr} {oi : Obj} (hi : h.get? it = some oi) (hn : NotSeq oi) (x : ∀ b o, b ≠ it → h.get? b = some o → h'.get? b = some o) : ∀ {v : Value} {d : D}, Rp O h v d → Rp O h' v d
  | _, _, .none => .none
  | _, _, .bool b => .bool b
  | _, _, .int i t => .int i t
  | _, _, .flt i t => .flt i t
  | _, _, .str i t => .str i t
  | _, _, .byt i t => .byt i t
  | _, _, .lst n l r => .lst n (by
      obtain ⟨k, ho⟩ := l
      exact ⟨k, x _ _ (fun e => by rw [e, hi] at ho; cases ho; exact hn.1 rfl) ho⟩) (RpA.but hi hn x r)
  | _, _, .tup n l r => .tup n (by
      obtain ⟨o, ho, hc, q⟩ := l
      exact ⟨o, x _ _ (fun e => by rw [e, hi] at ho; cases ho; exact hn.2 hc) ho, hc, q⟩) (RpA.but hi hn x r)
theorem RpA.but {it : Addr} {oi : Obj} (hi : h.get? it = some oi) (hn : NotSeq oi) (x : ∀ b o, b ≠ it → h.get? b = some o → h'.get? b = some o) : ∀ {vs : List Value} {ds : List D}, RpA O h vs ds → RpA O h' vs ds
  | _, _, .nil => .nil
  | _, _, .cons a r => .cons (Rp.but hi hn x a) (RpA.but hi hn x r)
end

/-- an iterator goes on: only its own object turns -/
theorem Sit.next {it : Addr} {oi oi' : Obj} (S : Sit W c ρ ((it, oi) :: I) O h) (hn : NotSeq oi) (x : ∀ b o, b ≠ it → h.get? b = some o → h'.get? b = some o) (hi' : h'.get? it = some oi') (h0 : c.h₀.get? it = none) (hI : ∀ p ∈ I, p.1 ≠ it) :
    Sit W c ρ ((it, oi') :: I) O h' := by
  have hit := S.its (it, oi) (.head _)
  obtain ⟨m, F, hml⟩ := S.fr
  refine { S with cellIs := cellExt0 S.cellIs fun p hp o e => x _ o (Ne.symm ((S.cells p hp).2.2 _ (.head _))) e, fr := ⟨m, F.at' fun o e => x _ o (Ne.symm hit.1) e, fun y sl hy => ?_⟩, keep := fun b o e => x b o (fun q => by rw [q, h0] at e; cases e) (S.keep b o e), cells := fun p hp => ⟨(S.cells p hp).1, (S.cells p hp).2.1, fun q hq => ?_⟩, dom := fun b hb => ?_, its := fun p hp => ?_ }
  · obtain ⟨u, b, k⟩ := hml y sl hy
    refine ⟨u, b.off fun p hp o e => x _ o (Ne.symm ((S.cells p hp).2.2 _ (.head _))) e, ?_⟩
    cases sl with
    | val d => exact Rp.but hit.2 hn x k
    | mu a ds =>
      obtain ⟨h1, h2, h3, h4, h5, h5', vs, n, h6, h7⟩ := k
      refine ⟨h1, h2, h3, h4, fun p hp => ?_, h5', vs, n, x _ _ (Ne.symm (h5 (it, oi) (.head _))) h6, RpA.but hit.2 hn x h7⟩
      rcases List.mem_cons.mp hp with e | hp
      · rw [e]; exact h5 (it, oi) (.head _)
      · exact h5 p (.tail _ hp)
  · rcases List.mem_cons.mp hq with e | hq
    · rw [e]; exact (S.cells p hp).2.2 (it, oi) (.head _)
    · exact (S.cells p hp).2.2 q (.tail _ hq)
  · obtain ⟨o, ho⟩ := S.dom b hb
    by_cases e : b = it
    · exact ⟨_, e ▸ hi'⟩
    · exact ⟨o, x b o e ho⟩
  · rcases List.mem_cons.mp hp with e | hp
    · rw [e]; exact ⟨hit.1, hi'⟩
    · exact ⟨(S.its p (.tail _ hp)).1, x _ _ (hI p hp) (S.its p (.tail _ hp)).2⟩

/-- an iterator is dropped -/
theorem Sit.dropped {it : Addr} {oi : Obj} (S : Sit W c ρ ((it, oi) :: I) O h) (hn : NotSeq oi) (x : ∀ b o, b ≠ it → h.get? b = some o → h'.get? b = some o) (h0 : c.h₀.get? it = none) (hI : ∀ p ∈ I, p.1 ≠ it) :
    Sit W c ρ I (O.filter fun b => b != it) h' := by
  have hit := S.its (it, oi) (.head _)
  obtain ⟨m, F, hml⟩ := S.fr
  have wk : ∀ b ∈ O.filter fun b => b != it, b ∈ O := fun b hb => (List.mem_filter.mp hb).1
  refine { S with cellIs := cellExt0 S.cellIs fun p hp o e => x _ o (Ne.symm ((S.cells p hp).2.2 _ (.head _))) e, fr := ⟨m, F.at' fun o e => x _ o (Ne.symm hit.1) e, fun y sl hy => ?_⟩, keep := fun b o e => x b o (fun q => by rw [q, h0] at e; cases e) (S.keep b o e), cells := fun p hp => ⟨List.mem_filter.mpr ⟨(S.cells p hp).1, by simpa using Ne.symm ((S.cells p hp).2.2 (it, oi) (.head _))⟩, (S.cells p hp).2.1, fun q hq => (S.cells p hp).2.2 q (.tail _ hq)⟩, hL := List.mem_filter.mpr ⟨S.hL, by simpa using Ne.symm hit.1⟩, h0 := fun b hb => List.mem_filter.mpr ⟨S.h0 b hb, ?_⟩, dom := fun b hb => ?_, its := fun p hp => ⟨(S.its p (.tail _ hp)).1, x _ _ (hI p hp) (S.its p (.tail _ hp)).2⟩ }
  · obtain ⟨u, b, k⟩ := hml y sl hy
    refine ⟨u, b.off fun p hp o e => x _ o (Ne.symm ((S.cells p hp).2.2 (it, oi) (.head _))) e, ?_⟩
    cases sl with
    | val d => exact Rp.weak (Rp.but hit.2 hn x k) wk
    | mu a ds =>
      obtain ⟨h1, h2, h3, h4, h5, h5', vs, n, h6, h7⟩ := k
      exact ⟨h1, List.mem_filter.mpr ⟨h2, by simpa using Ne.symm (h5 (it, oi) (.head _))⟩, h3, h4, fun p hp => h5 p (.tail _ hp), h5', vs, n, x _ _ (Ne.symm (h5 (it, oi) (.head _))) h6, RpA.weak (RpA.but hit.2 hn x h7) wk⟩
  · have : b ≠ it := fun q => by obtain ⟨o, ho⟩ := S.d0 b hb; rw [q, h0] at ho; cases ho
    simpa using this
  · obtain ⟨o, ho⟩ := S.dom b (wk b hb)
    have : b ≠ it := by simpa using (List.mem_filter.mp hb).2
    exact ⟨o, x b o this ho⟩

/-- a fresh object that stays and an old one that stays go onto the ledger -/
theorem Sit.noted {p : Addr × Obj} (S : Sit W c ρ I O h) (hp : h.get? p.1 = some p.2) (hO : p.1 ∉ O) : Sit W c ρ (p :: I) O h := by
  obtain ⟨m, F, hml⟩ := S.fr
  have hne : p.1 ≠ c.env.locals := fun e => hO (e ▸ S.hL)
  refine { S with fr := ⟨m, F, fun y sl hy => ?_⟩, cells := fun q hq => ⟨(S.cells q hq).1, (S.cells q hq).2.1, fun r hr => ?_⟩, its := fun q hq => ?_ }
  · obtain ⟨u, b, k⟩ := hml y sl hy
    refine ⟨u, b, ?_⟩
    cases sl with
    | val d => exact k
    | mu a ds =>
      refine ⟨k.1, k.2.1, k.2.2.1, k.2.2.2.1, fun q hq => ?_, k.2.2.2.2.2⟩
      rcases List.mem_cons.mp hq with e | hq
      · rw [e]; exact fun e' => hO (e' ▸ k.2.1)
      · exact k.2.2.2.2.1 q hq
  · rcases List.mem_cons.mp hr with e | hr
    · rw [e]; exact fun e' => hO (e' ▸ (S.cells q hq).1)
    · exact (S.cells q hq).2.2 r hr
  · rcases List.mem_cons.mp hq with e | hq
    · rw [e]; exact ⟨hne, hp⟩
    · exact S.its q hq
theorem Sit.notedAll (S : Sit W c ρ I O h) : ∀ {J : Led}, (∀ p ∈ J, h.get? p.1 = some p.2 ∧ p.1 ∉ O) → Sit W c ρ (J ++ I) O h
  | [], _ => S
  | p :: J, hJ => (Sit.notedAll S fun q hq => hJ q (.tail _ hq)).noted (hJ p (.head _)).1 (hJ p (.head _)).2

/-- a datum that touches no object -/
def Imm (v : Value) (d : D) : Prop := ∀ O h, Rp O h v d

/-- what is walked: its items, each of which touches no object -/
def Itr (W : Wd) (c : Act) (ρ : Rho) (e : Expr) (ds : List D) : Prop :=
  ∀ I O s, Sit W c ρ I O s.heap → ∀ (Q E : Value → Shared → Prop),
    (∀ (it : Addr) (fp : List Addr) (J : Led) (P : Nat → Value → Prop) (St : Nat → Heap → Prop) (h' : Heap) (tk : Nat), Walks W.prog W.w c.A it fp [it] ds.length P St → St 0 h' → Ext s.heap h' → s.heap.get? it = none → (∀ i g, St i g → ∃ o, g.get? it = some o ∧ NotSeq o) →
      (∀ b ∈ fp, b = it ∨ ∃ o, (b, o) ∈ J) → (∀ p ∈ J, h'.get? p.1 = some p.2 ∧ p.1 ∉ O ∧ p.1 ≠ it) → (∀ i v, P i v → ∃ d, ds[i]? = some d ∧ Imm v d) → Q (.ref it) { s with heap := h', toks := tk }) →
    wpAny (model W.prog W.w) c.A (eval e c.env) (fun x s₁ => wpAny (model W.prog W.w) c.A (pyIter x) Q E s₁) E s

/-- a name that a loop stores -/
def Stores (W : Wd) (c : Act) (x : Str) (ok : Rho → Prop) : Prop :=
  ∀ ρ I O s v d (Q : Unit → Shared → Prop) (E : Value → Shared → Prop), ok ρ → Sit W c ρ I O s.heap → Rp O s.heap v d → (∀ h' tk, Sit W c (setR ρ x (.val d)) I O h' → Q () { s with heap := h', toks := tk }) →
    wpAny (model W.prog W.w) c.A (storeName c.env x v) Q E s
theorem stores_local {x : Str} (hl : c.env.kindOf x = some .local) (hc : c.env.cells.lookup x = none) : Stores W c x (fun _ => True) :=
  fun ρ I O s v d Q E _ S r hQ => st_store S r (fun h' S' => hQ h' _ S') hl hc

theorem ex_for_gen {x : Str} {px pos : Pos} {iter : Expr} {body rest : List Stmt} {o : Out} {ds : List D} (ok : Rho → Prop) (hst : Stores W c x ok) (hi : Itr W c ρ iter ds) (Inv : Nat → Rho → Prop) (h0 : Inv 0 ρ) (hok : ∀ i ρi, Inv i ρi → ok ρi)
    (step : ∀ i d ρi, ds[i]? = some d → Inv i ρi → ∃ o', Ex W c (setR ρi x (.val d)) body o' ∧ match o' with | .nx ρ' => Inv (i + 1) ρ' | .bk ρ' => Ex W c ρ' rest o | .rt d' => o = .rt d')
    (done : ∀ ρ', Inv ds.length ρ' → Ex W c ρ' rest o)
    (hs : ∀ v, foldedSetIterable iter c.env v = pure v) : Ex W c ρ (.For (.Name x px) iter body [] pos :: rest) o := by
  intro I O s S Q E hQ
  refine wpAny_execs_cons (wpAny_For ?_ hs)
  refine hi I O s S _ _ fun it fp J P St h1 tk1 Wk hst0 e1 hnew hnseq hfp hJ hP => ?_
  have S1 : Sit W c ρ I O h1 := S.ext e1
  have hitO : it ∉ O := S.dom.freshOf hnew
  have h0it : c.h₀.get? it = none := by
    cases q : c.h₀.get? it with
    | none => rfl
    | some o => have := S.keep _ _ q; rw [hnew] at this; cases this
  obtain ⟨oi, hoi, hseq⟩ := hnseq 0 h1 hst0
  have S2 : Sit W c ρ ((it, oi) :: (J ++ I)) O h1 := (S1.notedAll fun p hp => ⟨(hJ p hp).1, (hJ p hp).2.1⟩).noted hoi hitO
  have hne : ∀ p ∈ J ++ I, p.1 ≠ it := fun p hp => by
    rcases List.mem_append.mp hp with hp | hp
    · exact (hJ p hp).2.2
    · intro e
      have := (S.its p hp).2
      rw [e, hnew] at this; cases this
  -- the loop
  let Jn : Nat → Shared → Prop := fun n s' => ∃ i g tk ρi O' og, s' = { s with heap := g, toks := tk } ∧ i ≤ ds.length ∧ n = ds.length - i ∧ Inv i ρi ∧ St i g ∧ NotSeq og ∧ Sit W c ρi ((it, og) :: (J ++ I)) O' g
  refine codeAny_forLoop_any Jn ?_ ds.length ⟨0, h1, tk1, ρ, O, oi, rfl, Nat.zero_le _, rfl, h0, hst0, hseq, S2⟩
  rintro n s' ⟨i, g, tk, ρi, O', og, rfl, hle, rfl, hinv, hsti, hog, Si⟩
  by_cases hlt : i < ds.length
  · refine Wk.item i _ _ _ hlt hsti fun v g1 tk2 hPv hst1 hk => ?_
    obtain ⟨d, hd, himm⟩ := hP i v hPv
    obtain ⟨og1, hog1, hseq1⟩ := hnseq _ _ hst1
    have S3 : Sit W c ρi ((it, og1) :: (J ++ I)) O' g1 := Si.next hog (fun b o hb e => hk b o (by simpa using hb) e) hog1 h0it hne
    show wpAny _ _ (letOwnedTupleGo (.Name x px) (.ref it) v) _ _ _
    refine wpAny_pure ?_
    refine wpAny_assign_Name (hst ρi _ O' _ v d _ _ (hok i ρi hinv) S3 (himm _ _) fun g2 tk3 S4 => ?_)
    obtain ⟨o', hex, hpost⟩ := step i d ρi hd hinv
    refine hex _ O' _ S4 _ _ ?_
    cases o' with
    | nx ρ' =>
      intro g3 tk4 O'' S5
      refine ⟨ds.length - (i + 1), by omega, i + 1, g3, tk4, ρ', O'', og1, rfl, hlt, rfl, hpost, ?_, hseq1, S5⟩
      refine Wk.frame _ _ _ hst1 fun b hb o e => ?_
      rcases hfp b hb with q | ⟨o2, q⟩
      · rw [q] at e ⊢
        rw [hog1] at e; cases e
        exact (S5.its _ (.head _)).2
      · have a1 := (S3.its (b, o2) (.tail _ (List.mem_append.mpr (.inl q)))).2
        have a2 := (S5.its (b, o2) (.tail _ (List.mem_append.mpr (.inl q)))).2
        rw [a1] at e; cases e
        exact a2
    | bk ρ' =>
      intro g3 tk4 O'' S5
      exact hpost I O'' _ (S5.led fun p hp => .tail _ (List.mem_append.mpr (.inr hp))) Q E (hQ.at _ _)
    | rt d' =>
      subst hpost
      intro v' g3 tk4 e3 r3
      exact hQ v' g3 tk4 e3 r3
  · have hie : i = ds.length := by omega
    subst hie
    refine Wk.done _ _ _ hsti fun g1 tk2 hk => ?_
    refine wpAny_execs_nil ?_
    have S6 := Si.dropped (h' := g1) hog (fun b o hb e => hk b o (by simpa using hb) e) h0it hne
    exact done ρi hinv I _ _ (S6.led fun p hp => List.mem_append.mpr (.inr hp)) Q E (hQ.at _ _)
end
end Mine

/-! MComp -/
namespace Mine
set_option maxRecDepth 100000
open PySem PySem.W PyProof.Rows PySem.Calls

def D.imm : D → Bool
  | .lst _ | .tup _ => false
  | _ => true
theorem Rp.toImm {O : List Addr} {h : Heap} {v : Value} {d : D} (r : Rp O h v d) (hi : d.imm = true) : Imm v d := by
  intro O' h'
  cases r with
  | none => exact .none
  | bool b => exact .bool b
  | int i t => exact .int i t
  | flt i t => exact .flt i t
  | str i t => exact .str i t
  | byt i t => exact .byt i t
  | lst => cases hi
  | tup => cases hi
def toD : Value → D
  | .bool b => .bool b
  | .int i _ => .int i
  | .float b _ => .flt b
  | .str x _ => .str x
  | .bytes b _ => .byt b
  | _ => .none
theorem Imm.toD {v : Value} {d : D} (h : Imm v d) : toD v = d := by
  have r := h [] {}
  cases r with
  | none => rfl
  | bool b => rfl
  | int i t => rfl
  | flt i t => rfl
  | str i t => rfl
  | byt i t => rfl
  | lst hO hp _ => obtain ⟨n, e⟩ := hp; exact absurd e (by simp [Heap.get?])
  | tup hO hp _ => obtain ⟨o, e, _⟩ := hp; exact absurd e (by simp [Heap.get?])

section
variable {W : Wd} {c : Act} {ρ ρ' : Rho}

theorem itr_list {e : Expr} {ds : List D} (h1 : Ev W c ρ e (.lst ds)) (himm : ∀ d ∈ ds, d.imm = true) (hr : Room 0 c.A) : Itr W c ρ e ds := by
  intro I O s S Q E hQ
  refine h1 I O s S _ _ fun v g tk e1 r => ?_
  cases r with
  | lst hO hp hrs =>
    rename_i a vs
    obtain ⟨n, ha⟩ := hp
    have hlt := Heap.lt_size ha
    refine wpAny_pyIter_list (items := vs.toArray) ⟨_, ha, rfl, n, rfl⟩ ?_
    have Wk := Walks.list (prog := W.prog) (w := W.w) hr.handled g.objs.size a (Nat.ne_of_lt hlt) vs.toArray
    have hlen : vs.toArray.size = ds.length := by rw [List.size_toArray, hrs.length]
    rw [hlen] at Wk
    have up := Ext.push g { cls := Value.type "list_iterator", data := Data.fields #[Value.ref a, Value.int 0 0] }
    have hnew : s.heap.get? g.objs.size = none := by
      cases q : s.heap.get? g.objs.size with
      | none => rfl
      | some o => exact absurd (Heap.lt_size (e1 _ _ q)) (Nat.lt_irrefl _)
    refine hQ g.objs.size _ [(a, { cls := .type "list", data := .seq vs.toArray n })] _ _ _ _ Wk ⟨⟨_, Heap.get?_push_size _ rfl, rfl, rfl⟩, ⟨_, up _ _ ha, rfl, n, rfl⟩⟩ (e1.trans up) hnew ?_ ?_ ?_ ?_
    · rintro i h ⟨⟨o, ho, hc, _⟩, _⟩
      exact ⟨o, ho, by rw [hc]; decide, by rw [hc]; decide⟩
    · intro b hb
      rcases List.mem_cons.mp hb with q | q
      · exact .inl q
      · exact .inr ⟨_, by rw [List.mem_singleton.mp q]; exact .head _⟩
    · intro p hp
      rw [List.mem_singleton.mp hp]
      exact ⟨up _ _ ha, hO, Nat.ne_of_lt hlt⟩
    · intro i v hv
      have hv' : vs[i]? = some v := by simpa using hv
      obtain ⟨d, hd, r⟩ := hrs.getv hv'
      exact ⟨d, hd, r.toImm (himm d (List.mem_of_getElem? hd))⟩

theorem itr_tuple {e : Expr} {ds : List D} (h1 : Ev W c ρ e (.tup ds)) (himm : ∀ d ∈ ds, d.imm = true) (hr : Room 0 c.A) : Itr W c ρ e ds := by
  intro I O s S Q E hQ
  refine h1 I O s S _ _ fun v g tk e1 r => ?_
  cases r with
  | tup hO hp hrs =>
    rename_i a vs
    obtain ⟨o, ha, hcl, n, hdt⟩ := id hp
    have hlt := Heap.lt_size ha
    refine wpAny_pyIter_tuple (items := vs.toArray) hp ?_
    have Wk := Walks.tuple (prog := W.prog) (w := W.w) hr.handled g.objs.size a (Nat.ne_of_lt hlt) vs.toArray
    have hlen : vs.toArray.size = ds.length := by rw [List.size_toArray, hrs.length]
    rw [hlen] at Wk
    have up := Ext.push g { cls := Value.type "tuple_iterator", data := Data.fields #[Value.ref a, Value.int 0 0] }
    have hnew : s.heap.get? g.objs.size = none := by
      cases q : s.heap.get? g.objs.size with
      | none => rfl
      | some o => exact absurd (Heap.lt_size (e1 _ _ q)) (Nat.lt_irrefl _)
    refine hQ g.objs.size _ [(a, o)] _ _ _ _ Wk ⟨⟨_, Heap.get?_push_size _ rfl, rfl, rfl⟩, ⟨_, up _ _ ha, hcl, n, hdt⟩⟩ (e1.trans up) hnew ?_ ?_ ?_ ?_
    · rintro i h ⟨⟨o, ho, hc, _⟩, _⟩
      exact ⟨o, ho, by rw [hc]; decide, by rw [hc]; decide⟩
    · intro b hb
      rcases List.mem_cons.mp hb with q | q
      · exact .inl q
      · exact .inr ⟨_, by rw [List.mem_singleton.mp q]; exact .head _⟩
    · intro p hp
      rw [List.mem_singleton.mp hp]
      exact ⟨up _ _ ha, hO, Nat.ne_of_lt hlt⟩
    · intro i v hv
      have hv' : vs[i]? = some v := by simpa using hv
      obtain ⟨d, hd, r⟩ := hrs.getv hv'
      exact ⟨d, hd, r.toImm (himm d (List.mem_of_getElem? hd))⟩

def rangeD (a : Int) (n : Nat) : List D := (List.range n).map fun (i : Nat) => D.int (a + (i : Int))
theorem rangeD_length (a : Int) (n : Nat) : (rangeD a n).length = n := by simp [rangeD]
theorem rangeD_get {a : Int} {n i : Nat} {d : D} (h : (rangeD a n)[i]? = some d) : i < n ∧ d = .int (a + i) := by
  unfold rangeD at h
  rw [List.getElem?_map] at h
  by_cases hi : i < n
  · rw [List.getElem?_range hi] at h; simp at h; exact ⟨hi, h.symm⟩
  · rw [List.getElem?_eq_none (by simpa using hi)] at h; simp at h

theorem itr_range_at {v : Value} {a b : Int} {n : Nat} {r : Addr} {t u w : Tok} {s : Shared} {g : Heap} {tk : Nat} {Q E : Value → Shared → Prop} {O : List Addr} (hr : Room 0 c.A)
    (ha : -(2 ^ 62) ≤ a) (ha' : a < 2 ^ 62) (hb : -(2 ^ 62) ≤ b) (hb' : b < 2 ^ 62) (hn : (n : Int) = if a < b then b - a else 0) (e1 : Ext s.heap g) (hrg : IsRange g r a b 1 t u w)
    (hQ : ∀ (it : Addr) (fp : List Addr) (J : Led) (P : Nat → Value → Prop) (St : Nat → Heap → Prop) (h' : Heap) (tk : Nat), Walks W.prog W.w c.A it fp [it] (rangeD a n).length P St → St 0 h' → Ext s.heap h' → s.heap.get? it = none → (∀ i g, St i g → ∃ o, g.get? it = some o ∧ NotSeq o) →
      (∀ b ∈ fp, b = it ∨ ∃ o, (b, o) ∈ J) → (∀ p ∈ J, h'.get? p.1 = some p.2 ∧ p.1 ∉ O ∧ p.1 ≠ it) → (∀ i v, P i v → ∃ d, (rangeD a n)[i]? = some d ∧ Imm v d) → Q (.ref it) { s with heap := h', toks := tk }) :
    wpAny (model W.prog W.w) c.A (pyIter (.ref r)) Q E { s with heap := g, toks := tk } := by
  refine wpAny_pyIter_range hrg (small_one ha ha' hb hb') ?_
  rw [rangeSize_one, ← hn]
  have Wk : Walks W.prog W.w c.A g.objs.size [g.objs.size] [g.objs.size] n (fun i v => i < n ∧ ∃ t, v = .int (a + i * 1) t)
      (fun i h => IsRangeIter h g.objs.size (a + (i : Nat) * 1) ((n : Int) - (i : Nat)) 1) := (Walks.range hr.handled _ a 1 n).bound
  have hnew : s.heap.get? g.objs.size = none := by
    cases q : s.heap.get? g.objs.size with
    | none => rfl
    | some o => exact absurd (Heap.lt_size (e1 _ _ q)) (Nat.lt_irrefl _)
  refine hQ g.objs.size _ [] _ _ _ _ (by rw [rangeD_length]; exact Wk) ?_ (e1.trans (Ext.push _ _)) hnew ?_ ?_ ?_ ?_
  · show Heap.get? _ _ = _
    rw [Heap.get?_push_size _ rfl]; simp
  · rintro i h hi
    exact ⟨_, hi, (show (Value.type "range_iterator") ≠ .type "list" by decide), (show (Value.type "range_iterator") ≠ .type "tuple" by decide)⟩
  · intro b hb
    exact .inl (List.mem_singleton.mp hb)
  · intro p hp; cases hp
  · rintro i v ⟨hi, t, rfl⟩
    refine ⟨.int (a + i), ?_, fun O h => ?_⟩
    · unfold rangeD; rw [List.getElem?_map, List.getElem?_range hi]; rfl
    · have e : a + (i : Int) * 1 = a + i := by omega
      rw [e]; exact .int _ _

theorem itr_range1 {p pos : Pos} {e : Expr} {b : Int} {n : Nat} (hns : nsIn W.K mainGlobals (Str.ofString "range") = some none) (h1 : EvL W c ρ pos [e] [.int b]) (hr : Room 0 c.A)
    (hb : -(2 ^ 62) ≤ b) (hb' : b < 2 ^ 62) (hn : n = b.toNat)
    (hx : c.env.kindOf (Str.ofString "range") = some .globalImplicit := by rfl)
    (he : starEach [e] c.env = (false, eval e c.env) :: starEach [] c.env := by rfl) (hplain : (backTo pos (starEach [] c.env)).any (·.1) = false := by rfl)
    (hc : eval (.Call (.Name (Str.ofString "range") p) [e] [] pos) c.env = (do callWith pos (← eval (.Name (Str.ofString "range") p) c.env) [] (backTo pos (starEach [e] c.env)) (backToKw pos (keywordEach [] c.env))) := by rfl) :
    Itr W c ρ (.Call (.Name (Str.ofString "range") p) [e] [] pos) (rangeD 0 n) := by
  intro I O s S Q E hQ
  refine Call_ ?_ hc
  refine ld_builtin S hns boot_range (by decide) ?_ hx (by decide)
  refine Pv.callWith_type1 ?_ he hplain
  refine h1 I O s S _ _ fun vs g tk e1 r => ?_
  cases r with
  | cons r1 r2 =>
    cases r2; cases r1
    refine call_range_1 ?_
    refine itr_range_at (W := W) (c := c) (v := .none) (s := s) hr (a := 0) (b := b) (by decide) (by decide) hb hb' ?_ (e1.trans (Ext.push _ _)) (IsRange.new ..) hQ
    rw [hn]; split <;> omega
theorem itr_range2 {p pos : Pos} {e e2 : Expr} {a b : Int} {n : Nat} (hns : nsIn W.K mainGlobals (Str.ofString "range") = some none) (h1 : EvL W c ρ pos [e, e2] [.int a, .int b]) (hr : Room 0 c.A)
    (ha : -(2 ^ 62) ≤ a) (ha' : a < 2 ^ 62) (hb : -(2 ^ 62) ≤ b) (hb' : b < 2 ^ 62) (hn : n = (b - a).toNat)
    (hx : c.env.kindOf (Str.ofString "range") = some .globalImplicit := by rfl)
    (he : starEach [e, e2] c.env = (false, eval e c.env) :: starEach [e2] c.env := by rfl) (hplain : (backTo pos (starEach [e2] c.env)).any (·.1) = false := by rfl)
    (hc : eval (.Call (.Name (Str.ofString "range") p) [e, e2] [] pos) c.env = (do callWith pos (← eval (.Name (Str.ofString "range") p) c.env) [] (backTo pos (starEach [e, e2] c.env)) (backToKw pos (keywordEach [] c.env))) := by rfl) :
    Itr W c ρ (.Call (.Name (Str.ofString "range") p) [e, e2] [] pos) (rangeD a n) := by
  intro I O s S Q E hQ
  refine Call_ ?_ hc
  refine ld_builtin S hns boot_range (by decide) ?_ hx (by decide)
  refine Pv.callWith_type1 ?_ he hplain
  refine h1 I O s S _ _ fun vs g tk e1 r => ?_
  cases r with
  | cons r1 r2 =>
    cases r2 with
    | cons r2 r3 =>
      cases r3; cases r1; cases r2
      refine call_range_2 ?_
      refine itr_range_at (W := W) (c := c) (v := .none) (s := s) hr ha ha' hb hb' ?_ (e1.trans (Ext.push _ _)) (IsRange.new ..) hQ
      rw [hn]; split <;> omega

/-- the block of a comprehension -/
@[reducible] def compAct (c : Act) (scope : Scope) (cl : List (Str × Addr)) (C : Addr) (h₀ : Heap) (O₀ : List Addr) : Act := { A := c.A, env := compEnvC scope cl C c.env, h₀ := h₀, O₀ := O₀ }

def TrL (W : Wd) (c : Act) (ρ : Rho) : List Expr → Bool → Prop
  | [], b => b = true
  | [e], b => Tr W c ρ e b
  | _, _ => False

/-- a comprehension's parts -/
structure CompOk (W : Wd) (c : Act) (ρ : Rho) (elt iter : Expr) (x : Str) (ifs : List Expr) (scope : Scope) (cl : List (Str × Addr)) (ρc : Rho) (ds : List D) (p : D → Bool) (f : D → D) : Prop where
  iter : Itr W c ρ iter ds
  clos : closureFor scope c.env = pure cl
  cell : ∀ y ∈ scope.names, y.2 ≠ .cell
  kind : scope.kind = .function
  names : ∀ y ∈ scope.names, y.2 = .local → scope.names.lookup y.1 = some .local
  hx : scope.names.lookup x = some .local
  hxc : cl.lookup x = none
  hcl : ∀ q ∈ cl, q ∈ c.env.cells
  hρc : ∀ y sl, ρc.lookup y = some sl → y ≠ x ∧ ρ.lookup y = some sl ∧ (∃ d, sl = .val d) ∧ ∃ ca, cl.lookup y = some ca ∧ c.env.cells.lookup y = some ca
  size : ds.length ≤ sizeLine
  tests : ∀ C h₀ O₀ d, d ∈ ds → TrL W (compAct c scope cl C h₀ O₀) ((x, .val d) :: ρc) ifs (p d)
  elt : ∀ C h₀ O₀ d, d ∈ ds → p d = true → Ev W (compAct c scope cl C h₀ O₀) ((x, .val d) :: ρc) elt (f d)
  imm : ∀ d ∈ ds, p d = true → (f d).imm = true

theorem comp_sit {elt iter : Expr} {x : Str} {ifs : List Expr} {scope : Scope} {cl : List (Str × Addr)} {ρc : Rho} {ds : List D} {p : D → Bool} {f : D → D} (H : CompOk W c ρ elt iter x ifs scope cl ρc ds p f)
    {I : Led} {O : List Addr} {h h2 h3 : Heap} (S : Sit W c ρ I O h) {C : Addr} {m3 : Str → Option Value} {v : Value} {d : D} (hC : h2.objs.size ≤ C) (e2 : Ext h h2) (e3 : Ext h h3) (hn : h3.Ns C m3) (hm : m3 x = some v) (hv : Imm v d) :
    Sit W (compAct c scope cl C h O) ((x, .val d) :: ρc) [] (C :: O) h3 := by
  have hfr : h.get? C = none := by
    cases q : h.get? C with
    | none => rfl
    | some o => exact absurd (Heap.lt_size (e2 _ _ q)) (Nat.not_lt.mpr hC)
  have hCO : C ∉ O := S.dom.freshOf hfr
  obtain ⟨m, F, hml⟩ := S.fr
  refine { ok := S.here, fr := ⟨m3, hn, fun y sl hy => ?_⟩, keep := e3, fresh := hfr, glob := S.glob, bins := S.bins, kind := H.kind, cells := fun q hq => ⟨.tail _ (S.cells q (H.hcl q hq)).1, fun e => hCO ((show q.2 = C from e) ▸ (S.cells q (H.hcl q hq)).1), fun r hr => (nomatch hr)⟩, cellIs := fun q hq => let ⟨v, o, ho, r⟩ := S.cellIs q (H.hcl q hq); ⟨v, o, e3 _ _ ho, r⟩, hL := .head _, h0 := fun b hb => .tail _ hb, d0 := S.dom, dom := fun b hb => ?_, its := fun q hq => (nomatch hq) }
  · rw [List.lookup_cons] at hy
    by_cases e : (y == x) = true
    · rw [e] at hy
      have e' : y = x := by simpa using e
      cases hy
      refine ⟨v, ?_, hv _ _⟩
      unfold Bears
      show match cl.lookup y with | some ca => _ | none => _
      rw [e', H.hxc]; exact hm
    · have e' : (y == x) = false := by simpa using e
      rw [e'] at hy
      obtain ⟨_, h2', ⟨d', rfl⟩, ca, h3', h4'⟩ := H.hρc y sl hy
      obtain ⟨u, b, k⟩ := hml y _ h2'
      refine ⟨u, ?_, Rp.off (Off.ofExt e3) (fun a o ha ho => ?_) k⟩
      · unfold Bears at b ⊢
        rw [h4'] at b
        show match cl.lookup y with | some ca => _ | none => _
        rw [h3']
        exact cellExt b fun o e => e3 _ o e
      · rcases List.mem_cons.mp ha with q | q
        · rw [q, hfr] at ho; cases ho
        · exact q
  · rcases List.mem_cons.mp hb with q | q
    · obtain ⟨o, _, _, ho, _⟩ := hn
      exact ⟨o, q ▸ ho⟩
    · obtain ⟨o, ho⟩ := S.dom b q
      exact ⟨o, e3 _ _ ho⟩

theorem comp_quiet {elt iter : Expr} {x : Str} {ifs : List Expr} {scope : Scope} {cl : List (Str × Addr)} {ρc : Rho} {ds : List D} {p : D → Bool} {f : D → D} (H : CompOk W c ρ elt iter x ifs scope cl ρc ds p f)
    {I : Led} {O : List Addr} {s s2 : Shared} (S : Sit W c ρ I O s.heap) {it : Addr} {P : Nat → Value → Prop} (e2 : Ext s.heap s2.heap) (hit : s.heap.get? it = none) (hP : ∀ i v, P i v → ∃ d, ds[i]? = some d ∧ Imm v d) :
    QuietOnC W.prog W.w c.A c.env scope cl x ifs elt [it] P (fun v => p (toD v)) (fun v y => Imm y (f (toD v))) s2 := by
  refine ⟨fun C i v s3 m3 E' hC hPv hn hm hk _ => ?_, fun C i v s3 m3 E' hC hPv hpv hn hm hk _ => ?_⟩
  · obtain ⟨d, hd, himm⟩ := hP i v hPv
    have e3 : Ext s.heap s3.heap := fun b o e => hk b o (fun q => by rw [List.mem_singleton.mp q, hit] at e; cases e) (e2 b o e)
    have S3 := comp_sit H S hC e2 e3 hn hm himm
    have ht := H.tests C s.heap O d (List.mem_of_getElem? hd)
    rw [himm.toD]
    match ifs, ht with
    | [], ht =>
      refine wpAny_tests_nil ⟨?_, _, _, rfl, fun _ _ e => e⟩
      exact Eq.symm ht
    | [e], ht =>
      exact wpAny_tests_one (ht _ _ s3 S3 _ _ fun h' tk e => ⟨rfl, h', tk, rfl, e⟩)
    | _ :: _ :: _, ht => exact ht.elim
  · obtain ⟨d, hd, himm⟩ := hP i v hPv
    have e3 : Ext s.heap s3.heap := fun b o e => hk b o (fun q => by rw [List.mem_singleton.mp q, hit] at e; cases e) (e2 b o e)
    have S3 := comp_sit H S hC e2 e3 hn hm himm
    rw [himm.toD] at hpv
    have hd' := List.mem_of_getElem? hd
    exact H.elt C s.heap O d hd' hpv _ _ s3 S3 _ _ fun y h' tk e r => ⟨by rw [himm.toD]; exact r.toImm (H.imm d hd' hpv), h', tk, rfl, e⟩

theorem paired_rp {O : List Addr} {h : Heap} {f : D → D} : ∀ {vs ys : List Value}, Paired (fun v y => Imm y (f (toD v))) vs ys → RpA O h ys ((vs.map toD).map f)
  | _, _, .nil => .nil
  | _, _, .cons a r => .cons (a _ _) (paired_rp r)
theorem map_toD {ds : List D} {P : Nat → Value → Prop} (hP : ∀ i v, P i v → ∃ d, ds[i]? = some d ∧ Imm v d) {vs : List Value} (hlen : vs.length = ds.length) (hv : ∀ j v, vs[j]? = some v → P j v) : vs.map toD = ds := by
  refine List.ext_getElem? fun i => ?_
  rw [List.getElem?_map]
  cases q : vs[i]? with
  | none =>
    have : ds.length ≤ i := by rw [← hlen]; simpa using q
    rw [List.getElem?_eq_none this]; rfl
  | some v =>
    obtain ⟨d, hd, himm⟩ := hP i v (hv i v q)
    rw [hd]; simp [himm.toD]
theorem filter_toD {p : D → Bool} (vs : List Value) : (vs.filter fun v => p (toD v)).map toD = (vs.map toD).filter p := by
  induction vs with
  | nil => rfl
  | cons v vs ih =>
    simp only [List.filter_cons, List.map_cons]
    split
    · rw [List.map_cons, ih]
    · exact ih

theorem ev_comp {elt iter : Expr} {x : Str} {px : Pos} {ifs : List Expr} {scope : Scope} {cl : List (Str × Addr)} {ρc : Rho} {ds : List D} {pos : Pos} (p : D → Bool) (f : D → D) (H : CompOk W c ρ elt iter x ifs scope cl ρc ds p f)
    (hs : ∀ v, foldedSetIterable iter c.env v = pure v) : Ev W c ρ (.ListComp elt [⟨.Name x px, iter, ifs, 0⟩] scope pos) (.lst ((ds.filter p).map f)) := by
  intro I O s S Q E hQ
  refine wpAny_ListComp_free (fun v => p (toD v)) (fun v y => Imm y (f (toD v))) H.clos H.cell H.kind H.names H.hx (H.iter I O s S _ _ ?_) hs
  intro it fp J P St h1 tk1 Wk hst0 e1 hnew hnseq hfp hJ hP
  obtain ⟨oi, hoi, hseq⟩ := hnseq 0 h1 hst0
  refine ⟨it, fp, [it], ds.length, P, St, rfl, Wk, H.size, hst0, fun b hb => ?_, comp_quiet H S e1 hnew hP, fun D' h' tk ys vs hD hl hpl hlen hPv hpair hk => ?_⟩
  · rcases hfp b hb with q | ⟨o, q⟩
    · rw [q]; exact Heap.lt_size hoi
    · exact Heap.lt_size (hJ (b, o) q).1
  · have e3 : Ext s.heap h' := fun b o e => hk b o (fun q => by rw [List.mem_singleton.mp q, hnew] at e; cases e) (e1 b o e)
    have hDO : D' ∉ O := fun q => by
      obtain ⟨o, ho⟩ := S.dom _ q
      have := e1 _ _ ho
      rw [hD] at this; cases this
    refine hQ _ h' tk e3 (.lst (vs := ys.toList) hDO (by simpa using hpl) ?_)
    have hr := paired_rp (O := O) (h := h') (f := f) hpair
    rw [filter_toD, map_toD hP hlen hPv] at hr
    exact hr

theorem ex_assign_comp {elt iter : Expr} {x y : Str} {px py : Pos} {ifs : List Expr} {scope : Scope} {cl : List (Str × Addr)} {ρc : Rho} {ds : List D} {pos spos : Pos} {rest : List Stmt} {o : Out} (p : D → Bool) (f : D → D) (H : CompOk W c ρ elt iter x ifs scope cl ρc ds p f)
    (hρ : setR ρ y (.val (.lst ((ds.filter p).map f))) = ρ') (h2 : Ex W c ρ' rest o)
    (hs : ∀ v, foldedSetIterable iter c.env v = pure v)
    (hsw : swapsWith (.ListComp elt [⟨.Name x px, iter, ifs, 0⟩] scope pos) (some (.Name y py)) spos.line c.env = pure true)
    (hy : c.env.kindOf y = some .local := by rfl) (hc : c.env.cells.lookup y = none := by rfl) :
    Ex W c ρ (.Assign [.Name y py] (.ListComp elt [⟨.Name x px, iter, ifs, 0⟩] scope pos) spos :: rest) o := by
  subst hρ
  intro I O s S Q E hQ
  refine wpAny_execs_cons (wpAny_Assign_ListComp_free (fun v => p (toD v)) (fun v y => Imm y (f (toD v))) hsw H.clos H.cell H.kind H.names H.hx hy (by rw [S.kind]; rfl) (H.iter I O s S _ _ ?_) hs)
  intro it fp J P St h1 tk1 Wk hst0 e1 hnew hnseq hfp hJ hP
  obtain ⟨oi, hoi, hseq⟩ := hnseq 0 h1 hst0
  obtain ⟨m, F, hml⟩ := S.fr
  have hLit : c.env.locals ≠ it := fun q => by obtain ⟨o, ho⟩ := S.dom _ S.hL; rw [q, hnew] at ho; cases ho
  refine ⟨it, fp, [it], ds.length, P, St, m, rfl, Wk, H.size, hst0, fun b hb => ?_, fun q => hLit (List.mem_singleton.mp q), F.keeps e1, comp_quiet H S e1 hnew hP, fun D' h' tk ys vs hD hl hpl hlen hPv hpair hn' hk => ?_⟩
  · rcases hfp b hb with q | ⟨o, q⟩
    · rw [q]; exact Heap.lt_size hoi
    · exact Heap.lt_size (hJ (b, o) q).1
  · have e3 : Heap.ExtBut c.env.locals s.heap h' := fun b o hb e => hk b o hb (fun q => by rw [List.mem_singleton.mp q, hnew] at e; cases e) (e1 b o e)
    have hDO : D' ∉ O := fun q => by
      obtain ⟨o, ho⟩ := S.dom _ q
      have := e1 _ _ ho
      rw [hD] at this; cases this
    have hr := paired_rp (O := O) (h := h') (f := f) hpair
    rw [filter_toD, map_toD hP hlen hPv] at hr
    exact h2 I O _ (S.stored F hml hc (.lst (vs := ys.toList) hDO (by simpa using hpl) hr) hn' e3) Q E (hQ.at _ _)
end
end Mine

/-! MOps -/
namespace Mine
set_option maxRecDepth 100000
open PySem PySem.W PyProof.Rows PySem.Calls PySem.Flt

def Bop (W : Wd) (A : Around) (op : Operator) (d1 d2 d : D) : Prop := ∀ O s v1 v2, InDom O s.heap → Rp O s.heap v1 d1 → Rp O s.heap v2 d2 → Cmp W A s O (binaryOp op v1 v2) d
def Cop (W : Wd) (A : Around) (op : CmpOp) (d1 d2 d : D) : Prop := ∀ O s v1 v2, InDom O s.heap → Rp O s.heap v1 d1 → Rp O s.heap v2 d2 → Cmp W A s O (compareOp op v1 v2) d
def Iop (W : Wd) (A : Around) (op : Operator) (d1 d2 d : D) : Prop := ∀ O s v1 v2, InDom O s.heap → Rp O s.heap v1 d1 → Rp O s.heap v2 d2 → Cmp W A s O (inplaceOp op v1 v2) d
def Uop (W : Wd) (A : Around) (op : UnaryOp) (d1 d : D) : Prop := ∀ O s v1, InDom O s.heap → Rp O s.heap v1 d1 → Cmp W A s O (unaryOp op v1) d
def Cal (W : Wd) (A : Around) (f : Value) (ds : List D) (d : D) : Prop := ∀ s O vs, InDom O s.heap → RpA O s.heap vs ds → Cmp W A s O (call f vs) d

section
variable {W : Wd} {A : Around} {a b : Int} {x y : UInt64}
theorem b_add_ii : Bop W A .Add (.int a) (.int b) (.int (a + b)) := by
  intro O s v1 v2 _ r1 r2 Q E h; cases r1; cases r2; exact add_int (h _ _ _ (Ext.refl _) (.int _ _))
theorem b_sub_ii : Bop W A .Sub (.int a) (.int b) (.int (a - b)) := by
  intro O s v1 v2 _ r1 r2 Q E h; cases r1; cases r2; exact sub_int (h _ _ _ (Ext.refl _) (.int _ _))
theorem b_mod_ii (hb : b ≠ 0) : Bop W A .Mod (.int a) (.int b) (.int (a.fmod b)) := by
  intro O s v1 v2 _ r1 r2 Q E h; cases r1; cases r2; exact mod_int' hb (h _ _ _ (Ext.refl _) (.int _ _))
theorem b_fdiv_ii (hb : b ≠ 0) (hp : Builtin.divisionGoesByPylong a b = false) : Bop W A .FloorDiv (.int a) (.int b) (.int (a.fdiv b)) := by
  intro O s v1 v2 _ r1 r2 Q E h; cases r1; cases r2; exact floordiv_int hb (h _ _ _ (Ext.refl _) (.int _ _)) (.inl hp)
def divF (a b : Int) : UInt64 := Float64.ofFrac (decide (a < 0) != decide (b < 0)) a.natAbs b.natAbs
theorem b_div_ii (hh : A.handled = none) (hb : b ≠ 0) (ha : a.natAbs < 2 ^ 1023) (hi : ¬ Float64.isInf (divF a b) = true) : Bop W A .Div (.int a) (.int b) (.flt (divF a b)) := by
  intro O s v1 v2 _ r1 r2 Q E h; cases r1; cases r2
  exact div_ii hh (fun e => absurd e hb) (fun _ e => absurd e hi) fun _ _ => h _ _ _ (Ext.refl _) (.flt _ _)
theorem b_add_ff : Bop W A .Add (.flt x) (.flt y) (.flt (Float64.add x y)) := by
  intro O s v1 v2 _ r1 r2 Q E h; cases r1; cases r2; exact add_float (h _ _ _ (Ext.refl _) (.flt _ _))
theorem b_sub_ff : Bop W A .Sub (.flt x) (.flt y) (.flt (Float64.sub x y)) := by
  intro O s v1 v2 _ r1 r2 Q E h; cases r1; cases r2; exact sub_float (h _ _ _ (Ext.refl _) (.flt _ _))
theorem b_mul_ff : Bop W A .Mult (.flt x) (.flt y) (.flt (Float64.mul x y)) := by
  intro O s v1 v2 _ r1 r2 Q E h; cases r1; cases r2; exact mul_float (h _ _ _ (Ext.refl _) (.flt _ _))
theorem b_div_ff (hh : A.handled = none) (hz : Float64.isZero y = false) : Bop W A .Div (.flt x) (.flt y) (.flt (Float64.div x y)) := by
  intro O s v1 v2 _ r1 r2 Q E h; cases r1; cases r2
  exact truediv_float_or hh (fun e => by rw [hz] at e; cases e) fun _ => h _ _ _ (Ext.refl _) (.flt _ _)
theorem b_mod_ff (hh : A.handled = none) (hz : Float64.isZero y = false) : Bop W A .Mod (.flt x) (.flt y) (.flt (Float64.divmod x y).2) := by
  intro O s v1 v2 _ r1 r2 Q E h; cases r1; cases r2
  exact mod_ff hh (fun e => by rw [hz] at e; cases e) fun _ => h _ _ _ (Ext.refl _) (.flt _ _)
theorem b_sub_fi (ha : a.natAbs < 2 ^ 1023) : Bop W A .Sub (.flt x) (.int a) (.flt (Float64.sub x (Float64.ofInt a))) := by
  intro O s v1 v2 _ r1 r2 Q E h; cases r1; cases r2; exact sub_fi_fits ha (h _ _ _ (Ext.refl _) (.flt _ _))
theorem b_sub_if (ha : a.natAbs < 2 ^ 1023) : Bop W A .Sub (.int a) (.flt x) (.flt (Float64.sub (Float64.ofInt a) x)) := by
  intro O s v1 v2 _ r1 r2 Q E h; cases r1; cases r2; exact sub_if_fits ha (h _ _ _ (Ext.refl _) (.flt _ _))
theorem b_mul_if (ha : a.natAbs < 2 ^ 1023) : Bop W A .Mult (.int a) (.flt x) (.flt (Float64.mul (Float64.ofInt a) x)) := by
  intro O s v1 v2 _ r1 r2 Q E h; cases r1; cases r2; exact mul_if_fits ha (h _ _ _ (Ext.refl _) (.flt _ _))
theorem c_eq_ii : Cop W A .Eq (.int a) (.int b) (.bool (a == b)) := by
  intro O s v1 v2 _ r1 r2 Q E h; cases r1; cases r2; exact PyProof.Rows.eq_int (h _ _ _ (Ext.refl _) (.bool _))
theorem c_ne_ii : Cop W A .NotEq (.int a) (.int b) (.bool (a != b)) := by
  intro O s v1 v2 _ r1 r2 Q E h; cases r1; cases r2; exact ne_int (h _ _ _ (Ext.refl _) (.bool _))
theorem c_gt_ii : Cop W A .Gt (.int a) (.int b) (.bool (decide (b < a))) := by
  intro O s v1 v2 _ r1 r2 Q E h; cases r1; cases r2; exact gt_int (h _ _ _ (Ext.refl _) (.bool _))
theorem c_eq_ff : Cop W A .Eq (.flt x) (.flt y) (.bool (Float64.cmp x y == some .eq)) := by
  intro O s v1 v2 _ r1 r2 Q E h; cases r1; cases r2; exact AutoFloatOps.eq_0 (h _ _ _ (Ext.refl _) (.bool _))
theorem c_le_ff : Cop W A .LtE (.flt x) (.flt y) (.bool (Float64.cmp x y == some .lt || Float64.cmp x y == some .eq)) := by
  intro O s v1 v2 _ r1 r2 Q E h; cases r1; cases r2; exact AutoFloatOps.le_0 (h _ _ _ (Ext.refl _) (.bool _))
theorem c_ne_if : Cop W A .NotEq (.int a) (.flt x) (.bool (Float64.cmpInt x a != some .eq)) := by
  intro O s v1 v2 _ r1 r2 Q E h; cases r1; cases r2; exact ne_if (h _ _ _ (Ext.refl _) (.bool _))
theorem u_neg_i : Uop W A .USub (.int a) (.int (-a)) := by
  intro O s v1 _ r1 Q E h; cases r1; exact neg_int (h _ _ _ (Ext.refl _) (.int _ _))
theorem i_add_ii : Iop W A .Add (.int a) (.int b) (.int (a + b)) := by
  intro O s v1 v2 _ r1 r2 Q E h; cases r1; cases r2; exact iadd_int (h _ _ _ (Ext.refl _) (.int _ _))
theorem i_sub_ii : Iop W A .Sub (.int a) (.int b) (.int (a - b)) := by
  intro O s v1 v2 _ r1 r2 Q E h; cases r1; cases r2; exact isub_int (h _ _ _ (Ext.refl _) (.int _ _))
theorem i_shl_ii (hb : 0 ≤ b) (hb' : b ≤ 1000000) (ha : a.natAbs < 2 ^ 64) : Iop W A .LShift (.int a) (.int b) (.int (a * 2 ^ b.toNat)) := by
  intro O s v1 v2 _ r1 r2 Q E h; cases r1; cases r2; exact ilshift_int_small hb hb' ha (h _ _ _ (Ext.refl _) (.int _ _))
theorem i_or_ii : Iop W A .BitOr (.int a) (.int b) (.int (Builtin.bitOr a b)) := by
  intro O s v1 v2 _ r1 r2 Q E h; cases r1; cases r2; exact ior_int (h _ _ _ (Ext.refl _) (.int _ _))
theorem k_int_f (hh : A.handled = none) (hf : Float64.isFinite x = true) (hn : Float64.isNaN x = false) (hi : Float64.isInf x = false) : Cal W A (.type "int") [.flt x] (.int (toInt Float64.truncOf x)) := by
  intro s O vs _ r Q E h
  cases r with | cons r1 r2 => cases r2; cases r1; exact call_int_float3 hh (fun e => by rw [hn] at e; cases e) (fun e => by rw [hi] at e; cases e) fun _ => h _ _ _ (Ext.refl _) (.int _ _)
theorem k_int_b {p : Bool} : Cal W A (.type "int") [.bool p] (.int (if p = true then 1 else 0)) := by
  intro s O vs _ r Q E h
  cases r with | cons r1 r2 => cases r2; cases r1; exact call_int_bool (h _ _ _ (Ext.refl _) (.int _ _))
theorem k_min_ff (hh : A.handled = none) : Cal W A (.builtin "min") [.flt x, .flt y] (.flt (if Float64.cmp y x == some .lt then y else x)) := by
  intro s O vs _ r Q E h
  cases r with | cons r1 r2 => cases r2 with | cons r2 r3 =>
    cases r3; cases r1; cases r2
    rename_i t u
    refine min_two_num hh (.float _ _) (.float _ _) fun h' tk hk => ?_
    refine h _ h' tk hk ?_
    show Rp O h' (if (Float64.cmp y x == some .lt) = true then Value.float y u else Value.float x t) _
    split <;> exact .flt _ _
def fmax3 (a b c : UInt64) : UInt64 := if Float64.cmp a b == some .lt then (if Float64.cmp b c == some .lt then c else b) else (if Float64.cmp a c == some .lt then c else a)
def fmin3 (a b c : UInt64) : UInt64 := if Float64.cmp b a == some .lt then (if Float64.cmp c b == some .lt then c else b) else (if Float64.cmp c a == some .lt then c else a)
theorem three_walk {a b c : Value} {s : Shared} {W : Wd} {A : Around} {op : CmpOp} {bt : Nat → Nat → Bool} {Q E : Value → Shared → Prop} (hh : A.handled = none) (hc : CmpOf W.prog W.w A.in1 op (fun i v => (#[a, b, c] : Array Value)[i]? = some v) bt)
    (h : ∀ v h' tk, (#[a, b, c] : Array Value)[argBest bt 2]? = some v → Ext s.heap h' → Q v { s with heap := h', toks := tk }) :
    wpAny (model W.prog W.w) A.in1 (pyIter (.ref s.heap.objs.size)) (fun it s₂ => ∃ I fp wr n P St bt, it = .ref I ∧ Walks W.prog W.w A.in1 I fp wr n P St ∧ St 0 s₂.heap ∧ (∀ b ∈ fp, b < s₂.heap.objs.size) ∧ 0 < n ∧ CmpOf W.prog W.w A.in1 op P bt ∧
      ∀ v h' tk, P (argBest bt (n - 1)) v → (∀ b o, b ∉ wr → s₂.heap.get? b = some o → h'.get? b = some o) → Q v { s₂ with heap := h', toks := tk }) E
      { s with heap := s.heap.push { cls := .type "tuple", data := .seq #[a, b, c] } } := by
  have hT : (s.heap.push { cls := .type "tuple", data := .seq #[a, b, c] }).IsTuple s.heap.objs.size #[a, b, c] := ⟨_, Heap.get?_push_size _ rfl, rfl, 0, rfl⟩
  refine wpAny_pyIter_tuple hT ?_
  have hsz : (s.heap.push { cls := .type "tuple", data := .seq #[a, b, c] }).objs.size = s.heap.objs.size + 1 := Heap.size_push ..
  refine ⟨_, [_, s.heap.objs.size], [_], _, _, _, _, rfl, Walks.tuple (A := A.in1) hh _ s.heap.objs.size (by rw [hsz]; exact Nat.ne_of_lt (Nat.lt_succ_self _)) #[a, b, c],
    ⟨⟨_, Heap.get?_push_size _ rfl, rfl, rfl⟩, hT.push _⟩, fun d hd => ?_, by simp, hc, fun v h' tk hP hk => ?_⟩
  · show d < ((s.heap.push _).push _).objs.size
    rw [Heap.size_push, hsz]
    rcases List.mem_cons.mp hd with rfl | hd
    · rw [hsz]; exact Nat.lt_succ_self _
    · rcases List.mem_cons.mp hd with rfl | hd
      · exact Nat.lt_succ_of_lt (Nat.lt_succ_self _)
      · cases hd
  · refine h v h' tk hP fun d o e => ?_
    refine hk d o (fun hm => ?_) (Heap.get?_push_of_some _ (Heap.get?_push_of_some _ e))
    rcases List.mem_cons.mp hm with e1 | hm
    · have := Heap.lt_size e; rw [e1, hsz] at this; exact Nat.lt_irrefl _ (Nat.lt_of_succ_lt this)
    · cases hm
theorem k_max_fff {x y z : UInt64} (hh : A.handled = none) : Cal W A (.builtin "max") [.flt x, .flt y, .flt z] (.flt (fmax3 x y z)) := by
  intro s O vs _ r Q E h
  cases r with | cons r1 r2 => cases r2 with | cons r2 r3 => cases r3 with | cons r3 r4 =>
    cases r4; cases r1; cases r2; cases r3
    rename_i t u v
    refine call_max_three (three_walk hh (cmpOf_gt #[.float x t, .float y u, .float z v] (by intro q hq; simp at hq; rcases hq with rfl | rfl | rfl <;> constructor)) fun q h' tk hq e => ?_)
    refine h q h' tk e ?_
    unfold fmax3
    simp only [argBest] at hq
    have e1 : ltV (Value.float x t) (Value.float y u) = (Float64.cmp x y == some .lt) := rfl
    have e2 : ltV (Value.float x t) (Value.float z v) = (Float64.cmp x z == some .lt) := rfl
    have e3 : ltV (Value.float y u) (Value.float z v) = (Float64.cmp y z == some .lt) := rfl
    cases c1 : (Float64.cmp x y == some .lt) <;> cases c2 : (Float64.cmp x z == some .lt) <;> cases c3 : (Float64.cmp y z == some .lt) <;>
      simp [e1, e2, e3, c1, c2, c3] at hq <;> subst hq <;> simp <;> exact .flt _ _
theorem k_min_fff {x y z : UInt64} (hh : A.handled = none) : Cal W A (.builtin "min") [.flt x, .flt y, .flt z] (.flt (fmin3 x y z)) := by
  intro s O vs _ r Q E h
  cases r with | cons r1 r2 => cases r2 with | cons r2 r3 => cases r3 with | cons r3 r4 =>
    cases r4; cases r1; cases r2; cases r3
    rename_i t u v
    refine call_min_three (three_walk hh (cmpOf_lt #[.float x t, .float y u, .float z v] (by intro q hq; simp at hq; rcases hq with rfl | rfl | rfl <;> constructor)) fun q h' tk hq e => ?_)
    refine h q h' tk e ?_
    unfold fmin3
    simp only [argBest] at hq
    have e1 : ltV (Value.float y u) (Value.float x t) = (Float64.cmp y x == some .lt) := rfl
    have e2 : ltV (Value.float z v) (Value.float x t) = (Float64.cmp z x == some .lt) := rfl
    have e3 : ltV (Value.float z v) (Value.float y u) = (Float64.cmp z y == some .lt) := rfl
    cases c1 : (Float64.cmp y x == some .lt) <;> cases c2 : (Float64.cmp z x == some .lt) <;> cases c3 : (Float64.cmp z y == some .lt) <;>
      simp [e1, e2, e3, c1, c2, c3] at hq <;> subst hq <;> simp <;> exact .flt _ _
end
end Mine

/-! MOps2 -/
namespace Mine
set_option maxRecDepth 100000
open PySem PySem.W PyProof.Rows PySem.Calls PySem.Flt

section
variable {W : Wd} {A : Around} {O : List Addr} {h : Heap}

theorem rp_ints : ∀ {vs : List Value} {ns : List Int}, RpA O h vs (ns.map D.int) → ∃ xs : List (Int × Tok), vs = xs.map (fun p => Value.int p.1 p.2) ∧ xs.map (·.1) = ns
  | [], [], _ => ⟨[], rfl, rfl⟩
  | [], _ :: _, r => by cases r
  | _ :: _, [], r => by cases r
  | v :: vs, n :: ns, r => by
    cases r with
    | cons a r =>
      cases a
      obtain ⟨xs, h1, h2⟩ := rp_ints r
      exact ⟨(n, _) :: xs, by rw [h1]; rfl, by rw [List.map_cons, h2]⟩
theorem rp_intsAre : ∀ {vs : List Value} {ns : List Int}, RpA O h vs (ns.map D.int) → IntsAre vs ns
  | [], [], _ => .nil
  | [], _ :: _, r => by cases r
  | _ :: _, [], r => by cases r
  | v :: vs, n :: ns, r => by
    cases r with
    | cons a r =>
      cases a
      exact .cons _ _ (rp_intsAre r)

theorem k_len {ds : List D} (hn : ds.length ≤ 2 ^ 40) : Cal W A (.builtin "len") [.lst ds] (.int ds.length) := by
  intro s O vs _ r Q E h
  cases r with | cons r1 r2 =>
    cases r2
    cases r1 with | lst hO hp hr =>
      have e : (List.toArray _).size = _ := (List.size_toArray ..).trans hr.length
      refine call_len_list hp.isList (by rw [e]; omega) ?_
      rw [e]
      exact h _ _ _ (Ext.refl _) (.int _ _)

def lmax : List Int → Int
  | [] => 0
  | n :: ns => ns.foldl max n
theorem foldl_max_ge (ns : List Int) : ∀ n, n ≤ ns.foldl max n := by
  induction ns with
  | nil => intro n; exact Int.le_refl _
  | cons m ns ih => intro n; exact Int.le_trans (Int.le_max_left n m) (ih _)
theorem foldl_max_mem (ns : List Int) : ∀ n, ns.foldl max n = n ∨ ns.foldl max n ∈ ns := by
  induction ns with
  | nil => intro n; exact .inl rfl
  | cons m ns ih =>
    intro n
    rw [List.foldl_cons]
    rcases ih (max n m) with h | h
    · rw [h]
      rcases Int.le_total n m with q | q
      · rw [Int.max_eq_right q]; exact .inr (.head _)
      · rw [Int.max_eq_left q]; exact .inl rfl
    · exact .inr (.tail _ h)
theorem foldl_max_all (ns : List Int) : ∀ n, ∀ a ∈ ns, a ≤ ns.foldl max n := by
  induction ns with
  | nil => intro n a ha; cases ha
  | cons m ns ih =>
    intro n a ha
    rw [List.foldl_cons]
    rcases List.mem_cons.mp ha with e | ha
    · rw [e]; exact Int.le_trans (Int.le_max_right n m) (foldl_max_ge ns _)
    · exact ih _ a ha
theorem lmax_of {ns : List Int} {M : Int} (hm : M ∈ ns) (ha : ∀ a ∈ ns, a ≤ M) : M = lmax ns := by
  cases ns with
  | nil => cases hm
  | cons n ns =>
    unfold lmax
    refine Int.le_antisymm ?_ ?_
    · rcases List.mem_cons.mp hm with e | hm
      · rw [e]; exact foldl_max_ge ns n
      · exact foldl_max_all ns n M hm
    · show ns.foldl max n ≤ M
      rcases foldl_max_mem ns n with e | e
      · rw [e]; exact ha _ (.head _)
      · exact ha _ (.tail _ e)

theorem numAt_map {xs : List (Int × Tok)} {ns : List Int} (e : xs.map (·.1) = ns) (i : Nat) : numAt xs.toArray i = ns.getD i 0 := by
  subst e
  unfold numAt
  simp [List.getD_eq_getElem?_getD]

theorem k_max_l {ns : List Int} (hh : A.handled = none) (hne : ns ≠ []) : Cal W A (.builtin "max") [.lst (ns.map .int)] (.int (lmax ns)) := by
  intro s O vs _ r Q E h
  cases r with | cons r1 r2 =>
    cases r2
    cases r1 with | lst hO hp hr =>
      obtain ⟨xs, e1, e2⟩ := rp_ints hr
      subst e1
      have hl := hp.isList
      have ei : (xs.map (fun p => Value.int p.1 p.2)).toArray = intItems xs.toArray := by simp [intItems]
      rw [ei] at hl
      have hlen : xs.length = ns.length := by rw [← e2]; simp
      have hpos : 0 < ns.length := List.length_pos_iff.mpr hne
      refine max_intList hh hl (by simpa [hlen] using hpos) fun v h' tk hv hk => ?_
      obtain ⟨t, rfl⟩ := intItems_at hv
      obtain ⟨h1, h2⟩ := argBest_gt (numAt xs.toArray) (xs.toArray.size - 1)
      have e3 : numAt xs.toArray (argBest (fun i j => decide (numAt xs.toArray i > numAt xs.toArray j)) (xs.toArray.size - 1)) = lmax ns := by
        refine lmax_of ?_ fun a ha => ?_
        · rw [numAt_map e2]
          have hsz : xs.toArray.size = ns.length := by simp [hlen]
          exact PySem.getD_mem (by omega)
        · obtain ⟨j, hj, rfl⟩ := PySem.mem_getD ha
          rw [← numAt_map e2]
          have hsz : xs.toArray.size = ns.length := by simp [hlen]
          exact h2 j (by omega)
      rw [e3]
      exact h _ h' tk hk (.int _ _)

theorem k_sum_l {ns : List Int} (hh : A.handled = none) : Cal W A (.builtin "sum") [.lst (ns.map .int)] (.int ns.sum) := by
  intro s O vs _ r Q E h
  cases r with | cons r1 r2 =>
    cases r2
    cases r1 with | lst hO hp hr =>
      obtain ⟨xs, e1, e2⟩ := rp_ints hr
      subst e1
      have hl := hp.isList
      have ei : (xs.map (fun p => Value.int p.1 p.2)).toArray = intItems xs.toArray := by simp [intItems]
      rw [ei] at hl
      refine call_sum_walkG (iter_intList hl fun s₂ e st hfp hlI => ?_)
      subst e
      refine ⟨_, _, _, _, _, _, numAt xs.toArray, rfl, Walks.list (A := A.in1) hh _ _ hlI (intItems xs.toArray), st, hfp, (fun _ _ => intItems_at), fun h' tk t' hk => ?_⟩
      have e4 : preSum (numAt xs.toArray) (intItems xs.toArray).size = ns.sum := by
        have : numAt xs.toArray = fun i => ns.getD i 0 := funext (numAt_map e2)
        rw [this, PyProof.Rows.preSum_getD]
        have hsz : (intItems xs.toArray).size = ns.length := by rw [← e2]; simp [intItems]
        rw [hsz, List.take_length]
      rw [e4]
      exact h _ h' tk (old_kept hk) (.int _ _)

theorem k_list_l {ds : List D} (hn : ds.length ≤ sizeLine) : Cal W A (.type "list") [.lst ds] (.lst ds) := by
  intro s O vs hdom r Q E h
  cases r with | cons r1 r2 =>
    cases r2
    cases r1 with | lst hO hp hr =>
      obtain ⟨n, ha⟩ := hp
      refine call_list_seq _ (.inl rfl) ha rfl rfl (fun h' c' hk hg => ?_) (by rw [List.size_toArray, hr.length]; exact hn)
      have e : Ext s.heap h' := hk
      exact h _ h' _ e (.lst hdom.fresh ⟨c', hg⟩ (hr.ext e))

theorem b_add_ll {ds es : List D} (hn : ds.length + es.length ≤ sizeLine) : Bop W A .Add (.lst ds) (.lst es) (.lst (ds ++ es)) := by
  intro O s v1 v2 hdom r1 r2 Q E h
  cases r1 with | lst hO hp hr =>
    cases r2 with | lst hO2 hp2 hr2 =>
      rename_i l vs l2 ws
      obtain ⟨n, ha⟩ := hp
      obtain ⟨n2, hb⟩ := hp2
      refine concat_meets ⟨_, ha, rfl⟩ ⟨_, hb, rfl⟩ noFill_list_add seq_list_add PySem.F.slot_list_add PySem.F.entry_list_add (PySem.F.args_list_add_2 _ _) (list_addW l l2 vs.toArray ws.toArray n n2 none none #[] #[] (by simpa [hr.length, hr2.length] using hn)) ⟨ha, hb, ?_⟩
      have e : vs.toArray ++ ws.toArray = (vs ++ ws).toArray := by simp
      rw [e]
      have up := Ext.push s.heap { cls := .type "list", data := .seq (vs ++ ws).toArray }
      exact h _ _ _ up (.lst hdom.fresh ⟨_, Heap.get?_push_size _ rfl⟩ ((hr.append hr2).ext up))

theorem foldl_rep {α : Type} (l : List α) : ∀ (k : Nat) (acc : Array α), (List.foldl (fun x1 x2 => x1 ++ x2) acc (List.replicate k l.toArray)).toList = acc.toList ++ (List.replicate k l).flatten
  | 0, acc => by simp
  | k + 1, acc => by
    rw [List.replicate_succ, List.foldl_cons, foldl_rep l k]
    simp [List.replicate_succ, List.append_assoc]
theorem RpA.rep {vs : List Value} {ds : List D} (r : RpA O h vs ds) : ∀ k : Nat, RpA O h (List.replicate k vs).flatten (List.replicate k ds).flatten
  | 0 => .nil
  | k + 1 => by rw [List.replicate_succ, List.replicate_succ, List.flatten_cons, List.flatten_cons]; exact r.append (RpA.rep r k)
theorem b_mul_l1 {d : D} {x : Int} (hlo : -(2 ^ 63 : Int) ≤ x) (hhi : x ≤ 2 ^ 20) : Bop W A .Mult (.lst [d]) (.int x) (.lst (List.replicate x.toNat d)) := by
  intro O s v1 v2 hdom r1 r2 Q E h
  cases r2
  rename_i u
  cases r1 with | lst hO hp hr =>
    rename_i l vs
    cases hr with | cons hd hr =>
      cases hr
      rename_i v
      obtain ⟨k, hl⟩ := hp
      refine wpAny_binaryOp_repeat_ref (T := "list") (U := "int") (by decide) ⟨_, hl, rfl⟩ (fun s' => typeIs_int s' x u) noFill_list_mul PySem.F.fills_int_mul PySem.F.slot_int_rmul repeat_list PySem.F.slot_int_index.lookup
        (call_meets PySem.F.slot_int_rmul (typeIs_int s x u) PySem.F.entry_int_rmul (PySem.F.args_int_rmul_2 _ _) (int___rmul___int_list x u l _ k)
          ⟨hl, rfl, ⟨_, hl, rfl⟩, call_meets PySem.F.slot_list_mul ⟨_, hl, rfl⟩ PySem.F.entry_list_mul (PySem.F.args_list_mul_2 _ _)
            (AutoListH.list___mul___list_int_3 l _ k x u (by simp [Builtin.List.listFitsIndex]; omega) ?_ ?_)
            ⟨hl, ?_⟩⟩)
      · simp; omega
      · simp [Builtin.List.listTooLong, sizeLine]; omega
      · have e : (List.foldl (fun x1 x2 => x1 ++ x2) #[] (List.replicate (if ([v] : List Value).toArray.isEmpty = true then 0 else x.toNat) ([v] : List Value).toArray)) = (List.replicate x.toNat v).toArray := by
          refine Array.toList_inj.mp ?_
          rw [foldl_rep]
          simp
        rw [e]
        have up := Ext.push s.heap { cls := .type "list", data := .seq (List.replicate x.toNat v).toArray }
        refine h _ _ _ up (.lst hdom.fresh ⟨_, Heap.get?_push_size _ rfl⟩ ?_)
        have := (RpA.rep (RpA.cons hd .nil) x.toNat).ext up
        simpa using this

theorem b_add_bb {x y : Array UInt8} (hn : x.size + y.size ≤ 16777216) : Bop W A .Add (.byt x) (.byt y) (.byt (x ++ y)) := by
  intro O s v1 v2 hdom r1 r2 Q E h
  cases r1; cases r2
  have e1 : x = x.toList.toArray := by simp
  have e2 : y = y.toList.toArray := by simp
  rw [e1, e2]
  refine bytes_add_K (d := x.toList ++ y.toList) (by simpa using hn) rfl fun t' k => ?_
  have := h (.bytes (x ++ y) t') s.heap k (Ext.refl _) (.byt _ _)
  have e3 : (x.toList ++ y.toList).toArray = x ++ y := by simp
  rw [e3]; exact this
theorem c_ne_bb {x y : Array UInt8} : Cop W A .NotEq (.byt x) (.byt y) (.bool (x.toList != y.toList)) := by
  intro O s v1 v2 _ r1 r2 Q E h; cases r1; cases r2; exact ne_bytes (h _ _ _ (Ext.refl _) (.bool _))
theorem c_eq_bb {x y : Array UInt8} : Cop W A .Eq (.byt x) (.byt y) (.bool (x.toList == y.toList)) := by
  intro O s v1 v2 _ r1 r2 Q E h; cases r1; cases r2; exact eq_bytes (h _ _ _ (Ext.refl _) (.bool _))
theorem b_add_ss {x y : Str} (hn : x.length + y.length ≤ sizeLine) : Bop W A .Add (.str x) (.str y) (.str (x ++ y)) := by
  intro O s v1 v2 _ r1 r2 Q E h; cases r1; cases r2; exact SB.add (fun t' k => h _ _ k (Ext.refl _) (.str _ _)) hn
theorem b_mul_si {x : Str} {n : Int} (hx : x.length ≤ 16) (hlo : -(2 ^ 63 : Int) ≤ n) (hn : n ≤ 1048576) : Bop W A .Mult (.str x) (.int n) (.str (Txt.mul x n)) := by
  intro O s v1 v2 _ r1 r2 Q E h; cases r1; cases r2; exact SB.mul (mulOk_of 16 1048576 hx hn hlo (by decide) (by decide)) fun t' k => h _ _ k (Ext.refl _) (.str _ _)
end
end Mine

/-! MSub -/
namespace Mine
set_option maxRecDepth 100000
open PySem PySem.W PyProof.Rows PySem.Calls PySem.Flt

section
variable {W : Wd} {c : Act} {ρ ρ' : Rho}

theorem ev_item {value slice : Expr} {pos : Pos} {ds : List D} {d : D} {k : Int} (h1 : Ev W c ρ value (.lst ds)) (h2 : Ev W c ρ slice (.int k)) (h0 : 0 ≤ k) (hk : k < 2 ^ 62) (hd : ds[k.toNat]? = some d)
    (hs : ∀ o i, subscripted slice false o i = operate [o, i] (getItem o i) := by intro _ _; rfl) : Ev W c ρ (.Subscript value slice pos) d := by
  intro I O s S Q E h
  refine Subscript_ (h1 I O s S _ _ fun v1 g1 tk1 e1 r1 => h2 I O _ (S.ext e1) _ _ fun v2 g2 tk2 e2 r2 => ?_)
  have r1' := r1.ext e2
  cases r1' with | lst hO hp hr =>
    cases r2
    obtain ⟨v, hv, r⟩ := hr.get hd
    exact tail_any hp.isList.typeIs slot_list_getitem.lookup (wpAny_getItem_list hp.isList h0 (by omega) (x := v) (by simpa using hv) (h v g2 tk2 (e1.trans e2) r)) (hs _ _)

theorem ev_mu_last {x : Str} {p : Pos} {slice : Expr} {pos : Pos} {a : Addr} {ds : List D} {d : D} (hx : ρ.lookup x = some (.mu a (ds ++ [d]))) (h2 : Ev W c ρ slice (.int (-1))) (hn : ds.length < 2 ^ 40)
    (hl : c.env.kindOf x = some .local := by rfl) (hc : c.env.cells.lookup x = none := by rfl) (hdb : (x == ("__debug__" : Str)) = false := by decide)
    (hs : ∀ o i, subscripted slice false o i = operate [o, i] (getItem o i) := by intro _ _; rfl) : Ev W c ρ (.Subscript (.Name x p) slice pos) d := by
  intro I O s S Q E h
  obtain ⟨m, F, hml⟩ := S.fr
  obtain ⟨v0, hv, k⟩ := hml x _ hx
  unfold Bears at hv
  rw [hc] at hv
  obtain ⟨rfl, k2, k3, k4, k5, k5', vs, n, k6, k7⟩ := k
  refine Subscript_ (wpAny_Name (wpAny_loadName_local S.kind hl F hv ?_) hdb)
  refine h2 I O s S _ _ fun v2 g2 tk2 e2 r2 => ?_
  cases r2
  have hp : g2.PlainList a vs.toArray := ⟨n, e2 _ _ k6⟩
  have hlen : vs.length = ds.length + 1 := by rw [k7.length]; simp
  obtain ⟨v, hv', r⟩ := k7.get (i := ds.length) (d := d) (by simp)
  refine tail_any hp.isList.typeIs slot_list_getitem.lookup (wpAny_getItem_list_neg hp.isList (by omega) (by rw [List.size_toArray, hlen]; omega) (by omega) (x := v) ?_ (h v g2 tk2 e2 (r.ext e2))) (hs _ _)
  rw [List.size_toArray, hlen]
  have e : ((-1 : Int) + ((ds.length + 1 : Nat) : Int)).toNat = ds.length := by omega
  rw [e]; simpa using hv'

theorem RpA.take {O : List Addr} {h : Heap} : ∀ {vs : List Value} {ds : List D}, RpA O h vs ds → ∀ n, RpA O h (vs.take n) (ds.take n)
  | _, _, r, 0 => by simpa using RpA.nil
  | _, _, .nil, n + 1 => by simpa using RpA.nil
  | _, _, .cons a r, n + 1 => by simpa using RpA.cons a (RpA.take r n)
theorem RpA.drop {O : List Addr} {h : Heap} : ∀ {vs : List Value} {ds : List D}, RpA O h vs ds → ∀ n, RpA O h (vs.drop n) (ds.drop n)
  | _, _, r, 0 => by simpa using r
  | _, _, .nil, n + 1 => by simpa using RpA.nil
  | _, _, .cons a r, n + 1 => by simpa using RpA.drop r n


/-- an end of a slice, and what it says -/
def Part (W : Wd) (c : Act) (ρ : Rho) (x : Option Expr) (o : Option Int) : Prop :=
  ∀ I O s, Sit W c ρ I O s.heap → ∀ (Q E : Value → Shared → Prop), (∀ v h' tk, Ext s.heap h' → IsPart v o → Q v { s with heap := h', toks := tk }) → wpAny (model W.prog W.w) c.A (evalPart x c.env) Q E s
theorem part_none : Part W c ρ none none := fun I O s S Q E h => wpAny_pure (h .none s.heap s.toks (Ext.refl _) .none)
theorem part_some {e : Expr} {k : Int} (h1 : Ev W c ρ e (.int k)) : Part W c ρ (some e) (some k) := fun I O s S Q E h => by
  rw [evalPart_some]
  refine h1 I O s S _ _ fun v g tk e1 r => ?_
  cases r
  exact h _ g tk e1 (.int _ _)

theorem ev_slice {value : Expr} {lower upper : Option Expr} {p pos : Pos} {lo hi : Option Int} {ds ds' : List D} (h1 : Ev W c ρ value (.lst ds)) (h2 : Part W c ρ lower lo) (h3 : Part W c ρ upper hi) (hn : ds.length ≤ sizeLine)
    (hp : ∀ {O : List Addr} {g : Heap} {vs : List Value}, RpA O g vs ds → RpA O g (slicePick vs.toArray lo hi none).toList ds') : Ev W c ρ (.Subscript value (.Slice lower upper none p) pos) (.lst ds') := by
  intro I O s S Q E h
  refine Subscript_ (h1 I O s S _ _ fun v1 g1 tk1 e1 r1 => ?_)
  have S1 := S.ext e1
  refine wpAny_Slice (h2 I O _ S1 _ _ fun vl g2 tk2 e2 pl => h3 I O _ (S1.ext e2) _ _ fun vu g3 tk3 e3 pu => ?_)
  rw [evalPart_none]
  refine wpAny_pure ?_
  have S3 := (S1.ext e2).ext e3
  have up := Ext.push g3 { cls := .type "slice", data := .fields #[vl, vu, .none] }
  have r3 := ((r1.ext e2).ext e3).ext up
  have S4 := S3.ext up
  cases r3 with | lst hO hpl hr =>
    rename_i l vs
    refine tail_any (ops := [_, _]) hpl.isList.typeIs slot_list_getitem.lookup (wpAny_getItem_list_slice hpl.isList (Heap.IsSliceOf.new ..) pl pu .none (by simp) ?_ (by rw [List.size_toArray, hr.length]; exact hn)) rfl
    have up2 := Ext.push (g3.push { cls := .type "slice", data := .fields #[vl, vu, .none] }) { cls := .type "list", data := .seq (slicePick vs.toArray lo hi none) }
    refine h _ _ _ (((e1.trans e2).trans e3).trans (up.trans up2)) (.lst (vs := (slicePick vs.toArray lo hi none).toList) S4.dom.fresh ⟨0, ?_⟩ ((hp hr).ext up2))
    rw [show (slicePick vs.toArray lo hi none).toList.toArray = slicePick vs.toArray lo hi none by simp]
    exact Heap.get?_push_size _ rfl
theorem ev_slice_to {value hi : Expr} {p pos : Pos} {n : Nat} {k : Int} {ds : List D} (h1 : Ev W c ρ value (.lst ds)) (h3 : Ev W c ρ hi (.int k)) (hk : k = n) (hn : ds.length ≤ sizeLine) : Ev W c ρ (.Subscript value (.Slice none (some hi) none p) pos) (.lst (ds.take n)) := by
  subst hk
  refine ev_slice h1 part_none (part_some h3) hn fun {O g vs} r => ?_
  rw [slicePick_plain]
  simp only [Option.elim, clipAt_nat]
  have e : (((vs.toArray.toList).drop 0).take (min n vs.toArray.size - 0)) = vs.take n := by
    simp [Nat.min_comm, List.take_eq_take_min]
  rw [e]
  exact r.take n
theorem ev_slice_from {value lo : Expr} {p pos : Pos} {n : Nat} {k : Int} {ds : List D} (h1 : Ev W c ρ value (.lst ds)) (h3 : Ev W c ρ lo (.int k)) (hk : k = n) (hn : ds.length ≤ sizeLine) : Ev W c ρ (.Subscript value (.Slice (some lo) none none p) pos) (.lst (ds.drop n)) := by
  subst hk
  refine ev_slice h1 (part_some h3) part_none hn fun {O g vs} r => ?_
  rw [slicePick_from']
  simpa using r.drop n

theorem draw_list {prog : Program} {w : World} {A : Around} {E : Value → Shared → Prop} {it t : Addr} {items : Array Value} (hne : t ≠ it) : ∀ (n i : Nat) (s : Shared) (Q : List Value → Shared → Prop), s.heap.IsListIter it t i → s.heap.IsList t items → i + n ≤ items.size →
    (∀ h', h'.IsListIter it t (i + n) → Heap.SameBut it s.heap h' → Q ((items.toList.drop i).take n) { s with heap := h' }) → wpAny (model prog w) A (draw (.ref it) n) Q E s
  | 0, i, s, Q, hit, _, _, hQ => by
    show wpAny _ _ (pure []) Q E s
    exact wpAny_pure (by simpa using hQ s.heap hit (Heap.SameBut.refl ..))
  | n + 1, i, s, Q, hit, ht, hle, hQ => by
    have hlt : i < items.size := by omega
    show wpAny _ _ (pyNext (.ref it) >>= _) Q E s
    refine wpAny_bind (wpAny_pyNext_list_item hit ht (x := items[i]) (by simp [hlt]) fun h₁ hit₁ hs₁ => ?_)
    refine wpAny_bind (wpAny_holding (draw_list hne n (i + 1) _ _ hit₁ (ht.extBut hs₁.extBut hne) (by omega) fun h₂ hit₂ hs₂ => wpAny_pure ?_))
    have hd : items.toList.drop i = items[i] :: items.toList.drop (i + 1) := by simp [List.drop_eq_getElem_cons, hlt]
    have := hQ h₂ (by rw [show i + (n + 1) = i + 1 + n by omega]; exact hit₂) (hs₁.trans hs₂)
    rw [hd, List.take_succ_cons] at this
    exact this
theorem unpackItems_list {prog : Program} {w : World} {A : Around} {E : Value → Shared → Prop} {s : Shared} {t : Addr} {items : Array Value} {Q : List Value → Shared → Prop} (hh : A.handled = none) (ht : s.heap.IsList t items)
    (hQ : ∀ h', Ext s.heap h' → Q items.toList { s with heap := h' }) : wpAny (model prog w) A (unpackItems (.ref t) items.size none) Q E s := by
  have hlt : t ≠ s.heap.objs.size := by obtain ⟨o, ho, _⟩ := ht; exact Nat.ne_of_lt (Heap.lt_size ho)
  unfold unpackItems
  refine wpAny_bind ?_
  unfold notIterableAtAll
  refine wpAny_bind (wpAny_specialOf ht.typeIs PySem.slot_list_iter.lookup ?_)
  refine wpAny_pure ?_
  simp only [Bool.false_eq_true, if_false]
  refine wpAny_bind (wpAny_holding (wpAny_pyIter_list ht ?_))
  refine wpAny_bind (wpAny_holding (draw_list hlt items.size 0 _ _ ⟨_, Heap.get?_push_size _ rfl, rfl, rfl⟩ (ht.push _) (by omega) fun h₁ hit₁ hs₁ => ?_))
  have hall : List.take items.size (List.drop 0 items.toList) = items.toList := by
    rw [List.drop_zero]; exact List.take_of_length_le (by simp)
  rw [hall]
  rw [if_neg (by simp)]
  have ht₁ : h₁.IsList t items := (ht.push _).extBut hs₁.extBut hlt
  refine wpAny_bind (wpAny_holding (wpAny_pyNext_list_end hh hit₁ ht₁ (by simp) fun h₂ he₂ => ?_))
  simp only [Option.isSome_none, Bool.false_eq_true, if_false]
  exact wpAny_pure (hQ h₂ fun b o e => he₂ b o (Nat.ne_of_lt (Heap.lt_size e)) (hs₁.extBut b o (Nat.ne_of_lt (Heap.lt_size e)) (Heap.get?_push_of_some _ e)))

/-- what is unpacked: a list's or a tuple's items -/
theorem unpacked {s : Shared} {O : List Addr} {v : Value} {ds : List D} {d : D} {Q : List Value → Shared → Prop} {E : Value → Shared → Prop} {A : Around} (hh : A.handled = none) (r : Rp O s.heap v d) (hd : d = .lst ds ∨ d = .tup ds) {n : Nat} (hn : n = ds.length)
    (hQ : ∀ vs h', Ext s.heap h' → RpA O h' vs ds → Q vs { s with heap := h' }) : wpAny (model W.prog W.w) A (unpackItems v n none) Q E s := by
  subst hn
  rcases hd with rfl | rfl
  · cases r with | lst hO hp hr =>
      rw [← hr.length, ← List.size_toArray]
      refine unpackItems_list hh hp.isList fun h' e => ?_
      exact hQ _ h' e (by simpa using hr.ext e)
  · cases r with | tup hO hp hr =>
      rw [← hr.length, ← List.size_toArray]
      refine wpAny_unpackItems_tuple hh hp fun h' e => ?_
      exact hQ _ h' (Ext.extBut e) (by simpa using hr.ext (Ext.extBut e))

/-- names stored one by one -/
theorem store_names {E : Value → Shared → Prop} : ∀ {xs : List Str} {fs : List (Value → Sem Unit)} {vs : List Value} {ds : List D} {ρ : Rho} {I : Led} {O : List Addr} {s : Shared} {Q : Unit → Shared → Prop},
    (∀ p ∈ xs.zip fs, ∀ v (Q : Unit → Shared → Prop) s, wpAny (model W.prog W.w) c.A (storeName c.env p.1 v) Q E s → wpAny (model W.prog W.w) c.A (p.2 v) Q E s) → fs.length = xs.length → ds.length = xs.length → (∀ x ∈ xs, c.env.kindOf x = some .local ∧ c.env.cells.lookup x = none) →
    Sit W c ρ I O s.heap → RpA O s.heap vs ds → (∀ h' tk, Sit W c ((xs.zip ds).foldl (fun ρ p => setR ρ p.1 (.val p.2)) ρ) I O h' → Q () { s with heap := h', toks := tk }) →
    wpAny (model W.prog W.w) c.A (assignInOrder fs vs) Q E s := by
  intro xs
  induction xs with
  | nil =>
    intro fs vs ds ρ I O s Q hf h1 h2 hx S r hQ
    have e1 : fs = [] := List.length_eq_zero_iff.mp h1
    have e2 : ds = [] := List.length_eq_zero_iff.mp h2
    subst e1 e2
    cases r
    exact wpAny_pure (hQ s.heap s.toks (by simpa using S))
  | cons x xs ih =>
    intro fs vs ds ρ I O s Q hf h1 h2 hx S r hQ
    cases fs with
    | nil => simp at h1
    | cons f fs =>
      cases r with
      | nil => simp at h2
      | cons a r =>
        rename_i v vs d ds
        have hx0 := hx x (.head _)
        show wpAny _ _ (holding vs (f v) >>= fun _ => assignInOrder fs vs) _ _ _
        refine wpAny_bind (wpAny_holding (hf (x, f) (by simp) v _ s ?_))
        refine st_storeX S a ?_ hx0.1 hx0.2
        intro h' S' r'
        exact ih (fun p hp => hf p (by simp [hp])) (by simpa using h1) (by simpa using h2) (fun y hy => hx y (.tail _ hy)) S' (r' r) fun h'' tk S'' => hQ h'' tk S''
end
end Mine

/-! MUnp -/
namespace Mine
set_option maxRecDepth 100000
open PySem PySem.W PyProof.Rows PySem.Calls PySem.Flt

section
variable {W : Wd} {c : Act} {ρ ρ' : Rho}

theorem RpA.reverse {O : List Addr} {h : Heap} : ∀ {vs : List Value} {ds : List D}, RpA O h vs ds → RpA O h vs.reverse ds.reverse
  | _, _, .nil => .nil
  | _, _, .cons a r => by
    simp only [List.reverse_cons]
    exact (RpA.reverse r).append (.cons a .nil)

theorem ex_unpack {elts : List Expr} {k : Nat} {tpos pos : Pos} {value : Expr} {rest : List Stmt} {xs : List Str} {ps : List Pos} {ds : List D} {d : D} {o : Out} (h1 : Ev W c ρ value d) (hd : d = .lst ds ∨ d = .tup ds) (hlen : ds.length = xs.length)
    (hρ : (xs.zip ds).foldl (fun ρ p => setR ρ p.1 (.val p.2)) ρ = ρ') (h2 : Ex W c ρ' rest o) (hr : Room 0 c.A)
    (hp : ps.length = xs.length) (ha : assignEach elts c.env = (xs.zip ps).map fun q => (false, assign (.Name q.1 q.2) c.env))
    (hx : ∀ x ∈ xs, c.env.kindOf x = some .local ∧ c.env.cells.lookup x = none)
    (hs : swapsWithSole [.Tuple elts k tpos] value pos.line c.env = pure false := by rfl)
    (hw : swappedStores [.Tuple elts k tpos] value c.env = pure none := by rfl) : Ex W c ρ (.Assign [.Tuple elts k tpos] value pos :: rest) o := by
  subst hρ
  intro I O s S Q E h
  refine wpAny_execs_cons (Assign_Tuple (h1 I O s S _ _ fun v g tk e1 r => ?_) hs hw)
  rw [PyProof.Rows.assign_Tuple]
  refine wpAny_bind (wpAny_standAt ?_)
  unfold unpack
  have hl1 : (assignEach elts c.env).length = xs.length := by rw [ha]; simp [hp]
  have hl2 : (assignEach elts c.env).findIdx? (fun x => x.1) = none := by
    rw [ha, List.findIdx?_eq_none_iff]
    intro q hq
    obtain ⟨y, _, rfl⟩ := List.mem_map.mp hq
    rfl
  rw [hl2, hl1]
  refine wpAny_bind (wpAny_holding (unpacked (W := W) hr.handled r hd hlen.symm fun vs h' e2 r2 => ?_))
  rw [ha, List.map_map]
  refine store_names (W := W) (c := c) (xs := xs) (fun p hp' v Q s hst => ?_) (by simp [hp]) hlen hx ((S.ext e1).ext e2) r2 fun h'' tk'' S'' => h2 I O _ S'' Q E (h.at _ _)
  have : ∃ q, p.2 = assign (.Name p.1 q) c.env := by
    clear hst
    revert hp'
    generalize hz : (xs.zip ps).map ((fun x => x.2) ∘ fun q => (false, assign (.Name q.1 q.2) c.env)) = fs
    intro hp'
    subst hz
    clear h2 hlen hl1 hl2 ha hx h r2
    induction xs generalizing ps with
    | nil => simp at hp'
    | cons x xs ih =>
      cases ps with
      | nil => simp at hp
      | cons q ps =>
        simp only [List.zip_cons_cons, List.map_cons, List.mem_cons] at hp'
        rcases hp' with rfl | hp'
        · exact ⟨q, rfl⟩
        · exact ih (by simpa using hp) hp'
  obtain ⟨q, hq⟩ := this
  rw [hq]
  exact wpAny_assign_Name hst

theorem ex_unpack_swapped {elts : List Expr} {k : Nat} {tpos pos : Pos} {value : Expr} {rest : List Stmt} {names : List Str} {ds : List D} {o : Out} (h1 : Ev W c ρ value (.tup ds)) (hlen : ds.length = names.length)
    (hρ : (names.reverse.zip ds.reverse).foldl (fun ρ p => setR ρ p.1 (.val p.2)) ρ = ρ') (h2 : Ex W c ρ' rest o) (hr : Room 0 c.A)
    (hx : ∀ x ∈ names, c.env.kindOf x = some .local ∧ c.env.cells.lookup x = none)
    (hs : swapsWithSole [.Tuple elts k tpos] value pos.line c.env = pure false := by rfl)
    (hw : swappedStores [.Tuple elts k tpos] value c.env = pure (some names) := by rfl) : Ex W c ρ (.Assign [.Tuple elts k tpos] value pos :: rest) o := by
  subst hρ
  intro I O s S Q E h
  refine wpAny_execs_cons (Assign_Tuple_swapped (h1 I O s S _ _ fun v g tk e1 r => ?_) hs hw)
  refine unpacked (W := W) hr.handled r (.inr rfl) hlen.symm fun vs h' e2 r2 => ?_
  have r3 := r2.reverse
  refine store_names (W := W) (c := c) (xs := names.reverse) (fun p hp' v Q s hst => ?_) (by simp) (by simpa using hlen) (fun x hx' => hx x (List.mem_reverse.mp hx')) ((S.ext e1).ext e2) r3 fun h'' tk'' S'' => h2 I O _ S'' Q E (h.at _ _)
  have : p.2 = bindName c.env p.1 := by
    clear hst h2 hs hw h r r2 r3 hlen hx
    generalize names.reverse = l at hp'
    induction l with
    | nil => simp at hp'
    | cons n l ih =>
      simp only [List.map_cons, List.zip_cons_cons, List.mem_cons] at hp'
      rcases hp' with rfl | hp'
      · rfl
      · exact ih hp'
  rw [this]
  exact wpAny_bindName hst
end
end Mine

/-! MTest -/
namespace Mine
set_option maxRecDepth 100000
open PySem PySem.W PyProof.Rows PySem.Calls PySem.Flt

section
variable {W : Wd} {c : Act} {ρ ρ' : Rho} {pos : Pos}

theorem truthy_rp {s : Shared} {O : List Addr} {v : Value} {b : Bool} {Q : Bool → Shared → Prop} {E : Value → Shared → Prop} {A : Around} {M : Model} (r : Rp O s.heap v (.bool b)) (h : Q b s) : wpAny M A (truthy v) Q E s := by
  cases r; exact wpAny_truthy_bool h

theorem tr_cmp {l r : Expr} {op : CmpOp} {d1 d2 : D} {b : Bool} (h1 : Ev W c ρ l d1) (h2 : Ev W c ρ r d2) (hb : Cop W c.A op d1 d2 (.bool b)) (hm : behindInMarks op r = false := by with_unfolding_all rfl) : Tr W c ρ (.Compare l [op] [r] pos) b := by
  intro I O s S Q E h
  refine wpAny_isTrue_Compare1 (h1 I O s S _ _ fun v1 g1 tk1 e1 r1 => h2 I O _ (S.ext e1) _ _ fun v2 g2 tk2 e2 r2 => ?_) hm
  refine hb O _ v1 v2 ((S.ext e1).ext e2).dom (r1.ext e2) r2 _ _ fun v g tk e r => ?_
  exact truthy_rp r (h g tk (e1.trans (e2.trans e)))
theorem tr_name {x : Str} {b : Bool} {p : Pos} (h1 : Ev W c ρ (.Name x p) (.bool b)) (hw : PySem.isTrue (.Name x p) c.env (eval (.Name x p) c.env) = (do let v ← eval (.Name x p) c.env; standAt (Expr.Name x p).pos; holding [v] (truthy v)) := by rfl) : Tr W c ρ (.Name x p) b := by
  intro I O s S Q E h
  refine wpAny_isTrue_value (h1 I O s S _ _ fun v g tk e r => ?_) hw
  exact truthy_rp r (h g tk e)
theorem tr_or {x y : Expr} {a b : Bool} (h1 : Tr W c ρ x a) (h2 : a = false → Tr W c ρ y b) : Tr W c ρ (.BoolOp .Or [x, y] pos) (a || b) := by
  intro I O s S Q E h
  refine wpAny_isTrue_BoolOp (wpAny_allTrue_Or_cons (h1 I O s S _ _ fun g tk e => ?_))
  cases a with
  | true => simpa using h g tk e
  | false =>
    simp only [Bool.false_eq_true, if_false]
    refine wpAny_allTrue_Or_cons (h2 rfl I O _ (S.ext e) _ _ fun g2 tk2 e2 => ?_)
    cases b with
    | true => simpa using h g2 tk2 (e.trans e2)
    | false =>
      simp only [Bool.false_eq_true, if_false]
      exact wpAny_allTrue_Or_nil (by simpa using h g2 tk2 (e.trans e2))
theorem ev_and2 {x y : Expr} {a b : Bool} (h1 : Ev W c ρ x (.bool a)) (h2 : Ev W c ρ y (.bool b)) : Ev W c ρ (.BoolOp .And [x, y] pos) (.bool (a && b)) := by
  intro I O s S Q E h
  refine wpAny_And2 (h1 I O s S _ _ fun v g tk e r => ?_)
  refine truthy_rp r ?_
  cases a with
  | true =>
    simp only [if_true]
    refine h2 I O _ (S.ext e) _ _ fun v2 g2 tk2 e2 r2 => h v2 g2 tk2 (e.trans e2) (by simpa using r2)
  | false =>
    simp only [Bool.false_eq_true, if_false]
    exact h v g tk e (by simpa using r)
theorem ev_ifexp {t x y : Expr} {b : Bool} {d : D} (h1 : Tr W c ρ t b) (h2 : Ev W c ρ (if b then x else y) d) : Ev W c ρ (.IfExp t x y pos) d := by
  intro I O s S Q E h
  refine wpAny_IfExp (h1 I O s S _ _ fun g tk e => ?_)
  cases b with
  | true => exact h2 I O _ (S.ext e) _ _ fun v g2 tk2 e2 r => h v g2 tk2 (e.trans e2) r
  | false => exact h2 I O _ (S.ext e) _ _ fun v g2 tk2 e2 r => h v g2 tk2 (e.trans e2) r
theorem ex_break {rest : List Stmt} (hs : ∀ x sl, ρ'.lookup x = some sl → ρ.lookup x = some sl) : Ex W c ρ (.Break pos :: rest) (.bk ρ') := by
  intro I O s S Q E h
  exact wpAny_execs_cons (wpAny_Break (h s.heap s.toks O (S.sub hs)))

theorem ev_int {i : Int} {k : Nat} : Ev W c ρ (.Constant (.int i) k pos) (.int i) := fun I O s S Q E h => wpAny_Constant_int (h _ _ _ (Ext.refl _) (.int _ _))
theorem ev_flt {b : UInt64} {k : Nat} : Ev W c ρ (.Constant (.float b) k pos) (.flt b) := fun I O s S Q E h => wpAny_Constant_float (h _ _ _ (Ext.refl _) (.flt _ _))
theorem ev_str {x : Str} {k : Nat} : Ev W c ρ (.Constant (.str x) k pos) (.str x) := fun I O s S Q E h => Calls.Constant_str (h _ _ _ (Ext.refl _) (.str _ _))
theorem ev_byt {x : List UInt8} {k : Nat} : Ev W c ρ (.Constant (.bytes x) k pos) (.byt x.toArray) := fun I O s S Q E h => Constant_bytes (h _ _ _ (Ext.refl _) (.byt _ _))
theorem ev_bool {b : Bool} {k : Nat} : Ev W c ρ (.Constant (.bool b) k pos) (.bool b) := fun I O s S Q E h => wpAny_eval_const rfl fun v tk hv => by cases hv; exact h _ _ _ (Ext.refl _) (.bool _)
end
end Mine

/-! MText -/
namespace Mine
set_option maxRecDepth 100000
open PySem PySem.W PyProof.Rows PySem.Calls PySem.Flt PySem.NumText

def figs (bs : List Bool) : List Nat := bs.map fun b => if b then 49 else 48
def figStr (bs : List Bool) : Str := ⟨(figs bs).toArray⟩
def bval (bs : List Bool) : Nat := bs.foldl (fun acc b => acc * 2 + (if b then 1 else 0)) 0
theorem fig_step (b : Bool) (ds : Array Nat) (q : Bool) : step 2 (ds, q) (if b then 49 else 48) = some (ds.push (if b then 1 else 0), true) := by
  cases b <;> rfl
theorem figs_fold : ∀ (bs : List Bool) (ds : Array Nat) (q : Bool), (figs bs).foldlM (step 2) (ds, q) = some (ds ++ (bs.map fun b => if b then 1 else 0).toArray, q || !bs.isEmpty)
  | [], ds, q => by simp [figs]
  | b :: bs, ds, q => by
    show ((if b then 49 else 48) :: figs bs).foldlM (step 2) (ds, q) = _
    rw [List.foldlM_cons, fig_step]
    show (figs bs).foldlM (step 2) _ = _
    rw [figs_fold bs]
    simp
theorem not_blank (b : Bool) : blank (if b then 49 else 48) = false := by cases b <;> rfl
theorem drop_figs : ∀ bs : List Bool, (figs bs).dropWhile blank = figs bs
  | [] => rfl
  | b :: bs => by
    show ((if b then 49 else 48) :: figs bs).dropWhile blank = _
    rw [List.dropWhile_cons, not_blank b]; rfl
theorem figs_reverse (bs : List Bool) : (figs bs).reverse = figs bs.reverse := by simp [figs]
theorem read_two (bs : List Bool) : (int_private% "readNumeral") 0 2 (figs (true :: bs)) = (int_private% "Numeral.value") (bval (true :: bs) : Nat) := by
  rw [readNumeral_eq, drop_figs]
  have hs : sign (figs (true :: bs)) = (false, figs (true :: bs)) := rfl
  have hb : based 2 (figs (true :: bs)) = (2, false, figs (true :: bs)) := rfl
  rw [hs, hb]
  show judge 0 false 2 false (digits? 2 ((figs (true :: bs)).reverse.dropWhile blank).reverse) = _
  rw [figs_reverse, drop_figs, figs_reverse, List.reverse_reverse]
  unfold digits?
  rw [figs_fold]
  simp only [Option.bind_some, List.isEmpty_cons, Bool.not_false, Bool.or_true, if_true]
  unfold judge
  dsimp only
  rw [if_neg (by simp), if_neg (by simp)]
  simp only [Bool.false_and, Bool.false_eq_true, if_false]
  congr 1
  show ((Array.foldl (fun acc d => acc * 2 + d) 0 _ : Nat) : Int) = _
  congr 1
  unfold bval
  simp [List.foldl_map]

namespace F2
theorem typeCall_int_2 (a b : Value) : checkTypeCall "int" ⟨[a, b], []⟩ = pure () := by kernel_rfl
theorem newCall_int_2 (a b : Value) : checkBuiltinCall "int.__new__" ⟨[.type "int", a, b], []⟩ = pure () := by kernel_rfl
theorem initArgs_int_2 (obj a b : Value) : argsOk "object.__init__" ⟨[obj, a, b], []⟩ := F.initArgs_range_2 obj a b
end F2

theorem wp_text2 {M : Model} {A : Around} {E : Value → Shared → Prop} {s : Shared} {Q : Value → Shared → Prop} {v : Value} {text : List Nat} {n : Int} {base : Nat}
    (hs : (text.takeWhile (· != 0)).length ≤ 640) (hr : (int_private% "readNumeral") 0 base (text.takeWhile (· != 0)) = (int_private% "Numeral.value") n)
    (ha : ((text.takeWhile (· != 0)).length == text.length) = true) (h : Q (.int n s.toks) { s with toks := s.toks + 1 }) :
    wpAny M A ((int_private% "intFromText") v text base) Q E s := by
  obtain ⟨hp, g, d, tk, os⟩ := s
  repeat (any_goals (first
    | assumption
    | (with_reducible refine wpAny_ite_true (decide_eq_true hs) ?_)
    | (with_reducible refine wpAny_ite_true (decide_eq_true ha) ?_)
    | wp_step))
  all_goals (try rw [hr])
  all_goals (try dsimp only)
  repeat (any_goals (first
    | assumption
    | (with_reducible refine wpAny_ite_true (decide_eq_true hs) ?_)
    | (with_reducible refine wpAny_ite_true (decide_eq_true ha) ?_)
    | wp_step))

theorem take_figs (bs : List Bool) : (figs bs).takeWhile (· != 0) = figs bs := by
  induction bs with
  | nil => rfl
  | cons b bs ih =>
    show ((if b then 49 else 48) :: figs bs).takeWhile (· != 0) = _
    rw [List.takeWhile_cons]
    have : ((if b then 49 else 48 : Nat) != 0) = true := by cases b <;> rfl
    rw [this]; simp only [if_true, ih]; rfl

structure Hd (p : Prop) : Prop where
  out : p
set_option maxHeartbeats 4000000 in
theorem gives_two {bs : List Bool} {u t : Tok} (hl : bs.length ≤ 600) : Gives (Builtin.«int.__new__» ⟨[.type "int", .str (figStr (true :: bs)) u, .int 2 t], []⟩) (.int (bval (true :: bs) : Nat)) :=
  .of_wp fun M A E s Q h => by
    obtain ⟨hp, g, d, tk, os⟩ := s
    have f1 := F.conv_sub_int
    have f2 := F.madeHere_int
    have f6 : typeOf (.str (figStr (true :: bs)) u) = pure (.type "str") := rfl
    have hall : ((figStr (true :: bs)).cps.all (· < 128)) = true := by
      unfold figStr figs
      simp only [List.all_toArray, List.all_eq_true, List.mem_map]
      rintro x ⟨b, _, rfl⟩
      cases b <;> decide
    have hcps : (figStr (true :: bs)).cps.toList = figs (true :: bs) := rfl
    have hk := Hd.mk (show ((figs (true :: bs)).takeWhile (· != 0)).length ≤ 640 ∧ (int_private% "readNumeral") 0 2 ((figs (true :: bs)).takeWhile (· != 0)) = (int_private% "Numeral.value") (bval (true :: bs) : Nat) ∧ (((figs (true :: bs)).takeWhile (· != 0)).length == (figs (true :: bs)).length) = true from by
      rw [take_figs]
      exact ⟨by simp [figs]; omega, read_two bs, by simp⟩)
    clear hl
    repeat (any_goals (first
      | assumption
      | ((with_reducible show wpAny _ _ ((int_private% "intFromText") _ _ _) _ _ _); refine wp_text2 (n := (bval (true :: bs) : Nat)) ?_ ?_ ?_ ?_)
      | wp_step))
    all_goals first | exact ⟨_, rfl, h⟩ | skip
    · rw [hall, if_pos rfl, hcps]; exact hk.out.1
    · rw [hall, if_pos rfl, hcps]; exact hk.out.2.1
    · rw [hall, if_pos rfl, hcps]; exact hk.out.2.2

section
variable {W : Wd} {A : Around}
theorem k_int_two {bs : List Bool} (hl : bs.length ≤ 600) : Cal W A (.type "int") [.str (figStr (true :: bs)), .int 2] (.int (bval (true :: bs) : Nat)) := by
  intro s O vs _ r Q E h
  cases r with | cons r1 r2 => cases r2 with | cons r2 r3 =>
    cases r3; cases r1; cases r2
    exact callType_new F.called_int F.newNe_int (F2.typeCall_int_2 _ _) (F2.newCall_int_2 _ _) (fun obj => F2.initArgs_int_2 obj _ _) F.entry_int_new (gives_two hl).meets
      (show (Made.int (bval (true :: bs) : Nat)).post _ s from ⟨rfl, h _ _ _ (Ext.refl _) (.int _ _)⟩)
end
end Mine

/-! MBytes -/
namespace Mine
set_option maxRecDepth 100000
open PySem PySem.W PyProof.Rows PySem.Calls PySem.Flt

namespace FB2
theorem slot_bytes_count : Slot "bytes" "count" "bytes.count" :=
  .of (owner := "bytes") (n := "count") (by rw [typeLookup_type, builtinLookup_eq_fast]; kernel_rfl) (by decide +kernel) (by decide +kernel) (by decide +kernel)
    (by first | exact .inl (by decide +kernel) | exact .inr (by decide +kernel)) (by rw [isSubtype_type]; kernel_rfl)
theorem type_bytes_count : typeOf (.builtin "bytes.count") = pure (.type "method_descriptor") := by show builtinType _ = _; rw [builtinType_eq_fast]; kernel_rfl
theorem entry_bytes_count : entryFor table "bytes.count" = some Builtin.«bytes.count» := entryFor_of_tree (by kernel_rfl)
theorem args_bytes_count_2 (a b : Value) : argsOk "bytes.count" ⟨[a, b], []⟩ := by
  unfold argsOk; rw [signature?_of (id := "bytes.count") (n := ['t', 'n', 'u', 'o', 'c']) (o := ['s', 'e', 't', 'y', 'b']) (by kernel_rfl) FB.owner_bytes]; kernel_rfl
end FB2

def occStep (b : Array UInt8) (c : UInt8) (acc : List Nat × Nat) (i : Nat) : List Nat × Nat :=
  if i ≥ acc.2 && b.extract i (i + 1) == #[c] then (i :: acc.1, i + 1) else acc
theorem extract_one {b : Array UInt8} {i : Nat} (hi : i < b.size) (c : UInt8) : (b.extract i (i + 1) == #[c]) = (b[i] == c) := by
  have e : b.extract i (i + 1) = #[b[i]] := by
    apply Array.ext
    · simp; omega
    · intro j h1 h2
      have : j = 0 := by simp at h2; omega
      subst this
      simp
  rw [e]
  by_cases h : b[i] = c
  · simp [h]
  · have h1 : (b[i] == c) = false := by simpa using h
    rw [h1]
    have : (#[b[i]] : Array UInt8) ≠ #[c] := by intro q; simp at q; exact h q
    simpa using this
theorem occ_range (b : Array UInt8) (c : UInt8) : ∀ n, n ≤ b.size → ((List.range n).foldl (occStep b c) ([], 0)).1.length = (b.toList.take n).count c ∧ ((List.range n).foldl (occStep b c) ([], 0)).2 ≤ n
  | 0, _ => by simp
  | n + 1, h => by
    obtain ⟨h1, h2⟩ := occ_range b c n (by omega)
    rw [List.range_succ, List.foldl_append]
    show (occStep b c _ n).1.length = _ ∧ (occStep b c _ n).2 ≤ _
    generalize (List.range n).foldl (occStep b c) ([], 0) = p at h1 h2 ⊢
    have hn : n < b.size := by omega
    have ht : b.toList.take (n + 1) = b.toList.take n ++ [b[n]] := by
      rw [List.take_add_one]; simp [hn]
    unfold occStep
    rw [extract_one hn]
    have hge : decide (n ≥ p.2) = true := by simpa using h2
    rw [hge, Bool.true_and, ht, List.count_append, ← h1]
    by_cases hc : b[n] = c
    · have hc' : (b[n] == c) = true := by simpa using hc
      rw [if_pos hc']
      refine ⟨?_, by simp⟩
      simp [hc]
    · have hc' : (b[n] == c) = false := by simpa using hc
      rw [hc']
      simp only [Bool.false_eq_true, if_false]
      refine ⟨?_, by omega⟩
      have : List.count c [b[n]] = 0 := by simp [List.count_cons, hc']
      rw [this]; rfl
theorem occ_one (b : Array UInt8) (c : UInt8) : (Builtin.Bytes.occurrences b #[c] 0 b.size).length = b.toList.count c := by
  unfold Builtin.Bytes.occurrences
  have e : ((List.range (b.size + 1 - (0 + (#[c] : Array UInt8).size))).map (· + 0)) = List.range b.size := by simp
  rw [e, List.length_reverse]
  have := (occ_range b c b.size (Nat.le_refl _)).1
  rw [List.take_of_length_le (by simp)] at this
  exact this

set_option maxHeartbeats 4000000 in
theorem gives_count (b : Array UInt8) (c : UInt8) (t u : Tok) : Gives (Builtin.«bytes.count» ⟨[.bytes b t, .bytes #[c] u], []⟩) (.int (b.toList.count c : Nat)) :=
  .of_wp fun M A E s Q h => by
    obtain ⟨hp, g, d, tk, os⟩ := s
    by_cases hb : b.size = 0
    · have e : b = #[] := Array.eq_empty_of_size_eq_zero hb
      subst e
      repeat (any_goals (first | assumption | (with_reducible refine wpAny_of_eq KBy.buffer_eq ?_) | wp_step))
      exact ⟨_, rfl, h⟩
    · have hw : Builtin.Bytes.window b.size none none = (0, (b.size : Int)) := by
        have h0 : ¬ ((b.size : Int) < 0) := by omega
        simp [Builtin.Bytes.window, h0]
      have h1 : ¬ ((b.size : Int) - 0 < ((#[c] : Array UInt8).size : Int)) := by simp; omega
      have ho := occ_one b c
      repeat (any_goals (first | assumption | (with_reducible refine wpAny_of_eq KBy.buffer_eq ?_) | wp_step))
      rw [hw]
      dsimp only
      rw [if_neg h1]
      show wpAny M A (if (#[c] : Array UInt8).isEmpty = true then _ else retInt ((Builtin.Bytes.occurrences b #[c] 0 b.size).length : Nat)) _ _ _
      rw [if_neg (by simp), ho]
      exact wpAny_bind (wpAny_mkInt (wpAny_pure ⟨_, rfl, h⟩))

section
variable {W : Wd} {c : Act} {ρ : Rho}
theorem ev_count_b {pl : Sem Bool} {o e : Expr} {p2 p3 : Pos} {b : Array UInt8} {x : UInt8} (h0 : Ev W c ρ o (.byt b)) (h1 : Ev W c ρ e (.byt #[x]))
    (he : backTo p3 (starEach [e] c.env) = (false, eval e c.env) :: backTo p3 (starEach [] c.env) := by rfl)
    (he' : starEach [e] c.env = (false, eval e c.env) :: starEach [] c.env := by rfl)
    (hm : eval (.Call (.Attribute o (Str.ofString "count") p2) [e] [] p3) c.env = (do
      let ov ← eval o c.env
      standAt p2.atName
      let (f, first) ← holding [ov] (getMethod ov (Str.ofString "count") pl)
      callWith p3 f first (backTo p3 (starEach [e] c.env)) []) := by rfl) :
    Ev W c ρ (.Call (.Attribute o (Str.ofString "count") p2) [e] [] p3) (.int (b.toList.count x : Nat)) := by
  intro I O s S Q E h
  refine MethodCall_ (pl := pl) (h0 I O s S _ _ fun v g tk e1 r => ?_) hm
  cases r
  refine KBd.method_of _ (typeIs_bytes _ _ _) FB2.slot_bytes_count FB2.type_bytes_count KBd.noRef ?_
  refine callWith_method1 ?_ he' rfl
  refine evl_cons h1 evl_nil he I O _ (S.ext e1) _ _ fun ws g2 tk2 e2 r2 => ?_
  cases r2 with
  | cons r2 r3 =>
    cases r3; cases r2
    exact call_gives FB2.slot_bytes_count (typeIs_bytes _ _ _) FB2.entry_bytes_count (FB2.args_bytes_count_2 _ _) (gives_count b x _ _) (h _ _ _ (e1.trans e2) (.int _ _))

theorem ev_count_l {pl : Sem Bool} {o e : Expr} {p2 p3 : Pos} {ns : List Int} {k : Int} (h0 : Ev W c ρ o (.lst (ns.map .int))) (h1 : Ev W c ρ e (.int k))
    (he : backTo p3 (starEach [e] c.env) = (false, eval e c.env) :: backTo p3 (starEach [] c.env) := by rfl)
    (he' : starEach [e] c.env = (false, eval e c.env) :: starEach [] c.env := by rfl)
    (hm : eval (.Call (.Attribute o (Str.ofString "count") p2) [e] [] p3) c.env = (do
      let ov ← eval o c.env
      standAt p2.atName
      let (f, first) ← holding [ov] (getMethod ov (Str.ofString "count") pl)
      callWith p3 f first (backTo p3 (starEach [e] c.env)) []) := by rfl) :
    Ev W c ρ (.Call (.Attribute o (Str.ofString "count") p2) [e] [] p3) (.int (ns.count k : Nat)) := by
  intro I O s S Q E h
  refine MethodCall_ (pl := pl) (h0 I O s S _ _ fun v g tk e1 r => ?_) hm
  cases r with | lst hO hp hr =>
    obtain ⟨n, ha⟩ := id hp
    refine getMethod_builtin (T := "list") hp.isList.typeIs PySem.F.plainAttrs_list PySem.F.slot_list_count PySem.F.type_list_count (fun b e => by cases e; exact ⟨_, ha, rfl⟩) ?_
    refine callWith_method1 ?_ he' rfl
    refine evl_cons h1 evl_nil he I O _ (S.ext e1) _ _ fun ws g2 tk2 e2 r2 => ?_
    cases r2 with
    | cons r2 r3 =>
      cases r3; cases r2
      exact count_list_ints (hp.at fun o q => e2 _ _ q).isList (rp_intsAre hr) (h _ _ _ (e1.trans e2) (.int _ _))
end
section
variable {W : Wd} {A : Around}
theorem eq_fi_at {x : UInt64} {a : Int} {u t : Tok} {s : Shared} {A : Around} : SeqAt.EqAt A s (.float x u) (.int a t) (Float64.cmpInt x a == some .eq) := by
  intro prog w E Q h
  unfold eqBool
  refine wpAny_holding ?_
  show wpAny _ _ (if (Value.float x u == Value.int a t) = true then _ else _) Q E s
  rw [if_neg (by simp)]
  refine wpAny_bind ?_
  refine eq_fi (Q := fun v s' => _) ?_
  exact wpAny_truthy_bool h
def notIn2 (a b : Int) (x : UInt64) : Bool := !(b == a || Float64.cmpInt x a == some .eq)
theorem c_notin {a b : Int} {x : UInt64} : Cop W A .NotIn (.int a) (.lst [.int b, .flt x]) (.bool (notIn2 a b x)) := by
  intro O s v1 v2 _ r1 r2 Q E h
  cases r1
  rename_i t
  cases r2 with | lst hO hp hr =>
    cases hr with | cons q1 hr => cases hr with | cons q2 hr =>
      cases hr; cases q1; cases q2
      refine SeqAt.notIn_listAt (fun v => match v with | .int b _ => b == a | .float x _ => Float64.cmpInt x a == some .eq | _ => false) hp.isList (fun y hy => ?_) ?_
      · simp at hy
        rcases hy with rfl | rfl
        · exact (MeetsSeq.EqGives.int _ _ _ _).at _ _
        · exact eq_fi_at
      · refine h _ s.heap s.toks (Ext.refl _) ?_
        have this : ∀ t1 t2, (!(Array.any (#[Value.int b t1, Value.float x t2]) fun v => match v with | .int b _ => b == a | .float x _ => Float64.cmpInt x a == some .eq | _ => false)) = notIn2 a b x := by
          intro t1 t2
          simp [notIn2]
        show Rp O s.heap (Value.bool (!(Array.any (#[Value.int b _, Value.float x _]) _))) _
        rw [this]
        exact .bool _
end
end Mine

/-! MSre -/
namespace Mine
set_option maxRecDepth 100000
open PySem
open PySem.Sre (M Seen Loop)

def qcode : Array Nat := #[14, 8, 1, 2, 4294967295, 1, 1, 34, 0, 16, 34, 28, 22, 0, 4294967295, 7, 11, 13, 7, 21, 16, 34, 16, 92, 0, 15, 8, 6, 16, 92, 2, 15, 2, 0, 1, 16, 34, 1]

/-- n steps lead from m to m' -/
def Go (n : Nat) (m m' : M) : Prop := ∀ k, m.runFor (n + k) = m'.runFor k
theorem Go.zero (m : M) : Go 0 m m := fun k => by rw [Nat.zero_add]
theorem Go.trans {a b : Nat} {x y z : M} (h1 : Go a x y) (h2 : Go b y z) : Go (a + b) x z := fun k => by rw [Nat.add_assoc, h1, h2]
theorem Go.step {m m' : M} (e : m.step = m') (h : m.outcome = none) : Go 1 m m' := fun k => by
  rw [Nat.add_comm]
  show (if m.outcome.isSome = true then m else M.runFor k m.step) = _
  rw [h, e]; rfl

section
variable (T : Array Nat) (lim : Nat)
def fr0 (q : Nat) (om : Bool) : Sre.Frame := { wait := .nextStart, pc := 9, pos := q, outermost := om }
def kpt : Sre.Kept := { whole := true }
def frP (q : Nat) (om : Bool) (n : Int) : Sre.Frame := { wait := .possMore, pc := 11, pos := q, outermost := om, count := n, kept := kpt }
def frB (q pc : Nat) : Sre.Frame := { wait := .nextBranch, pc := pc, pos := q, outermost := false, kept := kpt }
def lp : Array Loop := #[{ pc := 0, outer := none }]
/-- at the outer level -/
def m0 (st pc q hd : Nat) (om : Bool) (ans : Option Bool) (seen : Seen) : M :=
  { code := qcode, text := T, lim := lim, start := st, lastStart := lim, pc := pc, pos := q, handed := hd, outermost := om, marks := #[], frames := [fr0 st om], weight := 1, answer := ans, seen := seen }
/-- in the loop -/
def m1 (st pc q hd : Nat) (om : Bool) (p : Nat) (n : Int) (ans : Option Bool) (seen : Seen) : M :=
  { code := qcode, text := T, lim := lim, start := st, lastStart := lim, pc := pc, pos := q, handed := hd, outermost := false, marks := #[], loops := lp, inner := some 0, frames := [frP p om n, fr0 st om], weight := 2, answer := ans, seen := seen }
/-- in a branch -/
def m2 (st pc q hd : Nat) (om : Bool) (p : Nat) (n : Int) (bpc b : Nat) (ans : Option Bool) (seen : Seen) : M :=
  { code := qcode, text := T, lim := lim, start := st, lastStart := lim, pc := pc, pos := q, handed := hd, outermost := false, marks := #[], loops := lp, inner := some 0, frames := [frB b bpc, frP p om n, fr0 st om], weight := 3, answer := ans, seen := seen }
/-- done -/
def mE (st pc q hd : Nat) (om : Bool) (ans : Bool) (seen : Seen) (o : Option Sre.Outcome) : M :=
  { code := qcode, text := T, lim := lim, start := st, lastStart := lim, pc := pc, pos := q, handed := hd, outermost := om, marks := #[], frames := [], weight := 0, answer := some ans, seen := seen, outcome := o }

variable {T lim}
variable {st q hd p : Nat} {om : Bool} {seen : Seen} {n : Int} {bpc b : Nat}

theorem s_lit9 (h : q < lim) : (m0 T lim st 9 q hd om none seen).step = if T.getD q 0 = 34 then m0 T lim st 11 (q + 1) hd om none (seen.add 16) else m0 T lim st 9 q hd om (some false) (seen.add 16) := by
  have e : (m0 T lim st 9 q hd om none seen).step = if q ≥ lim then m0 T lim st 9 q hd om (some false) (seen.add 16) else
    match (Except.ok (T.getD q 0 == 34, seen.add 16) : Except String (Bool × Seen)) with
    | .error why => { m0 T lim st 9 q hd om none (seen.add 16) with outcome := some (.stuck why) }
    | .ok (false, s) => m0 T lim st 9 q hd om (some false) s
    | .ok (true, s) => m0 T lim st 11 (q + 1) hd om none s := rfl
  rw [e, if_neg (by omega)]
  by_cases hc : T.getD q 0 = 34
  · rw [if_pos hc, show (T.getD q 0 == 34) = true by simpa using hc]
  · rw [if_neg hc, show (T.getD q 0 == 34) = false by simpa using hc]
theorem s_end9 (h : ¬ q < lim) : (m0 T lim st 9 q hd om none seen).step = m0 T lim st 9 q hd om (some false) (seen.add 16) := by
  have e : (m0 T lim st 9 q hd om none seen).step = if q ≥ lim then m0 T lim st 9 q hd om (some false) (seen.add 16) else
    match (Except.ok (T.getD q 0 == 34, seen.add 16) : Except String (Bool × Seen)) with
    | .error why => { m0 T lim st 9 q hd om none (seen.add 16) with outcome := some (.stuck why) }
    | .ok (false, s) => m0 T lim st 9 q hd om (some false) s
    | .ok (true, s) => m0 T lim st 11 (q + 1) hd om none s := rfl
  rw [e, if_pos (by omega)]
theorem s_next (h : st < lim) : (m0 T lim st 9 q hd om (some false) seen).step = m0 T lim (st + 1) 9 (st + 1) (st + 1) false none seen := by
  have e : (m0 T lim st 9 q hd om (some false) seen).step = if st < lim then m0 T lim (st + 1) 9 (st + 1) (st + 1) false none seen else mE T lim st 9 st hd om false seen none := rfl
  rw [e, if_pos h]
theorem s_over (h : ¬ st < lim) : (m0 T lim st 9 q hd om (some false) seen).step = mE T lim st 9 st hd om false seen none := by
  have e : (m0 T lim st 9 q hd om (some false) seen).step = if st < lim then m0 T lim (st + 1) 9 (st + 1) (st + 1) false none seen else mE T lim st 9 st hd om false seen none := rfl
  rw [e, if_neg h]
theorem s_fail : (mE T lim st 9 q hd om false seen none).step = mE T lim st 9 q hd om false seen (some .failed) := rfl
theorem s_won : (mE T lim st 9 q hd om true seen none).step = mE T lim st 9 q hd om true seen (some .matched) := rfl
theorem s_poss : (m0 T lim st 11 q hd om none seen).step = m1 T lim st 15 q q om q 0 none (seen.add 28) := by kernel_rfl
theorem s_branch : (m1 T lim st 15 q hd om p n none seen).step = m2 T lim st 17 q q om p n 16 q none (seen.add 7) := by kernel_rfl
theorem s_in (h : q < lim) : ∃ seen', (m2 T lim st 17 q hd om p n 16 b none seen).step = if T.getD q 0 = 34 ∨ T.getD q 0 = 92 then m2 T lim st 17 q hd om p n 16 b (some false) seen' else m2 T lim st 25 (q + 1) hd om p n 16 b none seen' := by
  have e : (m2 T lim st 17 q hd om p n 16 b none seen).step = if q ≥ lim then m2 T lim st 17 q hd om p n 16 b (some false) (seen.add 13) else
    match (if T.getD q 0 == 34 then Except.ok (false, (((seen.add 13).add 21).add 16)) else if T.getD q 0 == 92 then Except.ok (false, ((((seen.add 13).add 21).add 16).add 16)) else Except.ok (true, (((((seen.add 13).add 21).add 16).add 16).add 0)) : Except String (Bool × Seen)) with
    | .error why => { m2 T lim st 17 q hd om p n 16 b none (seen.add 13) with outcome := some (.stuck why) }
    | .ok (false, s) => m2 T lim st 17 q hd om p n 16 b (some false) s
    | .ok (true, s) => m2 T lim st 25 (q + 1) hd om p n 16 b none s := by kernel_rfl
  rw [e, if_neg (by omega)]
  by_cases hc : T.getD q 0 = 34
  · refine ⟨((seen.add 13).add 21).add 16, ?_⟩
    rw [if_pos (show T.getD q 0 = 34 ∨ T.getD q 0 = 92 from Or.inl hc), show (T.getD q 0 == 34) = true by simpa using hc]; rfl
  · rw [show (T.getD q 0 == 34) = false by simpa using hc]
    by_cases hd : T.getD q 0 = 92
    · refine ⟨(((seen.add 13).add 21).add 16).add 16, ?_⟩
      rw [if_pos (show T.getD q 0 = 34 ∨ T.getD q 0 = 92 from Or.inr hd), show (T.getD q 0 == 92) = true by simpa using hd]; rfl
    · refine ⟨((((seen.add 13).add 21).add 16).add 16).add 0, ?_⟩
      rw [if_neg (show ¬ (T.getD q 0 = 34 ∨ T.getD q 0 = 92) from fun h => h.elim hc hd), show (T.getD q 0 == 92) = false by simpa using hd]; rfl
theorem s_jump25 : (m2 T lim st 25 q hd om p n 16 b none seen).step = m2 T lim st 34 q hd om p n 16 b none (seen.add 15) := by kernel_rfl
theorem s_succ34 : (m2 T lim st 34 q hd om p n bpc b none seen).step = m2 T lim st 34 q q om p n bpc b (some true) (seen.add 1) := by kernel_rfl
theorem s_won_b : (m2 T lim st 34 q hd om p n bpc b (some true) seen).step = m1 T lim st bpc b hd om p n (some true) seen := by kernel_rfl
theorem s_won_p (h : p ≠ hd) (hn : 0 ≤ n) : ∀ {pc}, (m1 T lim st pc q hd om p n (some true) seen).step = m1 T lim st 15 hd hd om hd (n + 1) none seen := by
  intro pc
  have e : (m1 T lim st pc q hd om p n (some true) seen).step = if n + 1 < ((0 : Nat) : Int) then
      { m1 T lim st 15 hd hd om p n none seen with frames := [{ wait := .possBelow, pc := 11, pos := p, outermost := om, count := n + 1 }, fr0 st om], weight := 2 } else
      if (decide (n + 1 < ((4294967295 : Nat) : Int)) || (4294967295 : Nat) == Sre.maxRepeat) && (some p != some hd) then m1 T lim st 15 hd hd om hd (n + 1) none seen else m0 T lim st 35 hd hd om none seen := by kernel_rfl
  rw [e, if_neg (by omega), if_pos (by simp [Sre.maxRepeat, h])]
theorem s_no_b : (m2 T lim st 17 q hd om p n 16 b (some false) seen).step = m2 T lim st 28 b b om p n 27 b none seen := by kernel_rfl
theorem s_lit28 (h : q < lim) : (m2 T lim st 28 q hd om p n 27 b none seen).step = if T.getD q 0 = 92 then m2 T lim st 30 (q + 1) hd om p n 27 b none (seen.add 16) else m2 T lim st 28 q hd om p n 27 b (some false) (seen.add 16) := by
  have e : (m2 T lim st 28 q hd om p n 27 b none seen).step = if q ≥ lim then m2 T lim st 28 q hd om p n 27 b (some false) (seen.add 16) else
    match (Except.ok (T.getD q 0 == 92, seen.add 16) : Except String (Bool × Seen)) with
    | .error why => { m2 T lim st 28 q hd om p n 27 b none (seen.add 16) with outcome := some (.stuck why) }
    | .ok (false, s) => m2 T lim st 28 q hd om p n 27 b (some false) s
    | .ok (true, s) => m2 T lim st 30 (q + 1) hd om p n 27 b none s := by kernel_rfl
  rw [e, if_neg (by omega)]
  by_cases hc : T.getD q 0 = 92
  · rw [if_pos hc, show (T.getD q 0 == 92) = true by simpa using hc]
  · rw [if_neg hc, show (T.getD q 0 == 92) = false by simpa using hc]
theorem s_any30 (h : q < lim) (hc : T.getD q 0 ≠ 10) : (m2 T lim st 30 q hd om p n 27 b none seen).step = m2 T lim st 31 (q + 1) hd om p n 27 b none (seen.add 2) := by
  have e : (m2 T lim st 30 q hd om p n 27 b none seen).step = if q ≥ lim then m2 T lim st 30 q hd om p n 27 b (some false) (seen.add 2) else
    match (Except.ok (T.getD q 0 != 10, seen.add 2) : Except String (Bool × Seen)) with
    | .error why => { m2 T lim st 30 q hd om p n 27 b none (seen.add 2) with outcome := some (.stuck why) }
    | .ok (false, s) => m2 T lim st 30 q hd om p n 27 b (some false) s
    | .ok (true, s) => m2 T lim st 31 (q + 1) hd om p n 27 b none s := by kernel_rfl
  rw [e, if_neg (by omega), show (T.getD q 0 != 10) = true by simpa using hc]
theorem s_jump31 : (m2 T lim st 31 q hd om p n 27 b none seen).step = m2 T lim st 34 q hd om p n 27 b none (seen.add 15) := by kernel_rfl
theorem s_no_b2 : (m2 T lim st 28 q hd om p n 27 b (some false) seen).step = m1 T lim st 27 b hd om p n (some false) seen := by kernel_rfl
theorem s_no_p (hn : 0 ≤ n) : ∀ {pc}, (m1 T lim st pc q hd om p n (some false) seen).step = m0 T lim st 35 p p om none seen := by
  intro pc
  have e : (m1 T lim st pc q hd om p n (some false) seen).step = if n < ((0 : Nat) : Int) then
      { m1 T lim st 15 p p om p n none seen with frames := [{ wait := .possBelow, pc := 11, pos := p, outermost := om, count := n }, fr0 st om], weight := 2 } else
      if (decide (n < ((4294967295 : Nat) : Int)) || (4294967295 : Nat) == Sre.maxRepeat) && (some p != some p) then m1 T lim st 15 p p om p n none seen else m0 T lim st 35 p p om none seen := by kernel_rfl
  rw [e, if_neg (by omega), if_neg (by simp)]
theorem s_lit35 (h : q < lim) (hc : T.getD q 0 = 34) : (m0 T lim st 35 q hd om none seen).step = m0 T lim st 37 (q + 1) hd om none (seen.add 16) := by
  have e : (m0 T lim st 35 q hd om none seen).step = if q ≥ lim then m0 T lim st 35 q hd om (some false) (seen.add 16) else
    match (Except.ok (T.getD q 0 == 34, seen.add 16) : Except String (Bool × Seen)) with
    | .error why => { m0 T lim st 35 q hd om none (seen.add 16) with outcome := some (.stuck why) }
    | .ok (false, s) => m0 T lim st 35 q hd om (some false) s
    | .ok (true, s) => m0 T lim st 37 (q + 1) hd om none s := by kernel_rfl
  rw [e, if_neg (by omega), show (T.getD q 0 == 34) = true by simpa using hc]
theorem s_succ37 : (m0 T lim st 37 q hd om none seen).step = m0 T lim st 37 q q om (some true) (seen.add 1) := by
  cases om <;> kernel_rfl
theorem s_won0 : ∀ {pc}, (m0 T lim st pc q hd om (some true) seen).step = mE T lim st 9 st hd om true seen none := by intro pc; kernel_rfl

/-- the loop's head -/
def hd1 (T : Array Nat) (lim st q : Nat) (om : Bool) (n : Int) (seen : Seen) : M := m1 T lim st 15 q q om q n none seen
theorem g_plain (h : q < lim) (hc : T.getD q 0 ≠ 34) (hc' : T.getD q 0 ≠ 92) (hn : 0 ≤ n) : ∃ seen', Go 6 (hd1 T lim st q om n seen) (hd1 T lim st (q + 1) om (n + 1) seen') := by
  obtain ⟨s1, e1⟩ := s_in (T := T) (lim := lim) (st := st) (q := q) (hd := q) (p := q) (om := om) (seen := seen.add 7) (n := n) (b := q) h
  rw [if_neg (show ¬ (T.getD q 0 = 34 ∨ T.getD q 0 = 92) from fun h => h.elim hc hc')] at e1
  exact ⟨_, ((((((Go.step s_branch rfl).trans (Go.step e1 rfl)).trans (Go.step s_jump25 rfl)).trans (Go.step s_succ34 rfl)).trans (Go.step s_won_b rfl)).trans (Go.step (s_won_p (by omega) hn) rfl))⟩
theorem g_pair (h : q + 1 < lim) (hc : T.getD q 0 = 92) (hc' : T.getD (q + 1) 0 ≠ 10) (hn : 0 ≤ n) : ∃ seen', Go 9 (hd1 T lim st q om n seen) (hd1 T lim st (q + 2) om (n + 1) seen') := by
  obtain ⟨s1, e1⟩ := s_in (T := T) (lim := lim) (st := st) (q := q) (hd := q) (p := q) (om := om) (seen := seen.add 7) (n := n) (b := q) (by omega)
  rw [if_pos (.inr hc)] at e1
  have e2 := s_lit28 (T := T) (lim := lim) (st := st) (q := q) (hd := q) (p := q) (om := om) (seen := s1) (n := n) (b := q) (by omega)
  rw [if_pos hc] at e2
  exact ⟨_, (((((((((Go.step s_branch rfl).trans (Go.step e1 rfl)).trans (Go.step s_no_b rfl)).trans (Go.step e2 rfl)).trans (Go.step (s_any30 h hc') rfl)).trans (Go.step s_jump31 rfl)).trans (Go.step s_succ34 rfl)).trans (Go.step s_won_b rfl)).trans (Go.step (s_won_p (by omega) hn) rfl))⟩
theorem g_close (h : q < lim) (hc : T.getD q 0 = 34) (hn : 0 ≤ n) : ∃ seen', Go 10 (hd1 T lim st q om n seen) (mE T lim st 9 st (q + 1) om true seen' (some .matched)) := by
  obtain ⟨s1, e1⟩ := s_in (T := T) (lim := lim) (st := st) (q := q) (hd := q) (p := q) (om := om) (seen := seen.add 7) (n := n) (b := q) (by omega)
  rw [if_pos (.inl hc)] at e1
  have e2 := s_lit28 (T := T) (lim := lim) (st := st) (q := q) (hd := q) (p := q) (om := om) (seen := s1) (n := n) (b := q) (by omega)
  rw [if_neg (by omega)] at e2
  exact ⟨_, ((((((((((Go.step s_branch rfl).trans (Go.step e1 rfl)).trans (Go.step s_no_b rfl)).trans (Go.step e2 rfl)).trans (Go.step s_no_b2 rfl)).trans (Go.step (s_no_p hn) rfl)).trans (Go.step (s_lit35 h hc) rfl)).trans (Go.step s_succ37 rfl)).trans (Go.step s_won0 rfl)).trans (Go.step s_won rfl))⟩

/-- what may stand between two quotes -/
inductive Body : List Nat → Prop
  | nil : Body []
  | plain {c : Nat} {l : List Nat} : c ≠ 34 → c ≠ 92 → Body l → Body (c :: l)
  | pair {c : Nat} {l : List Nat} : c ≠ 10 → Body l → Body (92 :: c :: l)

/-- from q on the text reads so -/
def Reads (T : Array Nat) (q : Nat) (l : List Nat) : Prop := ∀ i c, l[i]? = some c → T.getD (q + i) 0 = c
theorem Reads.head {c : Nat} {l : List Nat} (h : Reads T q (c :: l)) : T.getD q 0 = c := h 0 c rfl
theorem Reads.tail {c : Nat} {l : List Nat} (h : Reads T q (c :: l)) : Reads T (q + 1) l := fun i d e => by
  have := h (i + 1) d (by simpa using e)
  rwa [show q + 1 + i = q + (i + 1) by omega]

theorem g_body : ∀ {l : List Nat}, Body l → ∀ {q : Nat} {n : Int} {seen : Seen}, 0 ≤ n → Reads T q (l ++ [34]) → q + l.length < lim →
    ∃ k seen', k ≤ 9 * l.length + 10 ∧ Go k (hd1 T lim st q om n seen) (mE T lim st 9 st (q + l.length + 1) om true seen' (some .matched))
  | _, .nil, q, n, seen, hn, hR, hl => by
    obtain ⟨s', g⟩ := g_close (T := T) (lim := lim) (st := st) (q := q) (om := om) (seen := seen) (n := n) (by simpa using hl) hR.head hn
    exact ⟨10, s', by simp, g⟩
  | _, .plain (c := c) (l := l) h1 h2 hb, q, n, seen, hn, hR, hl => by
    have h0 : T.getD q 0 = c := Reads.head hR
    obtain ⟨s1, g1⟩ := g_plain (T := T) (lim := lim) (st := st) (q := q) (om := om) (seen := seen) (n := n) (by simp at hl; omega) (by rw [h0]; exact h1) (by rw [h0]; exact h2) hn
    obtain ⟨k, s2, hk, g2⟩ := g_body hb (q := q + 1) (n := n + 1) (seen := s1) (by omega) (Reads.tail hR) (by simp at hl; omega)
    refine ⟨6 + k, s2, by simp; omega, ?_⟩
    have e : q + (c :: l).length + 1 = q + 1 + l.length + 1 := by simp; omega
    rw [e]; exact g1.trans g2
  | _, .pair (c := c) (l := l) h1 hb, q, n, seen, hn, hR, hl => by
    have h0 : T.getD q 0 = 92 := Reads.head hR
    have h0' : T.getD (q + 1) 0 = c := Reads.head (Reads.tail hR)
    obtain ⟨s1, g1⟩ := g_pair (T := T) (lim := lim) (st := st) (q := q) (om := om) (seen := seen) (n := n) (by simp at hl; omega) h0 (by rw [h0']; exact h1) hn
    obtain ⟨k, s2, hk, g2⟩ := g_body hb (q := q + 2) (n := n + 1) (seen := s1) (by omega) (Reads.tail (Reads.tail hR)) (by simp at hl; omega)
    refine ⟨9 + k, s2, by simp; omega, ?_⟩
    have e : q + (92 :: c :: l).length + 1 = q + 2 + l.length + 1 := by simp; omega
    rw [e]; exact g1.trans g2

/-- from q a quoted part is met -/
theorem g_hit {l : List Nat} (hb : Body l) (hR : Reads T q (34 :: l ++ [34])) (hl : q + l.length + 1 < lim) :
    ∃ k seen', k ≤ 9 * l.length + 12 ∧ Go k (m0 T lim q 9 q hd om none seen) (mE T lim q 9 q (q + l.length + 2) om true seen' (some .matched)) := by
  have h0 : T.getD q 0 = 34 := Reads.head hR
  have e1 := s_lit9 (T := T) (lim := lim) (st := q) (q := q) (hd := hd) (om := om) (seen := seen) (by omega)
  rw [if_pos h0] at e1
  obtain ⟨k, s2, hk, g2⟩ := g_body (T := T) (lim := lim) (st := q) (om := om) hb (q := q + 1) (n := 0) (seen := (seen.add 16).add 28) (by omega) (Reads.tail hR) (by omega)
  refine ⟨1 + 1 + k, s2, by omega, ?_⟩
  have e : q + l.length + 2 = q + 1 + l.length + 1 := by omega
  rw [e]
  exact ((Go.step e1 rfl).trans (Go.step s_poss rfl)).trans g2

theorem g_skip : ∀ (us : List Nat) {q hd : Nat} {om : Bool} {seen : Seen}, (∀ c ∈ us, c ≠ 34) → Reads T q us → q + us.length ≤ lim →
    ∃ k hd' om' seen', k ≤ 2 * us.length ∧ Go k (m0 T lim q 9 q hd om none seen) (m0 T lim (q + us.length) 9 (q + us.length) hd' om' none seen')
  | [], q, hd, om, seen, _, _, _ => ⟨0, hd, om, seen, by simp, Go.zero _⟩
  | c :: us, q, hd, om, seen, hu, hR, hl => by
    have h0 : T.getD q 0 = c := Reads.head hR
    have hq : q < lim := by simp at hl; omega
    have e1 := s_lit9 (T := T) (lim := lim) (st := q) (q := q) (hd := hd) (om := om) (seen := seen) hq
    rw [if_neg (by rw [h0]; exact hu c (.head _))] at e1
    obtain ⟨k, hd', om', s2, hk, g2⟩ := g_skip us (q := q + 1) (hd := q + 1) (om := false) (seen := seen.add 16) (fun d hd => hu d (.tail _ hd)) (Reads.tail hR) (by simp at hl; omega)
    refine ⟨1 + 1 + k, hd', om', s2, by simp; omega, ?_⟩
    have e : q + (c :: us).length = q + 1 + us.length := by simp; omega
    rw [e]
    exact ((Go.step e1 rfl).trans (Go.step (s_next hq) rfl)).trans g2

theorem g_none : ∃ seen', Go 3 (m0 T lim lim 9 lim hd om none seen) (mE T lim lim 9 lim hd om false seen' (some .failed)) :=
  ⟨_, ((Go.step (s_end9 (Nat.lt_irrefl _)) rfl).trans (Go.step (s_over (Nat.lt_irrefl _)) rfl)).trans (Go.step s_fail rfl)⟩

def mS (T : Array Nat) (lim q : Nat) (o : Option Sre.Outcome) : M := { code := qcode, text := T, lim := lim, start := q, pc := 9, pos := q, handed := q, marks := #[], seen := ({} : Seen).add 14, answer := some false, outcome := o }
theorem search_eq : Sre.forSearch qcode T 0 q lim false = if (decide (q > lim) || decide (lim - q < 2)) = true then mS T lim q none else m0 T lim q 9 q q true none (({} : Seen).add 14) := by kernel_rfl

/-- no quote from q on: nothing is found -/
theorem search_none {us : List Nat} (hu : ∀ c ∈ us, c ≠ 34) (hR : Reads T q us) (hl : q + us.length = lim) :
    ∃ k m', k ≤ 2 * us.length + 3 ∧ Go k (Sre.forSearch qcode T 0 q lim false) m' ∧ m'.outcome = some .failed := by
  rw [search_eq]
  by_cases h2 : lim - q < 2
  · rw [if_pos (by simp [h2])]
    exact ⟨1, mS T lim q (some .failed), by omega, Go.step (by kernel_rfl) rfl, rfl⟩
  · rw [if_neg (by simp; omega)]
    obtain ⟨k, hd', om', s', hk, g⟩ := g_skip (T := T) (lim := lim) us (q := q) (hd := q) (om := true) (seen := ({} : Seen).add 14) hu hR (by omega)
    rw [hl] at g
    obtain ⟨s2, g2⟩ := g_none (T := T) (lim := lim) (hd := hd') (om := om') (seen := s')
    exact ⟨k + 3, _, by omega, g.trans g2, rfl⟩
/-- a quoted part behind us -/
theorem search_some {us l : List Nat} (hu : ∀ c ∈ us, c ≠ 34) (hb : Body l) (hR : Reads T q (us ++ (34 :: l ++ [34]))) (hl : q + us.length + l.length + 2 ≤ lim) :
    ∃ k m', k ≤ 2 * us.length + 9 * l.length + 12 ∧ Go k (Sre.forSearch qcode T 0 q lim false) m' ∧ m'.outcome = some .matched ∧ m'.start = q + us.length ∧ m'.handed = q + us.length + l.length + 2 := by
  rw [search_eq, if_neg (by simp; omega)]
  have hR1 : Reads T q us := fun i c e => hR i c (by
    have hi : i < us.length := by
      rcases Nat.lt_or_ge i us.length with h | h
      · exact h
      · rw [List.getElem?_eq_none h] at e; cases e
    rw [List.getElem?_append_left hi]; exact e)
  have hR2 : Reads T (q + us.length) (34 :: l ++ [34]) := fun i c e => by
    have := hR (us.length + i) c (by rw [List.getElem?_append_right (by omega)]; simpa using e)
    rwa [Nat.add_assoc]
  obtain ⟨k, hd', om', s', hk, g⟩ := g_skip (T := T) (lim := lim) us (q := q) (hd := q) (om := true) (seen := ({} : Seen).add 14) hu hR1 (by omega)
  obtain ⟨k2, s2, hk2, g2⟩ := g_hit (T := T) (lim := lim) (hd := hd') (om := om') (seen := s') hb hR2 (by omega)
  exact ⟨k + k2, _, by omega, g.trans g2, rfl, rfl, rfl⟩
end
end Mine

/-! MJoin -/
namespace Mine
set_option maxRecDepth 100000
open PySem PySem.W PyProof.Rows PySem.Calls PySem.Builtin
set_option maxHeartbeats 4000000

theorem slot_bytes_join : Slot "bytes" "join" "bytes.join" :=
  .of (owner := "bytes") (n := "join") (by rw [typeLookup_type, builtinLookup_eq_fast]; kernel_rfl) (by decide +kernel) (by decide +kernel) (by decide +kernel)
    (by first | exact .inl (by decide +kernel) | exact .inr (by decide +kernel)) (by rw [isSubtype_type]; kernel_rfl)
theorem entry_bytes_join : entryFor table "bytes.join" = some Builtin.«bytes.join» := entryFor_of_tree (by kernel_rfl)
theorem args_bytes_join_2 (a b : Value) : argsOk "bytes.join" ⟨[a, b], []⟩ := by
  unfold argsOk; rw [signature?_of (id := "bytes.join") (n := ['n', 'i', 'o', 'j']) (o := ['s', 'e', 't', 'y', 'b']) (by kernel_rfl) FB.owner_bytes]; kernel_rfl

theorem take_eq {id : String} {b : Array UInt8} {t : Tok} : Bytes.takeBuffer? id (.bytes b t) 0 = pure (some (b, none)) := by
  unfold Bytes.takeBuffer?
  rw [KBy.special_eq KBy.look_buffer, KBy.own_buffer]
  simp only [pure_bind]
  show (do let __do_lift ← Bytes.buffer? id (.bytes b t) (full := (0 : Int) == Bytes.fullReadOnly); pure (Option.map (fun x => (x, none)) __do_lift)) = _
  rw [show ((0 : Int) == Bytes.fullReadOnly) = false by decide +kernel]
  rw [KBy.buffer_eq]
  rfl

theorem quiet_take {M : Model} {A : Around} {E : Value → Shared → Prop} {s : Shared} {id : String} {b : Array UInt8} {t : Tok} {Q : Option (Array UInt8 × Option Value) → Shared → Prop} (h : Q (some (b, none)) s) : wpAny M A (Bytes.takeBufferQuiet? id (.bytes b t) 0) Q E s := by
  unfold Bytes.takeBufferQuiet?
  rw [take_eq]
  exact wpAny_bind (wpAny_attempt (wpAny_pure (wpAny_pure h)))

theorem letgo_any {M : Model} {A : Around} {E : Value → Shared → Prop} {s : Shared} {keep : List Value} {Q : Unit → Shared → Prop} : ∀ (taken : List (Value × Option Value)), (∀ p ∈ taken, p.2 = none) → Q () s → wpAny M A (Bytes.joinLetGo taken keep) Q E s
  | [], _, h => wpAny_pure h
  | (x, w) :: rest, hw, h => by
    have : w = none := hw (x, w) (.head _)
    subst this
    show wpAny M A (letGo [x] (keep ++ rest.flatMap fun p => p.1 :: p.2.toList) >>= fun _ => Bytes.joinLetGo rest keep) Q E s
    exact wpAny_bind (wpAny_letGo (letgo_any rest (fun p hp => hw p (.tail _ hp)) h))

theorem for_range {M : Model} {A : Around} {E : Value → Shared → Prop} {β : Type} {n : Nat} {f : Nat → β → Sem (ForInStep β)} (I : Nat → β → Shared → Prop) {Q : β → Shared → Prop}
    (turn : ∀ i b s, i < n → I i b s → wpAny M A (f i b) (fun r s' => match r with | .done b' => False | .yield b' => I (i + 1) b' s') E s)
    (fin : ∀ b s, I n b s → Q b s) {b : β} {s : Shared} (h : I 0 b s) : wpAny M A (forIn [:n] b f) Q E s := by
  rw [Std.Legacy.Range.forIn_eq_forIn_range']
  have hsz : ([:n] : Std.Legacy.Range).size = n := by simp [Std.Legacy.Range.size]
  show wpAny M A (forIn (List.range' 0 ([:n] : Std.Legacy.Range).size 1) b f) Q E s
  rw [hsz]
  refine wpAny_forIn_list f (fun l c st => ∃ i, i ≤ n ∧ l = List.range' i (n - i) 1 ∧ I i c st) Q ?_ ?_ _ b ⟨0, Nat.zero_le _, rfl, h⟩
  · rintro x rest c st ⟨i, hi, hl, hI⟩
    have hlt : i < n := by
      rcases Nat.lt_or_ge i n with h' | h'
      · exact h'
      · rw [show n - i = 0 by omega] at hl; simp at hl
    obtain ⟨k, hk⟩ : ∃ k, n - i = k + 1 := ⟨n - i - 1, by omega⟩
    rw [hk, List.range'_succ] at hl
    obtain ⟨rfl, rfl⟩ := List.cons.inj hl
    refine wpAny_mono (turn x c st (by omega) hI) (fun r st' h' => ?_) fun _ _ e => e
    cases r with
    | done c' => exact h'.elim
    | yield c' => exact ⟨x + 1, by omega, by congr 1; omega, h'⟩
  · rintro c st ⟨i, hi, hl, hI⟩
    have : i = n := by
      rcases Nat.lt_or_ge i n with h' | h'
      · obtain ⟨k, hk⟩ : ∃ k, n - i = k + 1 := ⟨n - i - 1, by omega⟩
        rw [hk, List.range'_succ] at hl; simp at hl
      · omega
    subst this; exact fin _ _ hI

theorem joined_nil (ps : List (Array UInt8)) : (Bytes.joined #[] ps).toList = (ps.map (·.toList)).flatten := by
  have key : ∀ (l : List (Array UInt8 × Nat)) (out : Array UInt8), (l.foldl (fun out (x : Array UInt8 × Nat) => (if x.2 > 0 then out ++ (#[] : Array UInt8) else out) ++ x.1) out).toList = out.toList ++ (l.map (·.1.toList)).flatten := by
    intro l
    induction l with
    | nil => intro out; simp
    | cons x l ih =>
      intro out
      rw [List.foldl_cons, ih]
      simp
  unfold Bytes.joined
  have := key ps.zipIdx #[]
  simp only [List.zipIdx] at this ⊢
  refine (key (ps.zipIdx 0) #[]).trans ?_
  have e : (ps.zipIdx 0).map (·.1.toList) = ps.map (·.toList) := by
    have : (ps.zipIdx 0).map (·.1) = ps := by simp
    conv => rhs; rw [← this]
    rw [List.map_map]; rfl
  rw [e]; simp
theorem foldl_sizes (ps : List (Array UInt8)) : ∀ n, ps.foldl (fun x1 x2 => x1 + x2.size) n = n + (ps.map (·.size)).sum := by
  induction ps with
  | nil => intro n; simp
  | cons p ps ih => intro n; rw [List.foldl_cons, ih]; simp; omega

theorem join_list {M : Model} {A : Around} {E : Value → Shared → Prop} {s : Shared} {a : Addr} {t : Tok} {vs : List (Array UInt8 × Tok)} {n : Nat} {Q : Fin → Shared → Prop}
    (ha : s.heap.get? a = some (PySem.W.listOf (vs.map fun p => Value.bytes p.1 p.2).toArray n)) (hne : vs ≠ []) (hsz : (vs.map (·.1.size)).sum ≤ sizeLine)
    (h : ∀ b t tk, b.toList = (vs.map (·.1.toList)).flatten → Q (.done (.ret (.bytes b t))) { s with toks := tk }) : wpAny M A (Builtin.«bytes.join» ⟨[.bytes #[] t, .ref a], []⟩) Q E s := by
  show wpAny M A (Bytes.joinM .bytes _) Q E s
  unfold Bytes.joinM
  obtain ⟨hp, g, d, tk, os⟩ := s
  have ha' : hp.get? a = some { cls := Value.type "list", data := Data.seq (vs.map fun p => Value.bytes p.1 p.2).toArray n } := ha
  repeat (any_goals (first | assumption | wp_step))
  by_cases h1 : vs.length = 1
  · obtain ⟨⟨b, u⟩, rfl⟩ : ∃ p, vs = [p] := by
      match vs, h1 with
      | [p], _ => exact ⟨p, rfl⟩
    show wpAny M A (typeOf (Value.bytes b u) >>= fun ty => if (ty == Value.type "bytes") = true then _ else _) Q E _
    refine wpAny_bind (m := typeOf (Value.bytes b u)) (wpAny_pure ?_)
    rw [if_pos (by decide)]
    exact wpAny_bind (wpAny_rule (wpAny_pure (h b u tk (by simp))))
  · have hs1 : (List.map (fun p => Value.bytes p.fst p.snd) vs).toArray.size ≠ 1 := by simpa using h1
    unfold PySem.Builtin.Bytes.joinM.match_1
    rw [dif_neg hs1]
    dsimp only
    refine wpAny_bind ?_
    have hsz0 : (List.map (fun p => Value.bytes p.fst p.snd) vs).toArray.size = vs.length := by simp
    rw [hsz0]
    refine for_range (fun i st s' => s' = ⟨hp, g, d, tk, os⟩ ∧ st.1 = ((vs.take i).map (·.1)).toArray ∧ st.2 = (vs.take i).map fun p => (Value.bytes p.1 p.2, none)) ?_ ?_ ⟨rfl, by simp, by simp⟩
    · rintro i ⟨parts, taken⟩ s' hi ⟨rfl, hp1, hp2⟩
      dsimp only at hp1 hp2 ⊢
      have hon : (taken.any fun x => x.fst.onHeap) = false := by
        rw [hp2]
        refine List.any_eq_false.mpr fun x hx => ?_
        obtain ⟨q, _, rfl⟩ := List.mem_map.mp hx
        simp [Value.onHeap]
      refine wpAny_bind (wpAny_seqItems ha' rfl ?_)
      dsimp only
      have hget : (List.map (fun p => Value.bytes p.fst p.snd) vs).toArray.getD i Value.none = Value.bytes vs[i].1 vs[i].2 := by
        simp [Array.getD, hi]
      rw [hget, hon]
      have hc : ¬ ((Bytes.Kind.bytes == Bytes.Kind.bytearray || false) = true) := by decide
      rw [if_neg hc]
      refine wpAny_bind (wpAny_holding (quiet_take ?_))
      dsimp only
      refine wpAny_bind (wpAny_seqItems ha' rfl ?_)
      dsimp only
      rw [hsz0, if_neg (by simp)]
      refine wpAny_pure ⟨rfl, ?_, ?_⟩
      · have e : vs.take (i + 1) = vs.take i ++ [vs[i]] := by rw [List.take_add_one]; simp [hi]
        rw [hp1, e, List.map_append]; simp
      · have e : vs.take (i + 1) = vs.take i ++ [vs[i]] := by rw [List.take_add_one]; simp [hi]
        rw [hp2, e, List.map_append]; rfl
    · rintro ⟨parts, taken⟩ s' ⟨rfl, hp1, hp2⟩
      dsimp only at hp1 hp2 ⊢
      rw [List.take_length] at hp1 hp2
      subst hp1 hp2
      refine wpAny_bind (m := Bytes.payload (Value.bytes #[] t)) (wpAny_pure ?_)
      have hlong : Bytes.tooLong (Array.foldl (fun x1 x2 => x1 + x2.size) ((#[] : Array UInt8).size * ((vs.map (·.1)).toArray.size - 1)) (vs.map (·.1)).toArray) = false := by
        unfold Bytes.tooLong
        refine decide_eq_false ?_
        rw [List.foldl_toArray, foldl_sizes]
        simp only [List.map_map]
        have : ((fun x : Array UInt8 => x.size) ∘ fun x : Array UInt8 × Tok => x.1) = fun x => x.1.size := rfl
        rw [this]
        simpa using hsz
      rw [hlong]
      rw [if_neg (by simp)]
      refine wpAny_bind (wpAny_mkBytes ?_ ?_)
      · refine wpAny_bind (wpAny_holding (wpAny_point ?_))
        refine wpAny_bind (letgo_any _ (fun p hp => ?_) ?_)
        · obtain ⟨q, _, rfl⟩ := List.mem_map.mp hp
          rfl
        · refine wpAny_pure (h _ _ _ ?_)
          rw [joined_nil]
          simp
          rfl
      · have : (Bytes.joined #[] (vs.map (·.1))).size = (vs.map (·.1.size)).sum := by
          have := congrArg List.length (joined_nil (vs.map (·.1)))
          rw [Array.length_toList] at this
          rw [this, List.length_flatten]
          simp [List.map_map, Function.comp_def]
        simpa using this ▸ hsz
end Mine

/-! MQuo -/
namespace Mine
set_option maxRecDepth 100000
open PySem PySem.W PyProof.Rows PySem.Calls PySem.Builtin PySem.Builtin.Re
set_option maxHeartbeats 4000000

theorem plainAttrs_pat : PlainAttrs "re.Pattern" :=
  ⟨⟨"object.__getattribute__", by rw [typeLookup_type, builtinLookup_eq_fast]; kernel_rfl, by decide +kernel⟩, by rw [typeLookup_type, builtinLookup_eq_fast]; kernel_rfl⟩
theorem owner_pat : Manifest.owners.lookup (String.ofList ['n', 'r', 'e', 't', 't', 'a', 'P', '.', 'e', 'r'].reverse) = some Manifest.sig_re_Pattern := by kernel_rfl
theorem slot_pat_sub : Slot "re.Pattern" "sub" "re.Pattern.sub" :=
  .of (owner := "re.Pattern") (n := "sub") (by rw [typeLookup_type, builtinLookup_eq_fast]; kernel_rfl) (by decide +kernel) (by decide +kernel) (by decide +kernel)
    (by first | exact .inl (by decide +kernel) | exact .inr (by decide +kernel)) (by rw [isSubtype_type]; kernel_rfl)
theorem type_pat_sub : typeOf (.builtin "re.Pattern.sub") = pure (.type "method_descriptor") := by show builtinType _ = _; rw [builtinType_eq_fast]; kernel_rfl
theorem entry_pat_sub : entryFor table "re.Pattern.sub" = some Builtin.«re.Pattern.sub» := entryFor_of_tree (by kernel_rfl)
theorem entry_pat_sub_loop : entryFor table "re.Pattern.sub.loop" = some Builtin.«re.Pattern.sub.loop» := entryFor_of_tree (by kernel_rfl)
theorem plain_pat_sub_loop : plainId "re.Pattern.sub.loop" = true := by decide +kernel
theorem args_pat_sub (a b c : Value) : argsOk "re.Pattern.sub" ⟨[a, b, c], []⟩ := by
  unfold argsOk; rw [signature?_of (id := "re.Pattern.sub") (n := ['b', 'u', 's']) (o := ['n', 'r', 'e', 't', 't', 'a', 'P', '.', 'e', 'r']) (by kernel_rfl) owner_pat]; kernel_rfl

theorem run_add (a b : Nat) (m : Sre.M) : m.runFor (a + b) = (m.runFor a).runFor b := by
  induction a generalizing m with
  | zero => rw [Nat.zero_add]; rfl
  | succ a ih =>
    rw [show a + 1 + b = (a + b) + 1 by omega]
    show (if m.outcome.isSome = true then m else Sre.M.runFor (a + b) m.step) = Sre.M.runFor b (if m.outcome.isSome = true then m else Sre.M.runFor a m.step)
    by_cases h : m.outcome.isSome = true
    · rw [if_pos h, if_pos h]
      cases b with
      | zero => rfl
      | succ b => show m = (if m.outcome.isSome = true then m else _); rw [if_pos h]
    · rw [if_neg h, if_neg h, ih]
theorem run_done {m : Sre.M} (h : m.outcome.isSome = true) (b : Nat) : m.runFor b = m := by
  cases b with
  | zero => rfl
  | succ b => show (if m.outcome.isSome = true then m else _) = m; rw [if_pos h]

theorem drive {M : Model} {A : Around} {E : Value → Shared → Prop} {s : Shared} {Q : Sre.M → Shared → Prop} {m' : Sre.M} (hm : m'.outcome.isSome = true) (hQ : Q m' s) :
    ∀ (turns k : Nat) (m : Sre.M), k < turns → Go k m m' → wpAny M A (reDrive turns m) Q E s
  | 0, k, m, h, _ => by omega
  | turns + 1, k, m, h, g => by
    show wpAny M A (let m := m.runFor reTurnSteps; if m.outcome.isSome then pure m else do rule "sre.turn"; reDrive turns m) Q E s
    dsimp only
    have e4 : m.runFor reTurnSteps = m.runFor 4 := rfl
    rw [e4]
    by_cases hk : k ≤ 4
    · have e : m.runFor 4 = m' := by
        have := g (4 - k)
        rw [show k + (4 - k) = 4 by omega] at this
        rw [this, run_done hm]
      rw [e, if_pos hm]
      exact wpAny_pure hQ
    · by_cases ho : (m.runFor 4).outcome.isSome = true
      · rw [if_pos ho]
        have e : m.runFor 4 = m' := by
          have h0 := g 0
          rw [show k + 0 = 4 + (k - 4) by omega, run_add, run_done ho] at h0
          exact h0
        rw [e]; exact wpAny_pure hQ
      · rw [if_neg ho]
        refine wpAny_bind (wpAny_rule (drive hm hQ turns (k - 4) _ (by omega) fun j => ?_))
        have := g j
        rw [show k + j = 4 + (k - 4 + j) by omega, run_add] at this
        exact this

theorem to_end {M : Model} {A : Around} {E : Value → Shared → Prop} {s : Shared} {Q : Option Sre.M → Shared → Prop} {m m' : Sre.M} {k : Nat} (g : Go k m m') (hk : k < 2 ^ 64) (hm : m'.outcome = some .matched ∧ Q (some m') s ∨ m'.outcome = some .failed ∧ Q none s) :
    wpAny M A (reRunToEnd m) Q E s := by
  have hs : m'.outcome.isSome = true := by rcases hm with h | h <;> rw [h.1] <;> rfl
  unfold reRunToEnd
  refine wpAny_bind (drive hs ?_ _ k m hk g)
  refine wpAny_bind (wpAny_forIn_list _ (fun _ _ s' => s' = s) _ (fun x rest b s' hI => ?_) (fun b s' hI => ?_) _ _ rfl)
  · subst hI
    split
    · exact wpAny_bind (wpAny_rule (wpAny_pure rfl))
    · exact wpAny_pure rfl
  · subst hI
    rcases hm with h | h
    · rw [h.1]; exact wpAny_pure h.2
    · rw [h.1]; exact wpAny_pure h.2

theorem mapQuiet {b : Array UInt8} {t : Tok} : reTextOf (.bytes b t) = pure (b.map (·.toNat), 1) := by
  unfold reTextOf
  rw [KBy.quiet_eq]
  rfl

/-- the pattern, as it lies in the heap -/
structure IsQ (h : Heap) (P : Addr) : Prop where
  pat : ∃ o fs T oT items n, h.get? P = some o ∧ o.cls = .type "re.Pattern" ∧ o.dict = none ∧ o.data = .fields fs ∧ fs.getD 5 .none = .ref T ∧ reRawNat (fs.getD 6 .none) = 1 ∧ reRawNat (fs.getD 2 .none) = 0 ∧
    h.get? T = some oT ∧ oT.data = .seq items n ∧ (items.map reRawOf).map (·.toNat) = qcode

theorem whole {M : Model} {A : Around} {E : Value → Shared → Prop} {s : Shared} {P : Addr} {b : Array UInt8} {t : Tok} {Q : ReTarget → Shared → Prop} (hq : IsQ s.heap P)
    (h : Q { pattern := .ref P, string := .bytes b t, code := qcode, text := b.map (·.toNat), kind := 1, groups := 0, pos := 0, lim := b.size } s) : wpAny M A (reWholeTarget (.ref P) (.bytes b t)) Q E s := by
  obtain ⟨o, fs, T, oT, items, n, hP, hc, hd, hf, h5, h6, h2, hT, hs, hcode⟩ := hq.pat
  unfold reWholeTarget
  refine wpAny_bind (wpAny_fieldsOf hP hf ?_)
  rw [mapQuiet]
  refine wpAny_bind (wpAny_pure ?_)
  dsimp only
  rw [h6, h5, h2]
  rw [if_neg (by decide), if_neg (by decide)]
  refine wpAny_bind ?_
  unfold reNoCollectionInside
  rw [if_pos (by decide), KBy.isInstance_eq]
  refine wpAny_bind (wpAny_pure ?_)
  rw [if_neg (by decide)]
  refine wpAny_pure ?_
  refine wpAny_bind ?_
  unfold reRawItems
  refine wpAny_bind (wpAny_seqItems hT hs (wpAny_pure ?_))
  refine wpAny_pure ?_
  dsimp only [Option.getD]
  rw [hcode]
  simpa using h

inductive Strip : List UInt8 → List UInt8 → Prop
  | done {us : List UInt8} : (∀ c ∈ us, c ≠ 34) → Strip us us
  | more {us l rest rest' : List UInt8} : (∀ c ∈ us, c ≠ 34) → Body (l.map (·.toNat)) → Strip rest rest' → Strip (us ++ (34 :: l ++ [34]) ++ rest) (us ++ rest')

theorem IsQ.keep {h h' : Heap} {P : Addr} (x : IsQ h P) (e : ∀ a o, h.get? a = some o → h'.get? a = some o) : IsQ h' P := by
  obtain ⟨o, fs, T, oT, items, n, hP, hc, hd, hf, h5, h6, h2, hT, hs, hcode⟩ := x.pat
  exact ⟨o, fs, T, oT, items, n, e _ _ hP, hc, hd, hf, h5, h6, h2, e _ _ hT, hs, hcode⟩

theorem reads_of {b : Array UInt8} {q : Nat} {l r : List UInt8} (h : b.toList.drop q = l ++ r) : Reads (b.map (·.toNat)) q (l.map (·.toNat)) := by
  intro i c hi
  have hl : i < l.length := by
    rcases Nat.lt_or_ge i l.length with h' | h'
    · exact h'
    · rw [List.getElem?_eq_none (by simpa using h')] at hi; cases hi
  have e : b.toList[q + i]? = l[i]? := by
    rw [← List.getElem?_drop, h, List.getElem?_append_left hl]
  rw [List.getElem?_map] at hi
  rw [← e] at hi
  have hb : q + i < b.size := by
    rcases Nat.lt_or_ge (q + i) b.size with h' | h'
    · exact h'
    · rw [List.getElem?_eq_none (by simpa using h')] at hi; cases hi
  simp [hb] at hi
  simp [Array.getD, hb, hi]

theorem slice_eq {M : Model} {A : Around} {E : Value → Shared → Prop} {s : Shared} {b : Array UInt8} {i j : Nat} {Q : Value → Shared → Prop} (hb : b.size ≤ sizeLine) (h : Q (.bytes (b.extract i j) s.toks) { s with toks := s.toks + 1 }) : wpAny M A (reSlice (b.map (·.toNat)) 1 i j) Q E s := by
  unfold reSlice
  rw [if_neg (by decide)]
  have e : ((b.map (·.toNat)).extract i j).map (·.toUInt8) = b.extract i j := by
    rw [← Array.map_extract, Array.map_map]
    conv => rhs; rw [← Array.map_id (b.extract i j)]
    congr 1
    funext x
    simp
  rw [e]
  exact wpAny_mkBytes h (by simp; omega)

theorem push_at {M : Model} {A : Around} {E : Value → Shared → Prop} {s : Shared} {a : Addr} {xs : Array Value} {n : Nat} {v : Value} {Q : Unit → Shared → Prop} (ha : s.heap.get? a = some (PySem.W.listOf xs n)) (hsz : xs.size ≤ 4194304)
    (h : ∀ h' n', Heap.SameBut a s.heap h' → h'.get? a = some (PySem.W.listOf (xs.push v) n') → Q () { s with heap := h' }) : wpAny M A (updateSeq a fun x => x.push v) Q E s := by
  obtain ⟨c, hc⟩ : ∃ c, (s.heap.update a (Obj.mapSeq fun x => x.push v)).get? a = some (seqObj "list" (xs.push v) c) := ⟨_, get?_update_seq ha fun x => x.push v⟩
  refine wpAny_updateSeq ha rfl (h _ c (Heap.SameBut.update ..) hc) ?_ ?_
  · rw [sizeLine_eq]; omega
  · rw [sizeLine_eq, Array.size_push]; omega

theorem keep_same {h₀ h h' : Heap} {a : Addr} (ha0 : h₀.get? a = none) (hk : ∀ x o, h₀.get? x = some o → h.get? x = some o) (hs : Heap.SameBut a h h') : ∀ x o, h₀.get? x = some o → h'.get? x = some o :=
  fun x o e => hs.extBut x o (fun q => by rw [q, ha0] at e; cases e) (hk x o e)

theorem sub_loop {prog : Program} {w : World} {A : Around} {R : Result → Shared → Prop} {h₀ : Heap} {P a : Addr} {b : Array UInt8} {t u : Tok} (hq : IsQ h₀ P) (ha0 : h₀.get? a = none) (hbs : b.size ≤ 1048576) {rest rest' : List UInt8} (hS : Strip rest rest') :
    ∀ (q : Nat) (cnt : Nat) (vs : List (Array UInt8 × Tok)) (n : Nat) (s : Shared), (∀ x o, h₀.get? x = some o → s.heap.get? x = some o) → s.heap.get? a = some (PySem.W.listOf (vs.map fun p => Value.bytes p.1 p.2).toArray n) →
      b.toList.drop q = rest → q ≤ b.size → vs.length ≤ q → (vs.map (·.1.size)).sum ≤ q →
      (∀ h' v t' tk, (∀ x o, h₀.get? x = some o → h'.get? x = some o) → v.toList = (vs.map (·.1.toList)).flatten ++ rest' → R (.ok (.ret (.bytes v t'))) { s with heap := h', toks := tk }) →
      codeAny (model prog w) A (.builtin "re.Pattern.sub.loop" ⟨[.ref P, .bytes b t, .bytes #[] u, rawInt 0, rawInt 0, rawInt cnt, rawInt q, rawInt q, .bool false, .ref a, .bool false], []⟩) R s := by
  have hline : b.size ≤ sizeLine := by rw [sizeLine_eq]; omega
  induction hS with
  | done hu =>
    rename_i us
    intro q cnt vs n s hk ha hd hqb hlen hsum hR
    have hR1 : Reads (b.map (·.toNat)) q (us.map (·.toNat)) := reads_of (r := []) (by simpa using hd)
    have hlen1 : q + (us.map (·.toNat)).length = b.size := by
      have := congrArg List.length hd
      simp at this ⊢; omega
    obtain ⟨k, m', hkb, g, hm⟩ := search_none (T := b.map (·.toNat)) (lim := b.size) (us := us.map (·.toNat)) (q := q) (fun c hc => by
      obtain ⟨x, hx, rfl⟩ := List.mem_map.mp hc
      intro e; exact hu x hx (by rw [← UInt8.toNat_inj]; exact e)) hR1 hlen1
    refine codeAny_builtin entry_pat_sub_loop ?_
    rw [Around.under_plainId plain_pat_sub_loop]
    unfold Builtin.«re.Pattern.sub.loop»
    dsimp only [rawInt]
    refine wpAny_bind (whole (hq.keep hk) ?_)
    dsimp only
    rw [if_pos (by decide)]
    refine wpAny_bind ?_
    unfold reLiteralCannotBeTurned
    refine wpAny_bind (m := asStr? (Value.bytes #[] u)) (wpAny_pure ?_)
    rw [if_pos (by decide), KBy.isInstance_eq]
    refine wpAny_bind (wpAny_pure ?_)
    rw [if_neg (by decide)]
    refine wpAny_pure ?_
    rw [if_neg (by simp)]
    refine wpAny_bind ?_
    unfold reNextFound
    dsimp only
    rw [Int.toNat_natCast]
    simp only [List.length_map] at hkb hlen1
    refine to_end g (by omega) (.inr ⟨hm, ?_⟩)
    dsimp only
    have fin : ∀ (vs' : List (Array UInt8 × Tok)) (n' : Nat) (s' : Shared), (∃ h' tk', s' = { s with heap := h', toks := tk' }) → (∀ x o, h₀.get? x = some o → s'.heap.get? x = some o) → s'.heap.get? a = some (PySem.W.listOf (vs'.map fun p => Value.bytes p.1 p.2).toArray n') →
        (vs'.map (·.1.size)).sum ≤ b.size → (vs'.map (·.1.toList)).flatten = (vs.map (·.1.toList)).flatten ++ us →
        wpAny (model prog w) A.in1 (do
          let joiner ← reSlice (Array.map (fun x => x.toNat) b) 1 0 0
          let d ← seqItems? (Value.ref a)
          if (d.getD #[]).isEmpty = true then do
            let text ← pure joiner
            if false = true then do
              let x ← holding [text] do
                  let y ← mkInt ↑cnt
                  newTuple [text, y]
              ret x
            else ret text
          else do
            let text ← call (Value.builtin (if (1 == 0) = true then "str.join" else "bytes.join")) [joiner, Value.ref a]
            if false = true then do
              let x ← holding [text] do
                  let y ← mkInt ↑cnt
                  newTuple [text, y]
              ret x
            else ret text) (fun fin s' => match fin with | .done f => R (.ok f) s' | .again c' => c'.quiet = true ∧ codeAny (model prog w) A c' R s') (fun e s' => R (.error e) s') s' := by
      rintro vs' n' s' ⟨h', tk', rfl⟩ hk' ha' hsz' hfl
      refine wpAny_bind (slice_eq hline ?_)
      refine wpAny_bind (wpAny_seqItems ha' rfl ?_)
      dsimp only [Option.getD]
      by_cases hv : vs' = []
      · subst hv
        rw [if_pos (by rfl)]
        refine wpAny_pure ?_
        exact hR h' _ _ _ hk' (by rw [← hfl]; simp)
      · rw [if_neg (by simpa using hv)]
        rw [if_neg (by decide)]
        refine wpAny_bind ?_
        have e0 : b.extract 0 0 = #[] := by simp
        rw [e0]
        refine wpAny_call_entry slot_bytes_join (typeIs_bytes _ _ _) entry_bytes_join (join_list ha' hv (by rw [sizeLine_eq]; omega) fun v t2 tk2 hv2 => ?_) (args_bytes_join_2 _ _)
        refine ⟨_, rfl, ?_⟩
        refine wpAny_pure ?_
        exact hR h' v t2 _ hk' (by rw [hv2, hfl])
    by_cases hlt : q < b.size
    · rw [if_pos hlt]
      refine wpAny_bind (slice_eq hline ?_)
      refine wpAny_bind (push_at ha (by simp; omega) fun h' n' hs' ha' => ?_)
      have hus : (b.extract q b.size).toList = us := by
        rw [← hd]; simp [List.take_of_length_le]
      refine fin (vs ++ [(b.extract q b.size, _)]) n' _ ⟨h', _, rfl⟩ (keep_same ha0 hk hs') (by simpa using ha') ?_ ?_
      · simp; omega
      · rw [List.map_append, List.flatten_append, List.map_singleton, List.flatten_singleton, hus]
    · rw [if_neg hlt]
      have hus : us = [] := by
        have : us.length = 0 := by omega
        exact List.length_eq_zero_iff.mp this
      exact fin vs n s ⟨s.heap, s.toks, rfl⟩ hk ha (by omega) (by simp [hus])
  | more hu hb hr ih =>
    rename_i us l rest rest' 
    intro q cnt vs n s hk ha hd hqb hlen hsum hR
    have hR1 := reads_of (b := b) (q := q) (l := us ++ (34 :: l ++ [34])) (r := rest) hd
    have e1 : (us ++ ((34 : UInt8) :: l ++ [34])).map (fun x : UInt8 => x.toNat) = us.map (fun x : UInt8 => x.toNat) ++ (34 :: l.map (fun x : UInt8 => x.toNat) ++ [34]) := by simp
    rw [e1] at hR1
    have hlen1 : q + us.length + l.length + 2 + rest.length = b.size := by
      have := congrArg List.length hd
      simp at this ⊢; omega
    obtain ⟨k, m', hkb, g, hm, hst, hhd⟩ := search_some (T := b.map (·.toNat)) (lim := b.size) (us := us.map (·.toNat)) (l := l.map (·.toNat)) (q := q) (fun c hc => by
      obtain ⟨x, hx, rfl⟩ := List.mem_map.mp hc
      intro e; exact hu x hx (by rw [← UInt8.toNat_inj]; exact e)) hb hR1 (by simp; omega)
    simp only [List.length_map] at hst hhd hkb
    refine codeAny_builtin entry_pat_sub_loop ?_
    rw [Around.under_plainId plain_pat_sub_loop]
    unfold Builtin.«re.Pattern.sub.loop»
    dsimp only [rawInt]
    refine wpAny_bind (whole (hq.keep hk) ?_)
    dsimp only
    rw [if_pos (by decide)]
    refine wpAny_bind ?_
    unfold reLiteralCannotBeTurned
    refine wpAny_bind (m := asStr? (Value.bytes #[] u)) (wpAny_pure ?_)
    rw [if_pos (by decide), KBy.isInstance_eq]
    refine wpAny_bind (wpAny_pure ?_)
    rw [if_neg (by decide)]
    refine wpAny_pure ?_
    rw [if_neg (by simp)]
    refine wpAny_bind ?_
    unfold reNextFound
    dsimp only
    rw [Int.toNat_natCast]
    refine to_end g (by omega) (.inl ⟨hm, ?_⟩)
    dsimp only
    rw [hst, hhd]
    have hmust : (q + us.length + l.length + 2 == q + us.length) = false := by simp; omega
    rw [hmust]
    have hdrop : b.toList.drop (q + us.length + l.length + 2) = rest := by
      have e2 : q + us.length + l.length + 2 = q + (us ++ (34 :: l ++ [34])).length := by simp; omega
      rw [e2, ← List.drop_drop, hd, List.drop_left]
    have next : ∀ (vs' : List (Array UInt8 × Tok)) (n' : Nat) (s' : Shared), (∃ h' tk', s' = { s with heap := h', toks := tk' }) → (∀ x o, h₀.get? x = some o → s'.heap.get? x = some o) → s'.heap.get? a = some (PySem.W.listOf (vs'.map fun p => Value.bytes p.1 p.2).toArray n') →
        vs'.length ≤ vs.length + 1 → (vs'.map (·.1.size)).sum ≤ q + us.length → (vs'.map (·.1.toList)).flatten = (vs.map (·.1.toList)).flatten ++ us →
        wpAny (model prog w) A.in1 (do
          let item ← pure (Value.bytes #[] u)
          if (item != Value.none) = true then do
              updateSeq a fun x => x.push item
              again
                  (Code.builtin "re.Pattern.sub.loop"
                    {
                      pos :=
                        [Value.ref P, Value.bytes b t, Value.bytes #[] u, Value.int 0 0, Value.int 0 0,
                          Value.int (↑cnt + 1) 0, Value.int (↑(q + us.length + l.length + 2)) 0, Value.int (↑(q + us.length + l.length + 2)) 0,
                          Value.bool false, Value.ref a, Value.bool false] })
            else
              again
                (Code.builtin "re.Pattern.sub.loop"
                  {
                    pos :=
                      [Value.ref P, Value.bytes b t, Value.bytes #[] u, Value.int 0 0, Value.int 0 0,
                        Value.int (↑cnt + 1) 0, Value.int (↑(q + us.length + l.length + 2)) 0, Value.int (↑(q + us.length + l.length + 2)) 0,
                        Value.bool false, Value.ref a, Value.bool false] })) (fun fin s' => match fin with | .done f => R (.ok f) s' | .again c' => c'.quiet = true ∧ codeAny (model prog w) A c' R s') (fun e s' => R (.error e) s') s' := by
      rintro vs' n' s' ⟨h', tk', rfl⟩ hk' ha' hl' hsz' hfl
      refine wpAny_bind (wpAny_pure ?_)
      rw [if_pos (by rfl)]
      refine wpAny_bind (push_at ha' (by simp; omega) fun h2 n2 hs2 ha2 => ?_)
      refine wpAny_pure ⟨plainId_quiet plain_pat_sub_loop _, ?_⟩
      refine ih (q + us.length + l.length + 2) (cnt + 1) (vs' ++ [(#[], u)]) n2 _ (keep_same ha0 hk' hs2) (by simpa using ha2) hdrop (by omega) (by simp; omega) (by simp; omega) fun h3 v t3 tk3 hk3 hv3 => ?_
      refine hR h3 v t3 _ hk3 ?_
      rw [hv3, List.map_append, List.flatten_append, hfl]; simp
    by_cases hlt : q < q + us.length
    · rw [if_pos hlt]
      refine wpAny_bind (slice_eq hline ?_)
      refine wpAny_bind (push_at ha (by simp; omega) fun h' n' hs' ha' => ?_)
      have hus : (b.extract q (q + us.length)).toList = us := by
        have : (b.extract q (q + us.length)).toList = (b.toList.drop q).take us.length := by simp [Array.toList_extract]
        rw [this, hd, List.append_assoc, List.take_left]
      rw [if_pos (by decide)]
      refine next (vs ++ [(b.extract q (q + us.length), _)]) n' _ ⟨h', _, rfl⟩ (keep_same ha0 hk hs') (by simpa using ha') (by simp) ?_ ?_
      · simp; omega
      · rw [List.map_append, List.flatten_append, List.map_singleton, List.flatten_singleton, hus]
    · rw [if_neg hlt, if_pos (by decide)]
      have hus : us = [] := by
        have : us.length = 0 := by omega
        exact List.length_eq_zero_iff.mp this
      exact next vs n s ⟨s.heap, s.toks, rfl⟩ hk ha (by omega) (by omega) (by simp [hus])
end Mine

/-! MSubst -/
namespace Mine
set_option maxRecDepth 100000
open PySem PySem.W PyProof.Rows PySem.Calls PySem.Builtin PySem.Builtin.Re
set_option maxHeartbeats 4000000

theorem look_call : typeLookup (.type "bytes") "__call__" = pure none := by rw [typeLookup_type, builtinLookup_eq_fast]; kernel_rfl
theorem named_eq (a b : Value) : reNamed "re.Pattern.sub" "sub" ["repl", "string", "count"] 2 [a, b] [] = pure [some a, some b, none] := by kernel_rfl

theorem call_sub {prog : Program} {w : World} {A : Around} {E : Value → Shared → Prop} {s : Shared} {P : Addr} {b : Array UInt8} {t u : Tok} {r : List UInt8} {Q : Value → Shared → Prop} (hq : IsQ s.heap P) (hbs : b.size ≤ 1048576) (hS : Strip b.toList r)
    (h : ∀ h' v t' tk, (∀ x o, s.heap.get? x = some o → h'.get? x = some o) → v.toList = r → Q (.bytes v t') { s with heap := h', toks := tk }) :
    wpAny (model prog w) A (call (.builtin "re.Pattern.sub") [.ref P, .bytes #[] u, .bytes b t]) Q E s := by
  have hT : s.TypeIs (.ref P) "re.Pattern" := by
    obtain ⟨o, fs, T, oT, items, n, hP, hc, _⟩ := hq.pat
    exact ⟨o, hP, hc⟩
  refine wpAny_call (codeAny_call_builtin slot_pat_sub.plain entry_pat_sub (slot_pat_sub.check _ _ _ _ _ _ _ _ hT (args_pat_sub _ _ _) ?_))
  unfold Builtin.«re.Pattern.sub» reSubstitute
  dsimp only
  rw [named_eq]
  refine wpAny_bind (wpAny_pure ?_)
  dsimp only
  refine wpAny_bind (wpAny_pure ?_)
  rw [KBy.special_eq look_call]
  refine wpAny_bind (wpAny_pure ?_)
  refine wpAny_bind ?_
  dsimp only [Option.isSome]
  refine wpAny_of_eq (a := none) rfl ?_
  dsimp only
  rw [KBy.quiet_eq]
  refine wpAny_bind (wpAny_pure ?_)
  dsimp only
  refine wpAny_bind (wpAny_pure ?_)
  rw [if_neg (by decide), if_pos (by simp)]
  refine wpAny_bind (wpAny_pure ?_)
  dsimp only
  refine wpAny_bind (wpAny_holding (whole hq ?_))
  rw [if_neg (by decide)]
  refine wpAny_bind (wpAny_newList ?_)
  refine wpAny_pure ⟨plainId_quiet plain_pat_sub_loop _, ?_⟩
  have hnew : s.heap.get? s.heap.objs.size = none := by
    cases q : s.heap.get? s.heap.objs.size with
    | none => rfl
    | some o => exact absurd (Heap.lt_size q) (Nat.lt_irrefl _)
  exact sub_loop hq hnew hbs hS 0 0 [] 0 _ (fun x o e => Heap.get?_push_of_some _ e) (Heap.get?_push_size _ rfl) (by simp) (Nat.zero_le _) (Nat.le_refl _) (Nat.le_refl _)
    fun h' v t' tk hk hv => h h' v t' tk hk (by simpa using hv)

section
variable {W : Wd} {c : Act} {ρ : Rho}
/-- what K says of the pattern -/
structure KQ (K : Frag) (P : Addr) : Prop where
  pat : ∃ o fs T oT items n, K.lookup P = some o ∧ o.cls = .type "re.Pattern" ∧ o.dict = none ∧ o.data = .fields fs ∧ fs.getD 5 .none = .ref T ∧ reRawNat (fs.getD 6 .none) = 1 ∧ reRawNat (fs.getD 2 .none) = 0 ∧
    K.lookup T = some oT ∧ oT.data = .seq items n ∧ (items.map reRawOf).map (·.toNat) = qcode
theorem KQ.is {K : Frag} {P : Addr} {h : Heap} (x : KQ K P) (hK : K.In h) : IsQ h P := by
  obtain ⟨o, fs, T, oT, items, n, hP, hc, hd, hf, h5, h6, h2, hT, hs, hcode⟩ := x.pat
  exact ⟨o, fs, T, oT, items, n, hK _ _ hP, hc, hd, hf, h5, h6, h2, hK _ _ hT, hs, hcode⟩

theorem ev_sub {pl : Sem Bool} {x : Str} {e1 e2 : Expr} {p1 p2 p3 : Pos} {b : Array UInt8} {r : List UInt8} {P : Addr} (hq : KQ W.K P) (hns : nsIn W.K mainGlobals x = some (some (.ref P))) (h1 : Ev W c ρ e1 (.byt #[])) (h2 : Ev W c ρ e2 (.byt b)) (hS : Strip b.toList r) (hbs : b.size ≤ 1048576)
    (hx : c.env.kindOf x = some .globalImplicit := by rfl) (hd : (x == ("__debug__" : Str)) = false := by decide)
    (he : backTo p3 (starEach [e1, e2] c.env) = (false, eval e1 c.env) :: backTo p3 (starEach [e2] c.env) := by rfl)
    (he2 : backTo p3 (starEach [e2] c.env) = (false, eval e2 c.env) :: backTo p3 (starEach [] c.env) := by rfl)
    (he' : starEach [e1, e2] c.env = (false, eval e1 c.env) :: starEach [e2] c.env := by rfl) (hplain : (backTo p3 (starEach [e2] c.env)).any (·.1) = false := by rfl)
    (hm : eval (.Call (.Attribute (.Name x p1) (Str.ofString "sub") p2) [e1, e2] [] p3) c.env = (do
      let ov ← eval (.Name x p1) c.env
      standAt p2.atName
      let (f, first) ← holding [ov] (getMethod ov (Str.ofString "sub") pl)
      callWith p3 f first (backTo p3 (starEach [e1, e2] c.env)) []) := by rfl) :
    Ev W c ρ (.Call (.Attribute (.Name x p1) (Str.ofString "sub") p2) [e1, e2] [] p3) (.byt r.toArray) := by
  intro I O s S Q E h
  refine MethodCall_ (pl := pl) (ld_global S hns ?_ hx hd) hm
  have q0 := hq.is S.here.K
  have hTy : s.TypeIs (.ref P) "re.Pattern" := by
    obtain ⟨o, fs, T, oT, items, n, hP, hc, _⟩ := q0.pat
    exact ⟨o, hP, hc⟩
  refine getMethod_builtin (T := "re.Pattern") hTy plainAttrs_pat slot_pat_sub type_pat_sub (fun a e => by
    cases e
    obtain ⟨o, fs, T, oT, items, n, hP, hc, hd, _⟩ := q0.pat
    exact ⟨o, hP, hd⟩) ?_
  refine callWith_method1 ?_ he' hplain
  refine evl_cons h1 (evl_cons h2 evl_nil he2) he I O _ S _ _ fun ws g2 tk2 e2 r2 => ?_
  cases r2 with
  | cons r2 r3 =>
    cases r3 with
    | cons r3 r4 =>
      cases r4; cases r2; cases r3
      refine call_sub (hq.is (S.ext e2).here.K) hbs hS fun h' v t' tk hk hv => ?_
      have e : v = r.toArray := by rw [← hv]
      rw [e]
      exact h _ h' tk (e2.trans hk) (.byt _ _)
end
end Mine

/-! MPick -/
namespace Mine
set_option maxRecDepth 100000
open PySem PySem.W PyProof.Rows PySem.Calls
set_option maxHeartbeats 4000000

theorem noneAt (h : Heap) : ∀ a, h.objs.size ≤ a → h.get? a = none := fun a ha => by
  cases e : h.get? a with
  | none => rfl
  | some o' => exact absurd (Heap.lt_size e) (Nat.not_lt.mpr ha)

section
variable {prog : Program} {w : World} {A : Around} {E : Value → Shared → Prop} {env : Env}
theorem pick_block {iter : Expr} {x y z : Str} {px py pz tp zp : Pos} {kk : Nat} {scope : Scope} {cl : List (Str × Addr)} {pos : Pos} {s₂ : Shared} {I l : Addr} {its : Array Value} {zs : List Value} {RR : Value → Addr → Result → Shared → Prop}
    (hh : A.handled = none) (hlI : l ≠ I) (hits : ∀ (i : Nat) (v : Value), its[i]? = some v → ∃ (T : Addr) (a b c : Value), v = Value.ref T ∧ zs[i]? = some c ∧ s₂.heap.IsTuple T #[a, b, c]) (hlen : zs.length = its.size) (hsz : its.size ≤ sizeLine)
    (hcell : ∀ n ∈ scope.names, n.2 ≠ .cell) (hkind : scope.kind = .function) (hx : scope.names.lookup x = some .local) (hy : scope.names.lookup y = some .local) (hz : scope.names.lookup z = some .local)
    (hclz : cl.lookup z = none) (hdb : (z == ("__debug__" : Str)) = false)
    (hit : s₂.heap.IsListIter I l 0) (hl : s₂.heap.IsList l its)
    (hRR : ∀ D C h tk m' n, s₂.heap.get? D = none → h.get? D = some (PySem.W.listOf zs.toArray n) → h.Ns C m' → s₂.heap.get? C = none → C ≠ D → (∀ b o, b ≠ I → s₂.heap.get? b = some o → h.get? b = some o) → RR (.ref D) C (.ok .next) { s₂ with heap := h, toks := tk }) :
    wpAny (model prog w) A (newList []) (fun acc s₃ => wpAny (model prog w) A (newFunctionEnv scope env.globals cl [] env.qual none .none (some env)) (fun cenv s₄ =>
      codeAny (model prog w) A (.compStart (.ListComp (.Name z zp) [⟨.Tuple [.Name x px, .Name y py, .Name z pz] kk tp, iter, [], 0⟩] scope pos) 0 (.ref I) acc { cenv with scope := relabel scope env }) (RR acc cenv.locals) s₄) E s₃) E s₂ := by
  refine wpAny_newObj_type (wpAny_newFunctionEnv hcell (by intro y hy; simp at hy) (fun h₁ hns₁ hsb₁ => ?_) hkind)
  dsimp only at hns₁ hsb₁ ⊢
  generalize hH2 : s₂.heap.push { cls := .type "list", dict := none, data := .seq ([] : List Value).toArray } = H2 at hns₁ hsb₁ ⊢
  have hC : H2.objs.size = s₂.heap.objs.size + 1 := by rw [← hH2, Heap.size_push]
  have hDC : s₂.heap.objs.size ≠ H2.objs.size := by rw [hC]; exact Nat.ne_of_lt (Nat.lt_succ_self _)
  have below : ∀ b, b < s₂.heap.objs.size → b ≠ H2.objs.size ∧ b ≠ s₂.heap.objs.size := fun b hb => ⟨by rw [hC]; exact Nat.ne_of_lt (Nat.lt_succ_of_lt hb), Nat.ne_of_lt hb⟩
  have old : ∀ b o, s₂.heap.get? b = some o → h₁.get? b = some o := fun b o e => hsb₁.extBut b o (below b (Heap.lt_size e)).1 (Heap.get?_push_of_some _ (hH2 ▸ Heap.get?_push_of_some _ e))
  have hacc : h₁.get? s₂.heap.objs.size = some (PySem.W.listOf ([] : List Value).toArray 0) := hsb₁.extBut _ _ hDC (Heap.get?_push_of_some _ (hH2 ▸ Heap.get?_push_size _ rfl))
  have hIlt : I < s₂.heap.objs.size := by obtain ⟨o, ho, _⟩ := hit; exact Heap.lt_size ho
  have hllt : l < s₂.heap.objs.size := by obtain ⟨o, ho, _⟩ := hl; exact Heap.lt_size ho
  have hCI : I ≠ H2.objs.size := (below I hIlt).1
  have hDI : I ≠ s₂.heap.objs.size := (below I hIlt).2
  have Wk := Walks.list (prog := prog) (w := w) hh I l hlI its
  have hst₁ : h₁.IsListIter I l 0 ∧ h₁.IsList l its := ⟨hit.at fun o e => old _ o e, hl.at fun o e => old _ o e⟩
  have loop : ∀ s₃ : Shared, s₃ = { s₂ with heap := h₁, toks := s₂.toks + ([] : List (Str × Value)).length } →
      codeAny (model prog w) A (.compLoop (.ListComp (.Name z zp) [⟨.Tuple [.Name x px, .Name y py, .Name z pz] kk tp, iter, [], 0⟩] scope pos) 0 (.ref I) (.ref s₂.heap.objs.size) (compEnvC scope cl H2.objs.size env))
        (RR (.ref s₂.heap.objs.size) H2.objs.size) s₃ := by
    rintro s₃ rfl
    refine LCp.codeAny_compLoop_pair
      (fun k s' => ∃ h' tk i m' n, s' = { s₂ with heap := h', toks := tk } ∧ i ≤ its.size ∧ k = its.size + 1 - i ∧ (h'.IsListIter I l i ∧ h'.IsList l its) ∧ h'.Ns H2.objs.size m' ∧ h'.get? s₂.heap.objs.size = some (PySem.W.listOf (zs.take i).toArray n) ∧
        (∀ b o, b ≠ I → s₂.heap.get? b = some o → h'.get? b = some o)) ?_ (its.size + 1)
      ⟨h₁, _, 0, _, 0, rfl, Nat.zero_le _, rfl, hst₁, hns₁, by simpa using hacc, fun b o _ e => old b o e⟩
    rintro k s' ⟨h', tk, i, m', n, rfl, hi, rfl, hst', hn', hD', hk'⟩
    by_cases hlt : i < its.size
    · refine Wk.item i _ _ _ hlt hst' fun v h₂ tk₂ hPv hst₂ hk₂ => ?_
      obtain ⟨T, a, b, c, rfl, hc, hT⟩ := hits i v hPv
      have up : ∀ b o, b ≠ I → s₂.heap.get? b = some o → h₂.get? b = some o := fun b o hb e => hk₂ b o (by simpa using hb) (hk' b o hb e)
      have hTI : T ≠ I := by
        rintro rfl
        obtain ⟨o, ho, hcT, _⟩ := hT
        obtain ⟨o', ho', hcI, _⟩ := hit
        rw [ho] at ho'; cases ho'; rw [hcT] at hcI; exact absurd hcI (by decide)
      have ht : h₂.IsTuple T #[a, b, c] := by obtain ⟨o, ho, q⟩ := hT; exact ⟨o, up _ _ hTI ho, q⟩
      refine wpAny_letOwnedTupleGo_listiter hst₂.1 ?_
      refine wpAny_assign_Tuple hh ht rfl rfl fun h₅ he => ?_
      have he' : ∀ b o, h₂.get? b = some o → h₅.get? b = some o := fun b o e => he b o (Nat.ne_of_lt (Heap.lt_size e)) e
      have hn5 := (hn'.at' fun o e => hk₂ _ o (by simpa using Ne.symm hCI) e).at' fun o e => he' _ o e
      show wpAny _ _ (assignInOrder [assign (.Name x px) (compEnvC scope cl H2.objs.size env), assign (.Name y py) (compEnvC scope cl H2.objs.size env), assign (.Name z pz) (compEnvC scope cl H2.objs.size env)] [a, b, c]) _ _ _
      refine assignInOrder_cons (wpAny_assign_Name (wpAny_storeName_local (lookup_relabel_local hx) hn5 (fun h₆ hn₆ hs₆ => ?_) (by simp [compEnvC, relabel, hkind])))
      refine assignInOrder_cons (wpAny_assign_Name (wpAny_storeName_local (lookup_relabel_local hy) hn₆ (fun h₇ hn₇ hs₇ => ?_) (by simp [compEnvC, relabel, hkind])))
      refine assignInOrder_cons (wpAny_assign_Name (wpAny_storeName_local (lookup_relabel_local hz) hn₇ (fun h₃ hn₃ hs₃ => ?_) (by simp [compEnvC, relabel, hkind])))
      refine assignInOrder_nil ?_
      have old3 : ∀ b o, b ≠ H2.objs.size → h₂.get? b = some o → h₃.get? b = some o := fun b o hb e => hs₃.extBut b o hb (hs₇.extBut b o hb (hs₆.extBut b o hb (he' b o e)))
      have hst₃ : h₃.IsListIter I l (i + 1) ∧ h₃.IsList l its := ⟨hst₂.1.at fun o e => old3 _ o hCI e, hst₂.2.at fun o e => old3 _ o (below l hllt).1 e⟩
      refine wpAny_Name (wpAny_loadName_local (by simp [compEnvC, relabel, hkind]) (lookup_relabel_local hz) hn₃ (v := c) (by simp) ?_) hdb
      have hD3 : h₃.get? s₂.heap.objs.size = some (PySem.W.listOf (zs.take i).toArray n) := old3 _ _ hDC (hk₂ _ _ (by simpa using Ne.symm hDI) hD')
      refine append_at (hsz := by simp; omega) hD3 fun h₈ hs₈ hD₈ => ?_
      refine ⟨its.size + 1 - (i + 1), by omega, h₈, _, i + 1, _, n + 1, rfl, hlt, rfl, ⟨hst₃.1.at fun o e => hs₈.extBut _ o hDI e, hst₃.2.at fun o e => hs₈.extBut _ o (below l hllt).2 e⟩, hn₃.sameBut hs₈ (Ne.symm hDC), ?_, fun b o hb e => hs₈.extBut b o (below b (Heap.lt_size e)).2 (old3 b o (below b (Heap.lt_size e)).1 (up b o hb e))⟩
      have e : zs.take (i + 1) = zs.take i ++ [c] := by rw [List.take_add_one, hc]; rfl
      rw [e, ← List.push_toArray]
      exact hD₈
    · obtain rfl : i = its.size := Nat.le_antisymm hi (Nat.not_lt.mp hlt)
      refine Wk.done _ _ _ hst' fun h₂ tk₂ hk₂ => ?_
      have e : zs.take its.size = zs := by rw [← hlen]; exact List.take_length
      rw [e] at hD'
      exact hRR _ _ h₂ tk₂ _ n (noneAt _ _ (Nat.le_refl _)) (hk₂ _ _ (by simpa using Ne.symm hDI) hD') (hn'.at' fun o e => hk₂ _ o (by simpa using Ne.symm hCI) e) (noneAt _ _ (by omega)) (Ne.symm hDC) fun b o hb e => hk₂ b o (by simpa using hb) (hk' b o hb e)
  exact codeAny_compStart_list (loop _ rfl) (Wk.self 0 _ _ _ hst₁ (loop _ rfl))

theorem ListComp_pick {iter : Expr} {x y z : Str} {px py pz tp zp : Pos} {kk : Nat} {scope : Scope} {cl : List (Str × Addr)} {pos : Pos} {s : Shared} {Q : Value → Shared → Prop}
    (hclos : closureFor scope env = pure cl) (hcell : ∀ n ∈ scope.names, n.2 ≠ .cell) (hkind : scope.kind = .function)
    (hnames : ∀ y ∈ scope.names, y.2 = .local → scope.names.lookup y.1 = some .local) (hx : scope.names.lookup x = some .local) (hy : scope.names.lookup y = some .local) (hz : scope.names.lookup z = some .local)
    (hclz : cl.lookup z = none) (hdb : (z == ("__debug__" : Str)) = false) (hh : A.handled = none)
    (h : wpAny (model prog w) A (eval iter env) (fun v s₁ => ∃ (l : Addr) (its : Array Value) (zs : List Value), v = Value.ref l ∧ s₁.heap.IsList l its ∧ (∀ (i : Nat) (v : Value), its[i]? = some v → ∃ (T : Addr) (a b c : Value), v = Value.ref T ∧ zs[i]? = some c ∧ s₁.heap.IsTuple T #[a, b, c]) ∧ zs.length = its.size ∧ its.size ≤ sizeLine ∧
      ∀ D h' tk n, s₁.heap.get? D = none → h'.get? D = some (PySem.W.listOf zs.toArray n) → (∀ b o, s₁.heap.get? b = some o → h'.get? b = some o) → Q (.ref D) { s₁ with heap := h', toks := tk }) E s)
    (hs : ∀ x, foldedSetIterable iter env x = pure x := by intro _; rfl) :
    wpAny (model prog w) A (eval (.ListComp (.Name z zp) [⟨.Tuple [.Name x px, .Name y py, .Name z pz] kk tp, iter, [], 0⟩] scope pos) env) Q E s := by
  rw [eval_ListComp]
  refine wpAny_comprehension_free (use := none) rfl hs hclos hkind hnames (wpAny_mono h (fun xv s₁ h₁ => ?_) fun _ _ e => e)
  obtain ⟨l, its, zs, rfl, hl, hits, hlen, hsz, hQ⟩ := h₁
  have hlt : l < s₁.heap.objs.size := by obtain ⟨_, e, _⟩ := hl; exact Heap.lt_size e
  refine wpAny_pyIter_list hl ?_
  have up : ∀ b o, s₁.heap.get? b = some o → (s₁.heap.push { cls := .type "list_iterator", data := .fields #[.ref l, .int 0 0] }).get? b = some o := fun b o e => Heap.get?_push_of_some _ e
  refine pick_block (RR := fun acc C => compPost (model prog w) A E none Q acc C) hh (Nat.ne_of_lt hlt) (zs := zs) (its := its) (fun i v hv => ?_) hlen hsz hcell hkind hx hy hz hclz hdb ⟨_, Heap.get?_push_size _ rfl, rfl, rfl⟩ (hl.push _) ?_
  · obtain ⟨T, a, b, c, e1, e2, o, ho, q⟩ := hits i v hv
    exact ⟨T, a, b, c, e1, e2, o, up _ _ ho, q⟩
  · intro D C h' tk m' n hD hDo hn hC hCD hk
    have none1 : ∀ {a}, (s₁.heap.push { cls := .type "list_iterator", data := .fields #[.ref l, .int 0 0] }).get? a = none → s₁.heap.get? a = none := fun {a} e => by
      cases q : s₁.heap.get? a with
      | none => rfl
      | some o => rw [up _ _ q] at e; cases e
    refine ⟨m', hn, fun h'' hs'' => hQ D h'' tk n (none1 hD) (hs''.extBut _ _ (Ne.symm hCD) hDo) fun b o e => ?_⟩
    refine hs''.extBut _ _ (fun q => ?_) (hk b o (fun q => ?_) (up _ _ e))
    · rw [q, none1 hC] at e; cases e
    · exact absurd (Heap.lt_size e) (by rw [q]; exact Nat.lt_irrefl _)
end
end Mine

/-! MSort -/
namespace Mine
set_option maxRecDepth 100000
open PySem PySem.W PyProof.Rows PySem.Calls
set_option maxHeartbeats 4000000

def ltP (a b : Int × Int) : Bool := if a.1 = b.1 then decide (a.2 < b.2) else decide (a.1 < b.1)
/-- the asked tree, run: none where a place is out of range or two keys are alike -/
def runC {α : Type} (keys : List (Int × Int)) : KasT α → Option α
  | .ret a => some a
  | .ask i j k => match keys[i]?, keys[j]? with
    | some a, some b => if a = b then none else runC keys (k (ltP a b))
    | _, _ => none

/-- a told tuple -/
def Told (h : Heap) (v : Value) (k : Int × Int) : Prop := ∃ (T : Addr) (t u : Tok) (c : Value), v = Value.ref T ∧ h.IsTuple T #[.int k.1 t, .int k.2 u, c]

section
variable {prog : Program} {w : World} {A : Around} {E : Value → Shared → Prop}
theorem told_lt {s : Shared} {vs : List Value} {keys : List (Int × Int)} {Q : Bool → Shared → Prop} (ht : ∀ (i : Nat) (k : Int × Int), keys[i]? = some k → ∃ v : Value, vs[i]? = some v ∧ Told s.heap v k) {i j : Nat} {a b : Int × Int} (hi : keys[i]? = some a) (hj : keys[j]? = some b) (hne : a ≠ b)
    (h : Q (ltP a b) s) : wpAny (model prog w) A (keyLt' (tuples' true) (vs.getD i Value.none) (vs.getD j Value.none)) Q E s := by
  obtain ⟨v1, hv1, T1, t1, u1, c1, rfl, o1, ho1, hc1, n1, hd1⟩ := ht i a hi
  obtain ⟨v2, hv2, T2, t2, u2, c2, rfl, o2, ho2, hc2, n2, hd2⟩ := ht j b hj
  rw [List.getD_eq_getElem?_getD, List.getD_eq_getElem?_getD, hv1, hv2]
  refine kat_lt ho1 hd1 ho2 hd2 ?_
  show KatLex prog w A true _ Q [(Value.int a.1 t1, Value.int b.1 t2), (Value.int a.2 u1, Value.int b.2 u2), (c1, c2)] 0 s
  refine kat_cons ?_
  refine MeetsSeq.EqGives.int _ _ _ _ prog w A _ s _ ?_
  unfold ltP at h
  by_cases e1 : a.1 = b.1
  · rw [if_pos e1] at h
    rw [show (a.1 == b.1) = true by simpa using e1]
    refine kat_yes (kat_cons ?_)
    refine MeetsSeq.EqGives.int _ _ _ _ prog w A _ s _ ?_
    have e2 : a.2 ≠ b.2 := fun e2 => hne (Prod.ext e1 e2)
    rw [show (a.2 == b.2) = false by simpa using e2]
    refine kat_no (kat_one _ _ ?_)
    exact PyProof.Rows.lt_int h
  · rw [if_neg e1] at h
    rw [show (a.1 == b.1) = false by simpa using e1]
    refine kat_no ?_
    exact oneLt_int h

theorem run_wp {α : Type} {s : Shared} {vs : List Value} {keys : List (Int × Int)} {G : α → Shared → Prop} (ht : ∀ (i : Nat) (k : Int × Int), keys[i]? = some k → ∃ v : Value, vs[i]? = some v ∧ Told s.heap v k) : ∀ (t : KasT α) {p : α}, runC keys t = some p → G p s → t.kasWp (kas_ask prog w A (tuples' true) vs) G s
  | .ret a, p, h, hG => by
    have e : a = p := by simpa [runC] using h
    subst e; exact hG
  | .ask i j k, p, h, hG => by
    unfold runC at h
    split at h
    · rename_i a b hi hj
      split at h
      · cases h
      · rename_i hne
        show kas_ask prog w A (tuples' true) vs i j _ s
        exact told_lt ht hi hj hne (run_wp ht _ h hG)
    · cases h

theorem told_kind {s : Shared} {vs : List Value} {keys : List (Int × Int)} {Q : SortKind → Shared → Prop} (ht : ∀ (i : Nat) (k : Int × Int), keys[i]? = some k → ∃ v : Value, vs[i]? = some v ∧ Told s.heap v k) (hlen : keys.length = vs.length) (h0 : 0 < vs.length) (h : Q (tuples' true) s) : wpAny (model prog w) A (keyKind' vs.toArray) Q E s := by
  have hf : ∃ fs : List Value, fs.length = vs.length ∧ KatTups s.heap vs fs ∧ ∀ v ∈ fs, ∃ i t, v = Value.int i t := by
    clear h h0
    induction vs generalizing keys with
    | nil => exact ⟨[], rfl, trivial, fun v hv => by cases hv⟩
    | cons v vs ih =>
      match keys, hlen with
      | k :: keys, hlen =>
        obtain ⟨fs, hl, hk, hi⟩ := ih (keys := keys) (fun i k' hk' => by
          obtain ⟨v', hv', ht'⟩ := ht (i + 1) k' (by simpa using hk')
          exact ⟨v', by simpa using hv', ht'⟩) (by simpa using hlen)
        obtain ⟨v', hv', T, t, u, c, e, o, ho, hc, n, hd⟩ := ht 0 k rfl
        have e0 : v = v' := by simpa using hv'
        subst e0
        refine ⟨Value.int k.1 t :: fs, by simp [hl], ⟨⟨T, o, _, n, e, ho, hc, hd, rfl⟩, hk⟩, fun x hx => ?_⟩
        rcases List.mem_cons.mp hx with rfl | hx
        · exact ⟨_, _, rfl⟩
        · exact hi x hx
  obtain ⟨fs, hl, hk, hi⟩ := hf
  refine kat_kind (T := .type "int") hk (by omega) (fun v hv => ?_) (by decide) ?_
  · obtain ⟨i, t, rfl⟩ := hi v hv
    exact Looks.now
  · exact h

theorem sort_ext {s : Shared} {a : Addr} {n : Nat} {vs : List Value} {keys : List (Int × Int)} {p : Array Nat} {P : PySem.Fin → Shared → Prop} (ho : s.heap.get? a = some (seqObj "list" vs.toArray n))
    (ht : ∀ (i : Nat) (k : Int × Int), keys[i]? = some k → ∃ v : Value, vs[i]? = some v ∧ Told s.heap v k) (hlen : keys.length = vs.length) (h2 : 2 ≤ vs.length) (h64 : vs.length < 64) (hrun : runC keys (kas_sort vs.length) = some p)
    (h : ∀ h' n', (∀ b o, b ≠ a → s.heap.get? b = some o → h'.get? b = some o) → h'.get? a = some (seqObj "list" (p.toList.map fun i => vs.getD i Value.none).toArray n') → P (.done (.ret .none)) { s with heap := h' }) :
    wpAny (model prog w) A (Builtin.«list.sort» ⟨[.ref a], []⟩) P E s := by
  have ha : a < s.heap.objs.size := Heap.lt_size ho
  have s1 := Heap.SameBut.update s.heap a (Obj.mapSeq fun _ => (#[] : Array Value))
  obtain ⟨e1, ho1⟩ : ∃ e1, (s.heap.update a (Obj.mapSeq fun _ => (#[] : Array Value))).get? a = some (seqObj "list" #[] e1) := ⟨_, get?_update_seq ho fun _ => #[]⟩
  rw [list_sort_plain]
  refine wpAny_bind (listItems_at ho rfl ?_)
  refine wpAny_bind (listUpdate_at ho rfl ?_ (by rw [List.size_toArray, sizeLine_eq]; omega) (Nat.zero_le _))
  refine wpAny_bind (seqEpoch_at ho1 rfl ?_)
  refine wpAny_bind (wpAny_newTuple ?_ (by show vs.length ≤ _; rw [sizeLine_eq]; omega))
  refine wpAny_bind (wpAny_newList ?_ (Nat.zero_le _))
  refine wpAny_holding ?_
  have keep : ∀ b o, b ≠ a → s.heap.get? b = some o → (((s.heap.update a (Obj.mapSeq fun _ => (#[] : Array Value))).push (seqObj "tuple" vs.toArray 0)).push (seqObj "list" #[] 0)).get? b = some o :=
    fun b o hb e => Heap.get?_push_of_some _ (Heap.get?_push_of_some _ (s1.extBut b o hb e))
  have ha1 : (((s.heap.update a (Obj.mapSeq fun _ => (#[] : Array Value))).push (seqObj "tuple" vs.toArray 0)).push (seqObj "list" #[] 0)).get? a = some (seqObj "list" #[] e1) := Heap.get?_push_of_some _ (Heap.get?_push_of_some _ ho1)
  show wpAny (model prog w) A _ P E { s with heap := ((s.heap.update a (Obj.mapSeq fun _ => (#[] : Array Value))).push (seqObj "tuple" vs.toArray 0)).push (seqObj "list" #[] 0) }
  generalize ((s.heap.update a (Obj.mapSeq fun _ => (#[] : Array Value))).push (seqObj "tuple" vs.toArray 0)).push (seqObj "list" #[] 0) = g at keep ha1 ⊢
  have ht' : ∀ i k, keys[i]? = some k → ∃ v, vs[i]? = some v ∧ Told g v k := fun i k hk => by
    obtain ⟨v, hv, T, t, u, c, e, o, hoT, hc, q⟩ := ht i k hk
    refine ⟨v, hv, T, t, u, c, e, o, keep _ _ ?_ hoT, hc, q⟩
    rintro rfl
    rw [ho] at hoT
    cases hoT
    exact absurd hc (by show ¬ (Value.type "list" = _); decide)
  dsimp only
  have hn2 : ¬ vs.toArray.size < 2 := by rw [List.size_toArray]; omega
  rw [if_neg hn2, if_neg hn2]
  refine wpAny_bind (told_kind (s := { s with heap := g }) ht' hlen (by omega) ?_)
  refine wpAny_bind (wpAny_mono (kat_run (Q := fun st' s' => s' = { s with heap := g } ∧ ∃ q : Array Nat, q = p ∧ q.size = vs.length ∧ arrOf st' = q.map (kas_item (vs.toArray.zip vs.toArray)) ∧ failedOf st' = none) (G := fun q s' => q = p ∧ s' = { s with heap := g })
    rfl h2 h64 (fun p' st' s' a1 a2 a3 a4 => ⟨a4.2, p', a4.1, a1, a2, a3⟩) (run_wp (s := { s with heap := g }) ht' _ hrun ⟨rfl, rfl⟩)) ?_ fun _ _ e => e)
  rintro ⟨⟨⟩, st'⟩ s' ⟨rfl, q, rfl, hp, har, hf⟩
  dsimp only
  have hout := kat_snds rfl har
  have hsz : (List.toArray (q.toList.map fun i => vs.getD i Value.none)).size = vs.length := by rw [List.size_toArray, List.length_map, Array.length_toList, hp]
  rw [hout]
  have s2 := Heap.SameBut.update g a (Obj.mapSeq fun _ => List.toArray (q.toList.map fun i => vs.getD i Value.none))
  obtain ⟨c2, hc2⟩ : ∃ c2, (g.update a (Obj.mapSeq fun _ => List.toArray (q.toList.map fun i => vs.getD i Value.none))).get? a = some (seqObj "list" (List.toArray (q.toList.map fun i => vs.getD i Value.none)) c2) := ⟨_, get?_update_seq ha1 fun _ => List.toArray (q.toList.map fun i => vs.getD i Value.none)⟩
  refine wpAny_bind (seqEpoch_at ha1 rfl ?_)
  refine wpAny_bind (listUpdate_at ha1 rfl ?_ (Nat.zero_le _) (Nat.le_trans (Nat.le_of_eq hsz) (by rw [sizeLine_eq]; omega)))
  rw [hf]
  simp only [bne_self_eq_false, Bool.false_eq_true, if_false]
  exact wpAny_pure (h _ c2 (fun b o hb e => s2.extBut b o hb (keep b o hb e)) hc2)

theorem sorted_ext {s : Shared} {l : Addr} {vs : List Value} {keys : List (Int × Int)} {p : Array Nat} {Q : Value → Shared → Prop} (hl : s.heap.IsList l vs.toArray)
    (ht : ∀ (i : Nat) (k : Int × Int), keys[i]? = some k → ∃ v : Value, vs[i]? = some v ∧ Told s.heap v k) (hlen : keys.length = vs.length) (h2 : 2 ≤ vs.length) (h64 : vs.length < 64) (hrun : runC keys (kas_sort vs.length) = some p)
    (h : ∀ D h' n', s.heap.get? D = none → (∀ b o, s.heap.get? b = some o → h'.get? b = some o) → h'.get? D = some (PySem.W.listOf (p.toList.map fun i => vs.getD i Value.none).toArray n') → Q (.ref D) { s with heap := h' }) :
    wpAny (model prog w) A (call (.builtin "sorted") [.ref l]) Q E s := by
  refine Calls.call_function_entry kind_sorted plain_sorted entry_sorted (args_sorted1 _) ?_
  unfold Builtin.«sorted»
  refine wpAny_bind (m := checkCount "sorted" 1 1 _) (wpAny_pure ?_)
  refine wpAny_bind (collect_list hl ?_ (by rw [sizeLine_eq]; omega))
  refine wpAny_bind (wpAny_newList ?_ (by rw [sizeLine_eq]; omega))
  have hsz : ((s.heap.push (seqObj "list" #[] 0)).update s.heap.objs.size (Obj.mapSeq (· ++ vs.toArray))).objs.size = s.heap.objs.size + 1 := by
    rw [Heap.size_update, size_push']
  have hoL : (((s.heap.push (seqObj "list" #[] 0)).update s.heap.objs.size (Obj.mapSeq (· ++ vs.toArray))).push (seqObj "list" vs.toArray 0)).get? (s.heap.objs.size + 1) = some (seqObj "list" vs.toArray 0) := by
    rw [← hsz]; exact Heap.get?_push_size _ rfl
  have keep : ∀ b o, s.heap.get? b = some o → (((s.heap.push (seqObj "list" #[] 0)).update s.heap.objs.size (Obj.mapSeq (· ++ vs.toArray))).push (seqObj "list" vs.toArray 0)).get? b = some o := fun b o q => by
    have hlt : b < s.heap.objs.size := Heap.lt_size q
    rw [Heap.get?_push_ne _ _ _ (by rw [hsz]; exact Nat.ne_of_lt (Nat.lt_succ_of_lt hlt)), Heap.get?_update_ne _ _ _ _ (Nat.ne_of_lt hlt), Heap.get?_push_ne _ _ _ (Nat.ne_of_lt hlt)]
    exact q
  show wpAny _ _ _ _ _ { s with heap := ((s.heap.push (seqObj "list" #[] 0)).update s.heap.objs.size (Obj.mapSeq (· ++ vs.toArray))).push (seqObj "list" vs.toArray 0) }
  rw [hsz]
  refine wpAny_bind (wpAny_holding (wpAny_call_entry slot_list_sort ⟨_, hoL, rfl⟩ entry_list_sort ?body (args_list_sort _)))
  case body =>
    refine sort_ext (s := { s with heap := ((s.heap.push (seqObj "list" #[] 0)).update s.heap.objs.size (Obj.mapSeq (· ++ vs.toArray))).push (seqObj "list" vs.toArray 0) }) hoL (fun i k hk => ?_) hlen h2 h64 hrun fun h' n' hk ha => ?_
    · obtain ⟨v, hv, T, t, u, c, e, o, hoT, q⟩ := ht i k hk
      exact ⟨v, hv, T, t, u, c, e, o, keep _ _ hoT, q⟩
    · refine ⟨_, rfl, wpAny_pure ⟨_, rfl, ?_⟩⟩
      refine h _ h' n' ?_ (fun b o e => hk b o (fun q => ?_) (keep b o e)) ha
      · cases e : s.heap.get? (s.heap.objs.size + 1) with
        | none => rfl
        | some o' => exact absurd (Heap.lt_size e) (Nat.not_lt.mpr (Nat.le_succ _))
      · exact absurd (Heap.lt_size e) (by rw [q]; exact Nat.not_lt.mpr (Nat.le_succ _))
end
end Mine

/-! MPick2 -/
namespace Mine
set_option maxRecDepth 100000
open PySem PySem.W PyProof.Rows PySem.Calls
set_option maxHeartbeats 4000000

abbrev Tld := Int × Int × Bool
def Tld.d (x : Tld) : D := .tup [.int x.1, .int x.2.1, .bool x.2.2]
def Tld.k (x : Tld) : Int × Int := (x.1, x.2.1)

theorem rpa_told {O : List Addr} {h : Heap} : ∀ {vs : List Value} {l : List Tld}, RpA O h vs (l.map Tld.d) → ∀ (i : Nat) (x : Tld), l[i]? = some x → ∃ (T : Addr) (t u : Tok), vs[i]? = some (.ref T) ∧ h.IsTuple T #[.int x.1 t, .int x.2.1 u, .bool x.2.2]
  | vs, l, r, i, x, hx => by
    obtain ⟨v, hv, rv⟩ := r.get (i := i) (d := Tld.d x) (by rw [List.getElem?_map, hx]; rfl)
    unfold Tld.d at rv
    cases rv with
    | tup hO hp hr =>
      cases hr with | cons q1 hr => cases hr with | cons q2 hr => cases hr with | cons q3 hr =>
        cases hr; cases q1; cases q2; cases q3
        exact ⟨_, _, _, hv, hp⟩

theorem rpa_bools {O : List Addr} {h : Heap} : ∀ (bs : List Bool), RpA O h (bs.map Value.bool) (bs.map D.bool)
  | [] => .nil
  | b :: bs => .cons (.bool b) (rpa_bools bs)

section
variable {W : Wd} {c : Act} {ρ : Rho}
theorem ev_pick {e : Expr} {x y z : Str} {fp px py pz tp zp pos2 : Pos} {kk : Nat} {scope : Scope} {pos : Pos} {l : List Tld} {p : Array Nat} {bs : List Bool}
    (hns : nsIn W.K mainGlobals (Str.ofString "sorted") = some none) (h1 : EvL W c ρ pos2 [e] [.lst (l.map Tld.d)]) (hr : Room 0 c.A)
    (h2 : 2 ≤ l.length) (h64 : l.length < 64) (hrun : runC (l.map Tld.k) (kas_sort l.length) = some p) (hp : (p.toList.map fun i => (l[i]?).map (·.2.2)) = bs.map some)
    (hbl : bs.length ≤ 64) (hclos : closureFor scope c.env = pure []) (hcell : ∀ n ∈ scope.names, n.2 ≠ .cell) (hkind : scope.kind = .function)
    (hnames : ∀ y ∈ scope.names, y.2 = .local → scope.names.lookup y.1 = some .local) (hx : scope.names.lookup x = some .local) (hy : scope.names.lookup y = some .local) (hz : scope.names.lookup z = some .local)
    (hdb : (z == ("__debug__" : Str)) = false)
    (hs : ∀ v, foldedSetIterable (.Call (.Name (Str.ofString "sorted") fp) [e] [] pos2) c.env v = pure v)
    (hxk : c.env.kindOf (Str.ofString "sorted") = some .globalImplicit := by rfl)
    (he : starEach [e] c.env = (false, eval e c.env) :: starEach [] c.env := by rfl) (hplain : (backTo pos2 (starEach [] c.env)).any (·.1) = false := by rfl)
    (hc : eval (.Call (.Name (Str.ofString "sorted") fp) [e] [] pos2) c.env = (do callWith pos2 (← eval (.Name (Str.ofString "sorted") fp) c.env) [] (backTo pos2 (starEach [e] c.env)) (backToKw pos2 (keywordEach [] c.env))) := by rfl) :
    Ev W c ρ (.ListComp (.Name z zp) [⟨.Tuple [.Name x px, .Name y py, .Name z pz] kk tp, .Call (.Name (Str.ofString "sorted") fp) [e] [] pos2, [], 0⟩] scope pos) (.lst (bs.map .bool)) := by
  intro I O s S Q E h
  refine ListComp_pick hclos hcell hkind hnames hx hy hz rfl hdb hr.handled ?_ hs
  refine Call_ ?_ hc
  refine ld_builtin S hns boot_sorted (by decide) ?_ hxk (by decide)
  refine PyProof.Rows.callWith_builtin1 ?_ he hplain
  refine h1 I O s S _ _ fun vs g tk e1 r => ?_
  have S1 := S.ext e1
  cases r with
  | cons r1 r2 =>
    cases r2
    cases r1 with
    | lst hO hpl hr =>
      rename_i a ws
      have hlen : ws.length = l.length := by rw [hr.length]; simp
      have ht := rpa_told hr
      refine sorted_ext (vs := ws) (keys := l.map Tld.k) (p := p) hpl.isList (fun i k hk => ?_) (by simp [hlen]) (by omega) (by omega) (by rw [hlen]; exact hrun) fun D h' n' hD hk' hD' => ?_
      · rw [List.getElem?_map] at hk
        cases q : l[i]? with
        | none => rw [q] at hk; cases hk
        | some x =>
          rw [q] at hk
          have ek : Tld.k x = k := by simpa using hk
          subst ek
          obtain ⟨T, t, u, hv, hT⟩ := ht i x q
          exact ⟨_, hv, T, t, u, _, rfl, hT⟩
      · have hpl2 : p.toList.length = bs.length := by simpa using congrArg List.length hp
        refine ⟨D, _, bs.map Value.bool, rfl, ⟨_, hD', rfl, n', rfl⟩, fun i v hv => ?_, by simpa using hpl2.symm, ?_, fun D2 h3 tk3 n3 hD2 hD2' hk3 => ?_⟩
        · rw [List.getElem?_toArray, List.getElem?_map] at hv
          cases q : p.toList[i]? with
          | none => rw [q] at hv; cases hv
          | some j =>
            rw [q] at hv
            have hv' : ws.getD j Value.none = v := by simpa using hv
            have hb := congrArg (·[i]?) hp
            simp only [List.getElem?_map, q, Option.map_some] at hb
            cases qb : bs[i]? with
            | none => rw [qb] at hb; cases hb
            | some b =>
              rw [qb] at hb
              cases ql : l[j]? with
              | none => rw [ql] at hb; simp at hb
              | some x =>
                rw [ql] at hb
                have hb' : x.2.2 = b := by simpa using hb
                obtain ⟨T, t, u, hw, hT⟩ := ht j x ql
                rw [List.getD_eq_getElem?_getD, hw] at hv'
                refine ⟨T, .int x.1 t, .int x.2.1 u, .bool b, hv'.symm, by simp [qb], ?_⟩
                · rw [← hb']
                  obtain ⟨o, ho, q⟩ := hT
                  exact ⟨o, hk' _ _ ho, q⟩
        · rw [List.size_toArray, List.length_map, sizeLine_eq]
          omega
        · have e3 : Ext s.heap h3 := e1.trans (fun b o e => hk3 b o (hk' b o e))
          refine h (.ref D2) h3 tk3 e3 (.lst (vs := bs.map Value.bool) (S1.dom.freshOf ?_) ⟨n3, hD2'⟩ (rpa_bools bs))
          cases q : g.get? D2 with
          | none => rfl
          | some o => have := hk' _ _ q; rw [hD2] at this; cases this
end
end Mine

/-! MFn -/
namespace Mine
set_option maxRecDepth 100000
open PySem PySem.W PyProof.Rows PySem.Calls

section
variable {W : Wd}
/-- a def's contract, by its body; some arguments by default -/
theorem fn_intro_dflt {k : Nat} {name : Str} {ds eds : List D} {extra : List Value} {d : D} {f : Addr} {oc : Value} {od : Option Addr} {osl : Array (Option Value)} {fd : FuncData} {body : List Stmt} {names : List Str}
    (hns : nsIn W.K mainGlobals name = some (some (.ref f))) (hlook : W.K.lookup f = some ⟨oc, od, .func fd, osl⟩) (hcode : codeIn W.K fd.code fd.qualname = true)
    (hco : fd.scope.isCoroutine = false) (hgen : fd.scope.isGenerator = false) (hbody : fd.body = .stmts body) (hkind : fd.scope.kind = .function)
    (hglob : fd.globals = mainGlobals) (hbins : fd.builtins = builtinsNs) (hclo : fd.closure = [])
    (hnd : names.Nodup) (hlen : ds.length + eds.length = names.length) (hex : ∀ O h, RpA O h extra eds)
    (hbind : ∀ (vs : List Value) (M : Model) (A : Around) (s : Shared) (Q : List (Str × Value) → Shared → Prop) (E : Value → Shared → Prop), vs.length = ds.length → W.K.In s.heap → Q (names.zip (vs ++ extra)) s → wpAny M A (bindArgs fd ⟨vs, []⟩) Q E s)
    (hloc : ∀ x ∈ names, fd.scope.names.lookup x = some .local)
    (hcell : ∀ x ∈ fd.scope.names, x.2 ≠ .cell)
    (h : ∀ A L h₀ O₀, Room k A → Ex W { A := A, env := { scope := fd.scope, locals := L, globals := mainGlobals, cells := [], qual := fd.qualname ++ ".<locals>.", func := some f, code := fd.code, frame := some L, builtins := builtinsNs }, h₀ := h₀, O₀ := O₀ }
      (names.zip ((ds ++ eds).map .val)) body (.rt d)) : Fn W (k + 1) name ds d := by
  refine ⟨f, _, fd, hns, hlook, rfl, fun A s O vs0 hr hok hO hvs0 Q E hQ => ?_⟩
  have hroom : A.depth < recursionLimit := by have := hr.depth; omega
  refine wpAny_call (codeAny_call_function hroom (hok.K _ _ hlook) rfl hco hgen hbody (codeRec_of hok.K hcode) ?_)
  refine hbind vs0 _ _ _ _ _ hvs0.length hok.K ?_
  have hvs : RpA O s.heap (vs0 ++ extra) (ds ++ eds) := hvs0.append (hex _ _)
  generalize vs0 ++ extra = vs at hvs ⊢
  have hlen' : (ds ++ eds).length = names.length := by rw [List.length_append]; exact hlen
  generalize ds ++ eds = ds' at hvs hlen' h ⊢
  have hz : ∀ x ∈ names.zip vs, fd.scope.names.lookup x.1 = some .local := fun x hx => hloc _ (List.of_mem_zip hx).1
  refine wpAny_newFunctionEnv hcell hz (fun h₁ hns₁ hsb => ?_) hkind
  have e1 : Ext s.heap h₁ := fun b o e => hsb.extBut b o (Nat.ne_of_lt (Heap.lt_size e)) (Heap.get?_push_of_some _ e)
  refine ⟨hok.nolimit.keeps e1, codeAny_func ?_⟩
  rw [hglob, hbins, hclo]
  refine h _ s.heap.objs.size s.heap O (hr.deeper) [] (s.heap.objs.size :: O) _ ?_ _ _ ?_
  · show Sit W _ _ [] _ h₁
    have hfr : s.heap.get? s.heap.objs.size = none := by
      cases q : s.heap.get? s.heap.objs.size with
      | none => rfl
      | some o => exact absurd (Heap.lt_size q) (Nat.lt_irrefl _)
    refine { ok := hok, fr := ⟨_, hns₁, fun x sl hx => ?_⟩, keep := e1, fresh := hfr, glob := rfl, bins := rfl, kind := hkind, cells := fun p hp => (nomatch hp), cellIs := fun p hp => (nomatch hp), hL := .head _, h0 := fun b hb => .tail _ hb, d0 := hO, dom := fun b hb => ?_, its := fun p hp => (nomatch hp) }
    · obtain ⟨v, d', rfl, hm, r⟩ := zip_at hvs (PySem.mem_of_lookup hx)
      refine ⟨v, ?_, ?_⟩
      · show (names.zip vs).reverse.lookup x = some v
        refine lookup_nodup ?_ (List.mem_reverse.mpr hm)
        rw [List.map_reverse]
        refine List.pairwise_reverse.mpr ?_
        show List.Pairwise (fun a b => b ≠ a) _
        have e : (names.zip vs).map (·.1) = names := by
          have := List.map_fst_zip (l₁ := names) (l₂ := vs) (by rw [hvs.length, hlen']; exact Nat.le_refl _)
          simpa using this
        rw [e]; exact hnd.imp fun h => Ne.symm h
      · refine Rp.off (Off.ofExt e1) (fun a o ha ho => ?_) r
        rcases List.mem_cons.mp ha with q | q
        · rw [q, hfr] at ho; cases ho
        · exact q
    · rcases List.mem_cons.mp hb with q | q
      · obtain ⟨o, _, _, ho, _⟩ := hns₁
        exact ⟨o, q ▸ ho⟩
      · obtain ⟨o, ho⟩ := hO b q
        exact ⟨o, e1 _ _ ho⟩
  · intro v h' tk e2 r2
    exact hQ v h' tk e2 r2

theorem cell_one (n : Nat) (x : Str) : ∀ (names : List (Str × NameKind)) (acc : List (Str × Addr)), (names.filter fun p => p.2 == .cell) = [(x, NameKind.cell)] → cellsFrom n names acc = (x, n) :: acc
  | [], acc, h => by simp at h
  | (y, kd) :: r, acc, h => by
    unfold cellsFrom
    by_cases hk : (kd == NameKind.cell) = true
    · rw [if_pos hk]
      rw [List.filter_cons, if_pos hk] at h
      obtain ⟨h1, h2⟩ := List.cons.inj h
      cases h1
      have none : ∀ (r : List (Str × NameKind)) n acc, (r.filter fun p => p.2 == .cell) = [] → cellsFrom n r acc = acc := by
        intro r
        induction r with
        | nil => intros; rfl
        | cons p r ih =>
          intro n acc h
          obtain ⟨y, kd⟩ := p
          unfold cellsFrom
          rw [List.filter_cons] at h
          by_cases hk : (kd == NameKind.cell) = true
          · rw [if_pos hk] at h; cases h
          · rw [if_neg hk] at h ⊢; exact ih _ _ h
      exact none r _ _ h2
    · rw [if_neg hk]
      rw [List.filter_cons, if_neg hk] at h
      exact cell_one n x r acc h

/-- one argument, one cell -/
theorem fn_intro_cell {k : Nat} {name : Str} {da : D} {d : D} {f : Addr} {oc : Value} {od : Option Addr} {osl : Array (Option Value)} {fd : FuncData} {body : List Stmt} {a x : Str}
    (hns : nsIn W.K mainGlobals name = some (some (.ref f))) (hlook : W.K.lookup f = some ⟨oc, od, .func fd, osl⟩) (hcode : codeIn W.K fd.code fd.qualname = true)
    (hco : fd.scope.isCoroutine = false) (hgen : fd.scope.isGenerator = false) (hbody : fd.body = .stmts body) (hkind : fd.scope.kind = .function)
    (hglob : fd.globals = mainGlobals) (hbins : fd.builtins = builtinsNs) (hclo : fd.closure = [])
    (hbind : ∀ v : Value, bindArgs fd ⟨[v], []⟩ = pure [(a, v)])
    (hloc : fd.scope.names.lookup a = some .local)
    (hcell : (fd.scope.names.filter fun p => p.2 == .cell) = [(x, NameKind.cell)]) (hax : a ≠ x)
    (h : ∀ A L C h₀ O₀, Room k A → h₀.get? C = none → Ex W { A := A, env := { scope := fd.scope, locals := L, globals := mainGlobals, cells := [(x, C)], qual := fd.qualname ++ ".<locals>.", func := some f, code := fd.code, frame := some L, builtins := builtinsNs }, h₀ := h₀, O₀ := O₀ }
      [(a, .val da)] body (.rt d)) : Fn W (k + 1) name [da] d := by
  refine ⟨f, _, fd, hns, hlook, rfl, fun A s O vs hr hok hO hvs Q E hQ => ?_⟩
  have hroom : A.depth < recursionLimit := by have := hr.depth; omega
  cases hvs with | cons ra hvs =>
  cases hvs
  rename_i v
  have hcs : cellsFrom (s.heap.objs.size + 1) fd.scope.names [] = [(x, s.heap.objs.size + 1)] := cell_one _ _ _ _ hcell
  refine wpAny_call (codeAny_call_function hroom (hok.K _ _ hlook) rfl hco hgen hbody (codeRec_of hok.K hcode) ?_)
  rw [hbind v, hclo]
  refine wpAny_pure (wpAny_newFunctionEnv_cells hkind (fun y hy => ?_) fun env he s' ic => ?_)
  · rw [List.mem_singleton.mp hy]; exact .inl hloc
  subst he
  rw [hcs] at ic ⊢
  obtain ⟨⟨⟨g, tk, rfl⟩, hnsL, hkeep, hfresh⟩, hcl, hap, hab⟩ := ic
  have hkd : (newEnv fd.scope s.heap.objs.size fd.globals [(x, s.heap.objs.size + 1)] (fd.qualname ++ ".<locals>.") (some f) fd.code none fd.builtins).kindOf a = some .local := hloc
  refine ⟨hok.nolimit.keeps hkeep, codeAny_func ?_⟩
  rw [hglob, hbins]
  have hfr : ∀ b, s.heap.objs.size ≤ b → s.heap.get? b = none := fun b hb => by
    cases q : s.heap.get? b with
    | none => rfl
    | some o => exact absurd (Heap.lt_size q) (Nat.not_lt.mpr hb)
  have hcx : g.IsCell (s.heap.objs.size + 1) none := by
    have := hcl x (s.heap.objs.size + 1) (by show List.lookup x [(x, s.heap.objs.size + 1)] = _; simp)
    have e : bindC (newEnv fd.scope s.heap.objs.size fd.globals [(x, s.heap.objs.size + 1)] (fd.qualname ++ ".<locals>.") (some f) fd.code none fd.builtins).kindOf [(a, v)] (fun _ => none) x = none := by
      unfold bindC
      rw [if_pos hkd]; rfl
    rw [e] at this
    exact this
  refine h _ s.heap.objs.size (s.heap.objs.size + 1) s.heap O (hr.deeper) (hfr _ (Nat.le_succ _)) [] ((s.heap.objs.size + 1) :: s.heap.objs.size :: O) _ ?_ _ _ ?_
  · show Sit W _ _ [] _ g
    refine { ok := hok, fr := ⟨_, hnsL, fun y sl hy => ?_⟩, keep := hkeep, fresh := hfr _ (Nat.le_refl _), glob := rfl, bins := rfl, kind := hkind, cells := fun p hp => ?_, cellIs := fun p hp => ?_, hL := .tail _ (.head _), h0 := fun b hb => .tail _ (.tail _ hb), d0 := hO, dom := fun b hb => ?_, its := fun p hp => (nomatch hp) }
    · rw [List.lookup_cons] at hy
      by_cases e : (y == a) = true
      · rw [e] at hy
        have e' : y = a := by simpa using e
        cases hy
        refine ⟨v, ?_, ?_⟩
        · unfold Bears
          have e2 : List.lookup y [(x, s.heap.objs.size + 1)] = none := by
            rw [List.lookup_cons, show (y == x) = false by rw [e']; simpa using hax]; rfl
          show match List.lookup y [(x, s.heap.objs.size + 1)] with | some ca => _ | none => _
          rw [e2]
          show bindL _ [(a, v)] (fun _ => none) y = some v
          unfold bindL
          rw [if_pos hkd]
          unfold bindL
          show (if y = a then some v else none) = some v
          rw [if_pos e']
        · refine Rp.off (Off.ofExt hkeep) (fun b o hb ho => ?_) ra
          rcases List.mem_cons.mp hb with q | q
          · rw [q, hfr _ (Nat.le_succ _)] at ho; cases ho
          · rcases List.mem_cons.mp q with q | q
            · rw [q, hfr _ (Nat.le_refl _)] at ho; cases ho
            · exact q
      · rw [show (y == a) = false by simpa using e] at hy; cases hy
    · rw [List.mem_singleton.mp hp]
      exact ⟨.head _, Nat.succ_ne_self _, fun q hq => nomatch hq⟩
    · rw [List.mem_singleton.mp hp]; exact ⟨_, hcx⟩
    · rcases List.mem_cons.mp hb with q | q
      · obtain ⟨o, ho, _⟩ := hcx
        exact ⟨o, q ▸ ho⟩
      · rcases List.mem_cons.mp q with q | q
        · obtain ⟨o, _, _, ho, _⟩ := hnsL
          exact ⟨o, q ▸ ho⟩
        · obtain ⟨o, ho⟩ := hO b q
          exact ⟨o, hkeep _ _ ho⟩
  · intro v h' tk e2 r2
    exact hQ v h' tk e2 r2

theorem stores_cell {c : Act} {x : Str} {C : Addr} (hl : c.env.kindOf x = some .cell) (hc : c.env.cells = [(x, C)]) (h0 : c.h₀.get? C = none) : Stores W c x (fun ρ => (ρ.all fun p => p.2.isVal) = true) :=
  fun ρ I O s v d Q E hok S r hQ => st_storeCell S r (fun h' S' => hQ h' _ S') hl hc h0 (allVal hok)
end
end Mine

/-! MF1 -/
namespace Mine
set_option maxRecDepth 100000
open PySem PySem.W PyProof.Rows PySem.Calls PySem.Flt
set_option maxHeartbeats 4000000

theorem no_max (P : Params) : nsIn (hd.heap_39 P) mainGlobals (Str.ofString "max") = some none := by kernel_rfl
theorem no_min (P : Params) : nsIn (hd.heap_39 P) mainGlobals (Str.ofString "min") = some none := by kernel_rfl
theorem no_int (P : Params) : nsIn (hd.heap_39 P) mainGlobals (Str.ofString "int") = some none := by kernel_rfl
theorem no_len (P : Params) : nsIn (hd.heap_39 P) mainGlobals (Str.ofString "len") = some none := by kernel_rfl
theorem no_range (P : Params) : nsIn (hd.heap_39 P) mainGlobals (Str.ofString "range") = some none := by kernel_rfl
theorem no_sorted (P : Params) : nsIn (hd.heap_39 P) mainGlobals (Str.ofString "sorted") = some none := by kernel_rfl
theorem no_sum (P : Params) : nsIn (hd.heap_39 P) mainGlobals (Str.ofString "sum") = some none := by kernel_rfl
theorem no_list (P : Params) : nsIn (hd.heap_39 P) mainGlobals (Str.ofString "list") = some none := by kernel_rfl
theorem at_rgb_to_hls (P : Params) : nsIn (hd.heap_39 P) mainGlobals (Str.ofString "rgb_to_hls") = some (some (.ref 38)) := by kernel_rfl
theorem at_hsv_to_rgb (P : Params) : nsIn (hd.heap_39 P) mainGlobals (Str.ofString "hsv_to_rgb") = some (some (.ref 45)) := by kernel_rfl
theorem at__paren_depth (P : Params) : nsIn (hd.heap_39 P) mainGlobals (Str.ofString "_paren_depth") = some (some (.ref 58)) := by kernel_rfl
theorem at_iadd (P : Params) : nsIn (hd.heap_39 P) mainGlobals (Str.ofString "iadd") = some (some (.ref 65)) := by kernel_rfl
theorem at_ilshift (P : Params) : nsIn (hd.heap_39 P) mainGlobals (Str.ofString "ilshift") = some (some (.ref 72)) := by kernel_rfl
theorem at_ior (P : Params) : nsIn (hd.heap_39 P) mainGlobals (Str.ofString "ior") = some (some (.ref 79)) := by kernel_rfl
theorem at_isub (P : Params) : nsIn (hd.heap_39 P) mainGlobals (Str.ofString "isub") = some (some (.ref 86)) := by kernel_rfl
theorem at__law_label (P : Params) : nsIn (hd.heap_39 P) mainGlobals (Str.ofString "_law_label") = some (some (.ref 93)) := by kernel_rfl
theorem at__law_pieces (P : Params) : nsIn (hd.heap_39 P) mainGlobals (Str.ofString "_law_pieces") = some (some (.ref 100)) := by kernel_rfl
theorem at__law_lamps (P : Params) : nsIn (hd.heap_39 P) mainGlobals (Str.ofString "_law_lamps") = some (some (.ref 105)) := by kernel_rfl
theorem at__law_swept (P : Params) : nsIn (hd.heap_39 P) mainGlobals (Str.ofString "_law_swept") = some (some (.ref 110)) := by kernel_rfl
theorem at__law_number (P : Params) : nsIn (hd.heap_39 P) mainGlobals (Str.ofString "_law_number") = some (some (.ref 117)) := by kernel_rfl
theorem at__law_line (P : Params) : nsIn (hd.heap_39 P) mainGlobals (Str.ofString "_law_line") = some (some (.ref 124)) := by kernel_rfl
theorem at__law_heights (P : Params) : nsIn (hd.heap_39 P) mainGlobals (Str.ofString "_law_heights") = some (some (.ref 131)) := by kernel_rfl
theorem at__law_bounces (P : Params) : nsIn (hd.heap_39 P) mainGlobals (Str.ofString "_law_bounces") = some (some (.ref 138)) := by kernel_rfl
theorem at__law_due (P : Params) : nsIn (hd.heap_39 P) mainGlobals (Str.ofString "_law_due") = some (some (.ref 143)) := by kernel_rfl
theorem at__law_pairs (P : Params) : nsIn (hd.heap_39 P) mainGlobals (Str.ofString "_law_pairs") = some (some (.ref 148)) := by kernel_rfl
theorem at_law (P : Params) : nsIn (hd.heap_39 P) mainGlobals (Str.ofString "law") = some (some (.ref 153)) := by kernel_rfl
theorem at__quoted (P : Params) : nsIn (hd.heap_39 P) mainGlobals (Str.ofString "_quoted") = some (some (.ref 50)) := by kernel_rfl

section
variable {W : Wd} {c : Act} {ρ ρ' : Rho} {pos : Pos}
theorem ex_if_ret {test : Expr} {body rest : List Stmt} {d : D} {b : Bool} (h1 : Tr W c ρ test b) (ht : b = true → Ex W c ρ body (.rt d)) (hf : b = false → Ex W c ρ rest (.rt d)) : Ex W c ρ (.If test body [] pos :: rest) (.rt d) := by
  cases b with
  | true => exact ex_if_leave h1 (ht rfl) trivial
  | false => exact ex_if h1 ⟨ex_nil (ρ' := ρ) fun _ _ h => h, hf rfl⟩
theorem ex_if_both {test : Expr} {body orelse rest : List Stmt} {o : Out} {b : Bool} (h1 : Tr W c ρ test b) (ht : b = true → Ex W c ρ body (.nx ρ')) (hf : b = false → Ex W c ρ orelse (.nx ρ')) (h2 : Ex W c ρ' rest o) : Ex W c ρ (.If test body orelse pos :: rest) o := by
  cases b with
  | true => exact ex_if h1 ⟨ht rfl, h2⟩
  | false => exact ex_if h1 ⟨hf rfl, h2⟩
theorem ex_if_set {test : Expr} {body orelse rest : List Stmt} {o : Out} {b : Bool} {x : Str} {d : D} (h1 : Tr W c ρ test b) (ht : b = true → Ex W c ρ body (.nx (setR ρ x (.val d)))) (hf : b = false → Ex W c ρ orelse (.nx (setR ρ x (.val d)))) (hρ : setR ρ x (.val d) = ρ') (h2 : Ex W c ρ' rest o) : Ex W c ρ (.If test body orelse pos :: rest) o :=
  ex_if_both h1 ht hf (hρ ▸ h2)
theorem ex_done : Ex W c ρ [] (.nx ρ) := ex_nil fun _ _ h => h
end

section
variable {W : Wd} {P : Params}

theorem fn_iadd (hK : W.K = hd.heap_39 P) (a b : Int) : Fn W 1 (Str.ofString "iadd") [.int a, .int b] (.int (a + b)) := by
  refine fn_intro (f := 65) (k := 0) (names := [Str.ofString "a", Str.ofString "b"]) (by rw [hK]; exact at_iadd P) (by rw [hK]; rfl) (by rw [hK]; rfl) rfl rfl rfl rfl rfl rfl rfl (by decide) rfl (fun vs hv => by
    match vs, hv with
    | [_, _], _ => rfl) (by decide) (by decide) fun A L h₀ O₀ hr => ?_
  have hh := hr.handled
  refine ex_aug (d0 := .int a) (d1 := .int b) (by rfl) (ev_local (by rfl)) i_add_ii (by rfl) ?_
  exact ex_return (ev_local (by rfl))

theorem fn_isub (hK : W.K = hd.heap_39 P) (a b : Int) : Fn W 1 (Str.ofString "isub") [.int a, .int b] (.int (a - b)) := by
  refine fn_intro (f := 86) (k := 0) (names := [Str.ofString "a", Str.ofString "b"]) (by rw [hK]; exact at_isub P) (by rw [hK]; rfl) (by rw [hK]; rfl) rfl rfl rfl rfl rfl rfl rfl (by decide) rfl (fun vs hv => by
    match vs, hv with
    | [_, _], _ => rfl) (by decide) (by decide) fun A L h₀ O₀ hr => ?_
  have hh := hr.handled
  refine ex_aug (d0 := .int a) (d1 := .int b) (by rfl) (ev_local (by rfl)) i_sub_ii (by rfl) ?_
  exact ex_return (ev_local (by rfl))

theorem fn_ilshift (hK : W.K = hd.heap_39 P) (a b : Int) (hb : 0 ≤ b) (hb2 : b ≤ 1000000) (ha : a.natAbs < 2 ^ 64) : Fn W 1 (Str.ofString "ilshift") [.int a, .int b] (.int (a * 2 ^ b.toNat)) := by
  refine fn_intro (f := 72) (k := 0) (names := [Str.ofString "a", Str.ofString "b"]) (by rw [hK]; exact at_ilshift P) (by rw [hK]; rfl) (by rw [hK]; rfl) rfl rfl rfl rfl rfl rfl rfl (by decide) rfl (fun vs hv => by
    match vs, hv with
    | [_, _], _ => rfl) (by decide) (by decide) fun A L h₀ O₀ hr => ?_
  have hh := hr.handled
  refine ex_aug (d0 := .int a) (d1 := .int b) (by rfl) (ev_local (by rfl)) (i_shl_ii hb hb2 ha) (by rfl) ?_
  exact ex_return (ev_local (by rfl))

theorem fn_ior (hK : W.K = hd.heap_39 P) (a b : Int) : Fn W 1 (Str.ofString "ior") [.int a, .int b] (.int (Builtin.bitOr a b)) := by
  refine fn_intro (f := 79) (k := 0) (names := [Str.ofString "a", Str.ofString "b"]) (by rw [hK]; exact at_ior P) (by rw [hK]; rfl) (by rw [hK]; rfl) rfl rfl rfl rfl rfl rfl rfl (by decide) rfl (fun vs hv => by
    match vs, hv with
    | [_, _], _ => rfl) (by decide) (by decide) fun A L h₀ O₀ hr => ?_
  have hh := hr.handled
  refine ex_aug (d0 := .int a) (d1 := .int b) (by rfl) (ev_local (by rfl)) i_or_ii (by rfl) ?_
  exact ex_return (ev_local (by rfl))


def F0 : UInt64 := 0
def Fh : UInt64 := 4602678819172646912
def F1 : UInt64 := 4607182418800017408
def F2 : UInt64 := 4611686018427387904
def F4 : UInt64 := 4616189618054758400
def F6 : UInt64 := 4618441417868443648
def feq (a b : UInt64) : Bool := Float64.cmp a b == some .eq
def fle (a b : UInt64) : Bool := Float64.cmp a b == some .lt || Float64.cmp a b == some .eq
def hlsS (mx mn : UInt64) : UInt64 := if fle (Float64.div (Float64.add mx mn) F2) Fh then Float64.div (Float64.sub mx mn) (Float64.add mx mn) else Float64.div (Float64.sub mx mn) (Float64.sub (Float64.sub F2 mx) mn)
def hlsH (r g b mx mn : UInt64) : UInt64 :=
  let rc := Float64.div (Float64.sub mx r) (Float64.sub mx mn)
  let gc := Float64.div (Float64.sub mx g) (Float64.sub mx mn)
  let bc := Float64.div (Float64.sub mx b) (Float64.sub mx mn)
  let h := if feq r mx then Float64.sub bc gc else if feq g mx then Float64.sub (Float64.add F2 rc) bc else Float64.sub (Float64.add F4 gc) rc
  (Float64.divmod (Float64.div h F6) F1).2
def hls (r g b : UInt64) : UInt64 × UInt64 × UInt64 :=
  let mx := fmax3 r g b
  let mn := fmin3 r g b
  let l := Float64.div (Float64.add mx mn) F2
  if feq mn mx then (F0, l, F0) else (hlsH r g b mx mn, l, hlsS mx mn)
def hlsOk (r g b : UInt64) : Bool :=
  let mx := fmax3 r g b
  let mn := fmin3 r g b
  feq mn mx || (!Float64.isZero (Float64.sub mx mn) && (if fle (Float64.div (Float64.add mx mn) F2) Fh then !Float64.isZero (Float64.add mx mn) else !Float64.isZero (Float64.sub (Float64.sub F2 mx) mn)))

theorem fn_rgb_to_hls (hK : W.K = hd.heap_39 P) (r g b : UInt64) (hok : hlsOk r g b = true) : Fn W 1 (Str.ofString "rgb_to_hls") [.flt r, .flt g, .flt b] (.tup [.flt (hls r g b).1, .flt (hls r g b).2.1, .flt (hls r g b).2.2]) := by
  refine fn_intro (f := 38) (k := 0) (names := [Str.ofString "r", Str.ofString "g", Str.ofString "b"]) (by rw [hK]; exact at_rgb_to_hls P) (by rw [hK]; rfl) (by rw [hK]; rfl) rfl rfl rfl rfl rfl rfl rfl (by decide) rfl (fun vs hv => by
    match vs, hv with
    | [_, _, _], _ => rfl) (by decide) (by decide) fun A L h₀ O₀ hr => ?_
  have hh := hr.handled
  unfold hlsOk at hok
  dsimp only at hok
  generalize hmx : fmax3 r g b = mx at hok
  generalize hmn : fmin3 r g b = mn at hok
  refine ex_assign (ρ' := [(Str.ofString "r", .val _), (Str.ofString "g", .val _), (Str.ofString "b", .val _), (Str.ofString "maxc", .val _)]) (ev_builtin (by rw [hK]; exact no_max P) boot_max (evl_cons (ev_local (by rfl)) (evl_cons (ev_local (by rfl)) (evl_cons (ev_local (by rfl)) evl_nil))) (k_max_fff hh)) (by rfl) ?_
  refine ex_assign (ρ' := [(Str.ofString "r", .val _), (Str.ofString "g", .val _), (Str.ofString "b", .val _), (Str.ofString "maxc", .val _), (Str.ofString "minc", .val _)]) (ev_builtin (by rw [hK]; exact no_min P) boot_min (evl_cons (ev_local (by rfl)) (evl_cons (ev_local (by rfl)) (evl_cons (ev_local (by rfl)) evl_nil))) (k_min_fff hh)) (by rfl) ?_
  refine ex_assign (ρ' := [(Str.ofString "r", .val _), (Str.ofString "g", .val _), (Str.ofString "b", .val _), (Str.ofString "maxc", .val _), (Str.ofString "minc", .val _), (Str.ofString "sumc", .val _)]) (ev_bin (ev_local (by rfl)) (ev_local (by rfl)) b_add_ff) (by rfl) ?_
  refine ex_assign (ρ' := [(Str.ofString "r", .val _), (Str.ofString "g", .val _), (Str.ofString "b", .val _), (Str.ofString "maxc", .val _), (Str.ofString "minc", .val _), (Str.ofString "sumc", .val _), (Str.ofString "rangec", .val _)]) (ev_bin (ev_local (by rfl)) (ev_local (by rfl)) b_sub_ff) (by rfl) ?_
  refine ex_assign (ρ' := [(Str.ofString "r", .val _), (Str.ofString "g", .val _), (Str.ofString "b", .val _), (Str.ofString "maxc", .val _), (Str.ofString "minc", .val _), (Str.ofString "sumc", .val _), (Str.ofString "rangec", .val _), (Str.ofString "l", .val _)]) (ev_bin (ev_local (by rfl)) ev_flt (b_div_ff hh (by decide +kernel))) (by rfl) ?_
  rw [hmx, hmn]
  refine ex_if_ret (tr_cmp (ev_local (by rfl)) (ev_local (by rfl)) c_eq_ff) (fun hb => ?_) fun hb => ?_
  · have e : hls r g b = (F0, Float64.div (Float64.add mx mn) F2, F0) := by
      unfold hls; dsimp only; rw [hmx, hmn, if_pos (show feq mn mx = true from hb)]
    rw [e]
    exact (ex_return (ev_tuple (evl_cons ev_flt (evl_cons (ev_local (by rfl)) (evl_cons ev_flt evl_nil))) (by simp [sizeLine_eq])))
  have e : hls r g b = (hlsH r g b mx mn, Float64.div (Float64.add mx mn) F2, hlsS mx mn) := by
    unfold hls; dsimp only; rw [hmx, hmn, if_neg (by rw [show feq mn mx = false from hb]; decide)]
  rw [e]
  rw [show feq mn mx = false from hb, Bool.false_or, Bool.and_eq_true] at hok
  obtain ⟨hz1, hz2⟩ := hok
  have hz1' : Float64.isZero (Float64.sub mx mn) = false := by simpa using hz1
  refine ex_if_set (x := Str.ofString "s") (d := .flt (hlsS mx mn)) (ρ' := [(Str.ofString "r", .val _), (Str.ofString "g", .val _), (Str.ofString "b", .val _), (Str.ofString "maxc", .val _), (Str.ofString "minc", .val _), (Str.ofString "sumc", .val _), (Str.ofString "rangec", .val _), (Str.ofString "l", .val _), (Str.ofString "s", .val _)]) (tr_cmp (ev_local (by rfl)) ev_flt c_le_ff) (fun hb2 => ?_) (fun hb2 => ?_) (by rfl) ?_
  · have hb3 : fle (Float64.div (Float64.add mx mn) F2) Fh = true := hb2
    rw [if_pos hb3] at hz2
    have es : hlsS mx mn = Float64.div (Float64.sub mx mn) (Float64.add mx mn) := by unfold hlsS; rw [if_pos hb3]
    rw [es]
    refine ex_assign (ev_bin (ev_local (by rfl)) (ev_local (by rfl)) (b_div_ff hh (by simpa using hz2))) (by rfl) ex_done
  · have hb3 : fle (Float64.div (Float64.add mx mn) F2) Fh = false := hb2
    rw [if_neg (by rw [hb3]; decide)] at hz2
    have es : hlsS mx mn = Float64.div (Float64.sub mx mn) (Float64.sub (Float64.sub F2 mx) mn) := by unfold hlsS; rw [if_neg (by rw [hb3]; decide)]
    rw [es]
    refine ex_assign (ev_bin (ev_local (by rfl)) (ev_bin (ev_bin ev_flt (ev_local (by rfl)) b_sub_ff) (ev_local (by rfl)) b_sub_ff) (b_div_ff hh (by simpa [F2] using hz2))) (by rfl) ex_done

  refine ex_assign (ρ' := [(Str.ofString "r", .val _), (Str.ofString "g", .val _), (Str.ofString "b", .val _), (Str.ofString "maxc", .val _), (Str.ofString "minc", .val _), (Str.ofString "sumc", .val _), (Str.ofString "rangec", .val _), (Str.ofString "l", .val _), (Str.ofString "s", .val _), (Str.ofString "rc", .val _)]) (ev_bin (ev_bin (ev_local (by rfl)) (ev_local (by rfl)) b_sub_ff) (ev_local (by rfl)) (b_div_ff hh hz1')) (by rfl) ?_
  refine ex_assign (ρ' := [(Str.ofString "r", .val _), (Str.ofString "g", .val _), (Str.ofString "b", .val _), (Str.ofString "maxc", .val _), (Str.ofString "minc", .val _), (Str.ofString "sumc", .val _), (Str.ofString "rangec", .val _), (Str.ofString "l", .val _), (Str.ofString "s", .val _), (Str.ofString "rc", .val _), (Str.ofString "gc", .val _)]) (ev_bin (ev_bin (ev_local (by rfl)) (ev_local (by rfl)) b_sub_ff) (ev_local (by rfl)) (b_div_ff hh hz1')) (by rfl) ?_
  refine ex_assign (ρ' := [(Str.ofString "r", .val _), (Str.ofString "g", .val _), (Str.ofString "b", .val _), (Str.ofString "maxc", .val _), (Str.ofString "minc", .val _), (Str.ofString "sumc", .val _), (Str.ofString "rangec", .val _), (Str.ofString "l", .val _), (Str.ofString "s", .val _), (Str.ofString "rc", .val _), (Str.ofString "gc", .val _), (Str.ofString "bc", .val _)]) (ev_bin (ev_bin (ev_local (by rfl)) (ev_local (by rfl)) b_sub_ff) (ev_local (by rfl)) (b_div_ff hh hz1')) (by rfl) ?_
  refine ex_if_set (x := Str.ofString "h") (d := .flt (if feq r mx then Float64.sub (Float64.div (Float64.sub mx b) (Float64.sub mx mn)) (Float64.div (Float64.sub mx g) (Float64.sub mx mn)) else if feq g mx then Float64.sub (Float64.add F2 (Float64.div (Float64.sub mx r) (Float64.sub mx mn))) (Float64.div (Float64.sub mx b) (Float64.sub mx mn)) else Float64.sub (Float64.add F4 (Float64.div (Float64.sub mx g) (Float64.sub mx mn))) (Float64.div (Float64.sub mx r) (Float64.sub mx mn)))) (ρ' := [(Str.ofString "r", .val _), (Str.ofString "g", .val _), (Str.ofString "b", .val _), (Str.ofString "maxc", .val _), (Str.ofString "minc", .val _), (Str.ofString "sumc", .val _), (Str.ofString "rangec", .val _), (Str.ofString "l", .val _), (Str.ofString "s", .val _), (Str.ofString "rc", .val _), (Str.ofString "gc", .val _), (Str.ofString "bc", .val _), (Str.ofString "h", .val _)]) (tr_cmp (ev_local (by rfl)) (ev_local (by rfl)) c_eq_ff) (fun hb4 => ?_) (fun hb4 => ?_) (by rfl) ?_
  · rw [if_pos (show feq r mx = true from hb4)]
    exact ex_assign (ev_bin (ev_local (by rfl)) (ev_local (by rfl)) b_sub_ff) (by rfl) ex_done
  · rw [if_neg (show ¬ feq r mx = true by rw [show feq r mx = false from hb4]; decide)]
    refine ex_if_set (tr_cmp (ev_local (by rfl)) (ev_local (by rfl)) c_eq_ff) (fun hb5 => ?_) (fun hb5 => ?_) (by rfl) ex_done
    · rw [if_pos (show feq g mx = true from hb5)]
      exact ex_assign (ev_bin (ev_bin ev_flt (ev_local (by rfl)) b_add_ff) (ev_local (by rfl)) b_sub_ff) (by rfl) ex_done
    · rw [if_neg (show ¬ feq g mx = true by rw [show feq g mx = false from hb5]; decide)]
      exact ex_assign (ev_bin (ev_bin ev_flt (ev_local (by rfl)) b_add_ff) (ev_local (by rfl)) b_sub_ff) (by rfl) ex_done

  refine ex_assign (ρ' := [(Str.ofString "r", .val _), (Str.ofString "g", .val _), (Str.ofString "b", .val _), (Str.ofString "maxc", .val _), (Str.ofString "minc", .val _), (Str.ofString "sumc", .val _), (Str.ofString "rangec", .val _), (Str.ofString "l", .val _), (Str.ofString "s", .val _), (Str.ofString "rc", .val _), (Str.ofString "gc", .val _), (Str.ofString "bc", .val _), (Str.ofString "h", .val _)]) (ev_bin (ev_bin (ev_local (by rfl)) ev_flt (b_div_ff hh (by decide +kernel))) ev_flt (b_mod_ff hh (by decide +kernel))) (by rfl) ?_
  exact ex_return (ev_tuple (evl_cons (ev_local (by rfl)) (evl_cons (ev_local (by rfl)) (evl_cons (ev_local (by rfl)) evl_nil))) (by simp [sizeLine_eq]))

end
end Mine

/-! MF2 -/
namespace Mine
set_option maxRecDepth 100000
open PySem PySem.W PyProof.Rows PySem.Calls PySem.Flt
set_option maxHeartbeats 4000000

section
variable {W : Wd} {P : Params}
def hsvI (h : UInt64) : Int := toInt Float64.truncOf (Float64.mul h F6)
def hsvF (h : UInt64) : UInt64 := Float64.sub (Float64.mul h F6) (Float64.ofInt (hsvI h))
def hsvP (s v : UInt64) : UInt64 := Float64.mul v (Float64.sub F1 s)
def hsvQ (h s v : UInt64) : UInt64 := Float64.mul v (Float64.sub F1 (Float64.mul s (hsvF h)))
def hsvT (h s v : UInt64) : UInt64 := Float64.mul v (Float64.sub F1 (Float64.mul s (Float64.sub F1 (hsvF h))))
def hsv (h s v : UInt64) : UInt64 × UInt64 × UInt64 :=
  if feq s F0 then (v, v, v) else
  let j := (hsvI h).fmod 6
  if j == 0 then (v, hsvT h s v, hsvP s v) else if j == 1 then (hsvQ h s v, v, hsvP s v) else if j == 2 then (hsvP s v, v, hsvT h s v)
  else if j == 3 then (hsvP s v, hsvQ h s v, v) else if j == 4 then (hsvT h s v, hsvP s v, v) else (v, hsvP s v, hsvQ h s v)
def hsvOk (h s : UInt64) : Bool :=
  feq s F0 || (Float64.isFinite (Float64.mul h F6) && !Float64.isNaN (Float64.mul h F6) && !Float64.isInf (Float64.mul h F6) && decide ((hsvI h).natAbs < 4096))
def t3 (x : UInt64 × UInt64 × UInt64) : D := .tup [.flt x.1, .flt x.2.1, .flt x.2.2]

theorem fn_hsv_to_rgb (hK : W.K = hd.heap_39 P) (h s v : UInt64) (hok : hsvOk h s = true) : Fn W 1 (Str.ofString "hsv_to_rgb") [.flt h, .flt s, .flt v] (t3 (hsv h s v)) := by
  refine fn_intro (f := 45) (k := 0) (names := [Str.ofString "h", Str.ofString "s", Str.ofString "v"]) (by rw [hK]; exact at_hsv_to_rgb P) (by rw [hK]; rfl) (by rw [hK]; rfl) rfl rfl rfl rfl rfl rfl rfl (by decide) rfl (fun vs hv => by
    match vs, hv with
    | [_, _, _], _ => rfl) (by decide) (by decide) fun A L h₀ O₀ hr => ?_
  have hh := hr.handled
  refine ex_if_ret (tr_cmp (ev_local (by rfl)) ev_flt c_eq_ff) (fun hb => ?_) fun hb => ?_
  · have e : hsv h s v = (v, v, v) := by unfold hsv; rw [if_pos (show feq s F0 = true from hb)]
    rw [e]
    exact ex_return (ev_tuple (evl_cons (ev_local (by rfl)) (evl_cons (ev_local (by rfl)) (evl_cons (ev_local (by rfl)) evl_nil))) (by simp [sizeLine_eq]))
  unfold hsvOk at hok
  rw [show feq s F0 = false from hb, Bool.false_or, Bool.and_eq_true, Bool.and_eq_true, Bool.and_eq_true] at hok
  obtain ⟨⟨⟨hf, hn⟩, hi⟩, hsm⟩ := hok
  have hn : Float64.isNaN (Float64.mul h F6) = false := by simpa using hn
  have hi : Float64.isInf (Float64.mul h F6) = false := by simpa using hi
  have hsm : (hsvI h).natAbs < 2 ^ 1023 := Nat.lt_trans (of_decide_eq_true hsm) (by decide +kernel)
  refine ex_assign (ρ' := [(Str.ofString "h", .val _), (Str.ofString "s", .val _), (Str.ofString "v", .val _), (Str.ofString "i", .val _)]) (ev_type (by rw [hK]; exact no_int P) boot_int (evl_cons (ev_bin (ev_local (by rfl)) ev_flt b_mul_ff) evl_nil) (k_int_f hh hf hn hi)) (by rfl) ?_
  refine ex_assign (ρ' := [(Str.ofString "h", .val _), (Str.ofString "s", .val _), (Str.ofString "v", .val _), (Str.ofString "i", .val _), (Str.ofString "f", .val _)]) (ev_bin (ev_bin (ev_local (by rfl)) ev_flt b_mul_ff) (ev_local (by rfl)) (b_sub_fi hsm)) (by rfl) ?_
  refine ex_assign (ρ' := [(Str.ofString "h", .val _), (Str.ofString "s", .val _), (Str.ofString "v", .val _), (Str.ofString "i", .val _), (Str.ofString "f", .val _), (Str.ofString "p", .val _)]) (ev_bin (ev_local (by rfl)) (ev_bin ev_flt (ev_local (by rfl)) b_sub_ff) b_mul_ff) (by rfl) ?_
  refine ex_assign (ρ' := [(Str.ofString "h", .val _), (Str.ofString "s", .val _), (Str.ofString "v", .val _), (Str.ofString "i", .val _), (Str.ofString "f", .val _), (Str.ofString "p", .val _), (Str.ofString "q", .val _)]) (ev_bin (ev_local (by rfl)) (ev_bin ev_flt (ev_bin (ev_local (by rfl)) (ev_local (by rfl)) b_mul_ff) b_sub_ff) b_mul_ff) (by rfl) ?_
  refine ex_assign (ρ' := [(Str.ofString "h", .val _), (Str.ofString "s", .val _), (Str.ofString "v", .val _), (Str.ofString "i", .val _), (Str.ofString "f", .val _), (Str.ofString "p", .val _), (Str.ofString "q", .val _), (Str.ofString "t", .val _)]) (ev_bin (ev_local (by rfl)) (ev_bin ev_flt (ev_bin (ev_local (by rfl)) (ev_bin ev_flt (ev_local (by rfl)) b_sub_ff) b_mul_ff) b_sub_ff) b_mul_ff) (by rfl) ?_
  refine ex_assign (ρ' := [(Str.ofString "h", .val _), (Str.ofString "s", .val _), (Str.ofString "v", .val _), (Str.ofString "i", .val _), (Str.ofString "f", .val _), (Str.ofString "p", .val _), (Str.ofString "q", .val _), (Str.ofString "t", .val _)]) (ev_bin (ev_local (by rfl)) ev_int (b_mod_ii (by decide))) (by rfl) ?_
  refine ex_if_ret (tr_cmp (ev_local (by rfl)) ev_int c_eq_ii) (fun b0 => ?_) fun b0 => ?_
  · have e : hsv h s v = (v, hsvT h s v, hsvP s v) := by unfold hsv; dsimp only; rw [if_neg (by rw [show feq s F0 = false from hb]; decide), if_pos (show ((hsvI h).fmod 6 == 0) = true from b0)]
    rw [e]
    exact ex_return (ev_tuple (evl_cons (ev_local (by rfl)) (evl_cons (ev_local (by rfl)) (evl_cons (ev_local (by rfl)) evl_nil))) (by simp [sizeLine_eq]))
  refine ex_if_ret (tr_cmp (ev_local (by rfl)) ev_int c_eq_ii) (fun b1 => ?_) fun b1 => ?_
  · have e : hsv h s v = (hsvQ h s v, v, hsvP s v) := by unfold hsv; dsimp only; rw [if_neg (by rw [show feq s F0 = false from hb]; decide), if_neg (show ¬ ((hsvI h).fmod 6 == 0) = true by rw [show ((hsvI h).fmod 6 == 0) = false from b0]; decide), if_pos (show ((hsvI h).fmod 6 == 1) = true from b1)]
    rw [e]
    exact ex_return (ev_tuple (evl_cons (ev_local (by rfl)) (evl_cons (ev_local (by rfl)) (evl_cons (ev_local (by rfl)) evl_nil))) (by simp [sizeLine_eq]))
  refine ex_if_ret (tr_cmp (ev_local (by rfl)) ev_int c_eq_ii) (fun b2 => ?_) fun b2 => ?_
  · have e : hsv h s v = (hsvP s v, v, hsvT h s v) := by unfold hsv; dsimp only; rw [if_neg (by rw [show feq s F0 = false from hb]; decide), if_neg (show ¬ ((hsvI h).fmod 6 == 0) = true by rw [show ((hsvI h).fmod 6 == 0) = false from b0]; decide), if_neg (show ¬ ((hsvI h).fmod 6 == 1) = true by rw [show ((hsvI h).fmod 6 == 1) = false from b1]; decide), if_pos (show ((hsvI h).fmod 6 == 2) = true from b2)]
    rw [e]
    exact ex_return (ev_tuple (evl_cons (ev_local (by rfl)) (evl_cons (ev_local (by rfl)) (evl_cons (ev_local (by rfl)) evl_nil))) (by simp [sizeLine_eq]))
  refine ex_if_ret (tr_cmp (ev_local (by rfl)) ev_int c_eq_ii) (fun b3 => ?_) fun b3 => ?_
  · have e : hsv h s v = (hsvP s v, hsvQ h s v, v) := by unfold hsv; dsimp only; rw [if_neg (by rw [show feq s F0 = false from hb]; decide), if_neg (show ¬ ((hsvI h).fmod 6 == 0) = true by rw [show ((hsvI h).fmod 6 == 0) = false from b0]; decide), if_neg (show ¬ ((hsvI h).fmod 6 == 1) = true by rw [show ((hsvI h).fmod 6 == 1) = false from b1]; decide), if_neg (show ¬ ((hsvI h).fmod 6 == 2) = true by rw [show ((hsvI h).fmod 6 == 2) = false from b2]; decide), if_pos (show ((hsvI h).fmod 6 == 3) = true from b3)]
    rw [e]
    exact ex_return (ev_tuple (evl_cons (ev_local (by rfl)) (evl_cons (ev_local (by rfl)) (evl_cons (ev_local (by rfl)) evl_nil))) (by simp [sizeLine_eq]))
  refine ex_if_ret (tr_cmp (ev_local (by rfl)) ev_int c_eq_ii) (fun b4 => ?_) fun b4 => ?_
  · have e : hsv h s v = (hsvT h s v, hsvP s v, v) := by unfold hsv; dsimp only; rw [if_neg (by rw [show feq s F0 = false from hb]; decide), if_neg (show ¬ ((hsvI h).fmod 6 == 0) = true by rw [show ((hsvI h).fmod 6 == 0) = false from b0]; decide), if_neg (show ¬ ((hsvI h).fmod 6 == 1) = true by rw [show ((hsvI h).fmod 6 == 1) = false from b1]; decide), if_neg (show ¬ ((hsvI h).fmod 6 == 2) = true by rw [show ((hsvI h).fmod 6 == 2) = false from b2]; decide), if_neg (show ¬ ((hsvI h).fmod 6 == 3) = true by rw [show ((hsvI h).fmod 6 == 3) = false from b3]; decide), if_pos (show ((hsvI h).fmod 6 == 4) = true from b4)]
    rw [e]
    exact ex_return (ev_tuple (evl_cons (ev_local (by rfl)) (evl_cons (ev_local (by rfl)) (evl_cons (ev_local (by rfl)) evl_nil))) (by simp [sizeLine_eq]))
  refine ex_if_ret (tr_cmp (ev_local (by rfl)) ev_int c_eq_ii) (fun b5 => ?_) fun b5 => ?_
  · have e : hsv h s v = (v, hsvP s v, hsvQ h s v) := by unfold hsv; dsimp only; rw [if_neg (by rw [show feq s F0 = false from hb]; decide), if_neg (show ¬ ((hsvI h).fmod 6 == 0) = true by rw [show ((hsvI h).fmod 6 == 0) = false from b0]; decide), if_neg (show ¬ ((hsvI h).fmod 6 == 1) = true by rw [show ((hsvI h).fmod 6 == 1) = false from b1]; decide), if_neg (show ¬ ((hsvI h).fmod 6 == 2) = true by rw [show ((hsvI h).fmod 6 == 2) = false from b2]; decide), if_neg (show ¬ ((hsvI h).fmod 6 == 3) = true by rw [show ((hsvI h).fmod 6 == 3) = false from b3]; decide), if_neg (show ¬ ((hsvI h).fmod 6 == 4) = true by rw [show ((hsvI h).fmod 6 == 4) = false from b4]; decide)]
    rw [e]
    exact ex_return (ev_tuple (evl_cons (ev_local (by rfl)) (evl_cons (ev_local (by rfl)) (evl_cons (ev_local (by rfl)) evl_nil))) (by simp [sizeLine_eq]))
  · exfalso
    have l1 : 0 ≤ (hsvI h).fmod 6 := Int.fmod_nonneg_of_pos _ (by decide)
    have l2 : (hsvI h).fmod 6 < 6 := Int.fmod_lt_of_pos _ (by decide)
    have c0 : (hsvI h).fmod 6 ≠ 0 := by have q := show ((hsvI h).fmod 6 == 0) = false from b0; simpa using q
    have c1 : (hsvI h).fmod 6 ≠ 1 := by have q := show ((hsvI h).fmod 6 == 1) = false from b1; simpa using q
    have c2 : (hsvI h).fmod 6 ≠ 2 := by have q := show ((hsvI h).fmod 6 == 2) = false from b2; simpa using q
    have c3 : (hsvI h).fmod 6 ≠ 3 := by have q := show ((hsvI h).fmod 6 == 3) = false from b3; simpa using q
    have c4 : (hsvI h).fmod 6 ≠ 4 := by have q := show ((hsvI h).fmod 6 == 4) = false from b4; simpa using q
    have c5 : (hsvI h).fmod 6 ≠ 5 := by have q := show ((hsvI h).fmod 6 == 5) = false from b5; simpa using q
    omega



def labs : List (List UInt8) := [[34, 40, 34], [34, 41, 34], [34, 97, 34], [34, 40, 40, 34], [34, 92, 34, 40, 34], [34, 92, 92, 41, 34]]
def labIx (ns : List Int) (k : Nat) : Nat := ((ns.getD (k % ns.length) 0) / 60 % 6).toNat
def lab (j : Nat) : List UInt8 := labs.getD j []
theorem fn__law_label (hK : W.K = hd.heap_39 P) (ns : List Int) (k : Nat) (hn : ns ≠ []) (hl : ns.length ≤ 1000) (hk : k ≤ 1000) (hx : ∀ x ∈ ns, 0 ≤ x ∧ x < 1000000) : Fn W 1 (Str.ofString "_law_label") [.lst (ns.map .int), .int k] (.byt (lab (labIx ns k)).toArray) := by
  refine fn_intro (f := 93) (k := 0) (names := [Str.ofString "numbers", Str.ofString "k"]) (by rw [hK]; exact at__law_label P) (by rw [hK]; rfl) (by rw [hK]; rfl) rfl rfl rfl rfl rfl rfl rfl (by decide) rfl (fun vs hv => by
    match vs, hv with
    | [_, _], _ => rfl) (by decide) (by decide) fun A L h₀ O₀ hr => ?_
  have hh := hr.handled
  have hpos : 0 < ns.length := List.length_pos_iff.mpr hn
  have hne : ((ns.map D.int).length : Int) ≠ 0 := by simp; omega
  have hmod : (k : Int).fmod ((ns.map D.int).length : Nat) = ((k % ns.length : Nat) : Int) := by
    rw [List.length_map, Int.fmod_eq_emod_of_nonneg _ (by omega)]; rfl
  have hlt : k % ns.length < ns.length := Nat.mod_lt _ hpos
  have hg : ns.getD (k % ns.length) 0 = ns[k % ns.length] := by simp [hlt]
  have hb := hx _ (List.getElem_mem hlt)
  generalize hv : ns[k % ns.length] = x at hg hb
  have h1 : 0 ≤ (k : Int).fmod ((ns.map D.int).length : Nat) := by rw [hmod]; omega
  have h2 : (k : Int).fmod ((ns.map D.int).length : Nat) < 2 ^ 62 := by rw [hmod]; omega
  have h3 : (ns.map D.int)[((k : Int).fmod ((ns.map D.int).length : Nat)).toNat]? = some (.int x) := by
    rw [hmod, Int.toNat_natCast, List.getElem?_map, List.getElem?_eq_getElem hlt, hv]; rfl
  have hp : Builtin.divisionGoesByPylong x 60 = false := PyProof.noPylong_of_log2 (by decide +kernel)
  have e1 : (x.fdiv 60).fmod 6 = ((labIx ns k : Nat) : Int) := by
    unfold labIx
    rw [hg, Int.fmod_eq_emod_of_nonneg _ (by decide), Int.fdiv_eq_ediv_of_nonneg _ (by decide)]
    omega
  have hlab : labIx ns k < 6 := by
    have : (x.fdiv 60).fmod 6 < 6 := Int.fmod_lt_of_pos _ (by decide)
    omega
  refine ex_assign (ρ' := [(Str.ofString "numbers", .val _), (Str.ofString "k", .val _), (Str.ofString "labels", .val _)]) (ev_list (evl_cons ev_byt (evl_cons ev_byt (evl_cons ev_byt (evl_cons ev_byt (evl_cons ev_byt (evl_cons ev_byt evl_nil)))))) (by simp [sizeLine_eq])) (by rfl) ?_
  refine ex_return (ev_item (ev_local (by rfl)) (ev_bin (ev_bin (ev_item (ev_local (by rfl)) (ev_bin (ev_local (by rfl)) (ev_builtin (by rw [hK]; exact no_len P) boot_len (evl_cons (ev_local (by rfl)) evl_nil) (k_len (by simp; omega))) (b_mod_ii hne)) h1 h2 h3) ev_int (b_fdiv_ii (by decide) hp)) ev_int (b_mod_ii (by decide))) (by rw [e1]; omega) (by rw [e1]; omega) ?_)
  rw [e1, Int.toNat_natCast]
  have : ∀ j, j < 6 → ([D.byt ([34, 40, 34] : List UInt8).toArray, D.byt ([34, 41, 34] : List UInt8).toArray, D.byt ([34, 97, 34] : List UInt8).toArray, D.byt ([34, 40, 40, 34] : List UInt8).toArray, D.byt ([34, 92, 34, 40, 34] : List UInt8).toArray, D.byt ([34, 92, 92, 41, 34] : List UInt8).toArray] : List D)[j]? = some (.byt (lab j).toArray) := by
    intro j hj
    match j, hj with
    | 0, _ => rfl
    | 1, _ => rfl
    | 2, _ => rfl
    | 3, _ => rfl
    | 4, _ => rfl
    | 5, _ => rfl
  exact this _ hlab


theorem kq (P : Params) : KQ (hd.heap_39 P) 50 := ⟨_, _, 49, _, _, _, rfl, rfl, rfl, rfl, rfl, rfl, rfl, rfl, rfl, by decide +kernel⟩
def dep (r : List UInt8) : Int := (r.count 40 : Nat) - (r.count 41 : Nat)
theorem fn__paren_depth (hK : W.K = hd.heap_39 P) (b : Array UInt8) (r : List UInt8) (d : Int) (hS : Strip b.toList r) (hb : b.size ≤ 1048576) : Fn W 1 (Str.ofString "_paren_depth") [.byt b, .int d] (.int (d + (r.count 40 : Nat) - (r.count 41 : Nat))) := by
  refine fn_intro_dflt (eds := []) (extra := []) (f := 58) (k := 0) (names := [Str.ofString "data", Str.ofString "depth"]) (by rw [hK]; exact at__paren_depth P) (by rw [hK]; rfl) (by rw [hK]; rfl) rfl rfl rfl rfl rfl rfl rfl (by decide) rfl (fun O h => .nil) (fun vs M A s Q E hv hKI hQ => ?_) (by decide) (by decide) fun A L h₀ O₀ hr => ?_
  · match vs, hv with
    | [v, u], _ =>
      rw [hK] at hKI
      exact (binds_K (T := 51) (items := #[.int 0 363]) (n := 0) (K := hd.heap_39 P) hKI rfl rfl rfl rfl rfl) M A E Q hQ
  have hh := hr.handled
  refine ex_assign (ρ' := [(Str.ofString "data", .val (.byt r.toArray)), (Str.ofString "depth", .val _)]) (ev_sub (by rw [hK]; exact kq P) (by rw [hK]; exact at__quoted P) ev_byt (ev_local (by rfl)) hS hb) (by rfl) ?_
  exact ex_return (ev_bin (ev_bin (ev_local (by rfl)) (ev_count_b (ev_local (by rfl)) ev_byt) b_add_ii) (ev_count_b (ev_local (by rfl)) ev_byt) b_sub_ii)

theorem fn__paren_depth1 (hK : W.K = hd.heap_39 P) (b : Array UInt8) (r : List UInt8) (hS : Strip b.toList r) (hb : b.size ≤ 1048576) : Fn W 1 (Str.ofString "_paren_depth") [.byt b] (.int (0 + (r.count 40 : Nat) - (r.count 41 : Nat))) := by
  refine fn_intro_dflt (eds := [.int 0]) (extra := [.int 0 363]) (f := 58) (k := 0) (names := [Str.ofString "data", Str.ofString "depth"]) (by rw [hK]; exact at__paren_depth P) (by rw [hK]; rfl) (by rw [hK]; rfl) rfl rfl rfl rfl rfl rfl rfl (by decide) rfl (fun O h => .cons (.int _ _) .nil) (fun vs M A s Q E hv hKI hQ => ?_) (by decide) (by decide) fun A L h₀ O₀ hr => ?_
  · match vs, hv with
    | [v], _ =>
      rw [hK] at hKI
      exact (binds_K (T := 51) (items := #[.int 0 363]) (n := 0) (K := hd.heap_39 P) hKI rfl rfl rfl rfl rfl) M A E Q hQ
  have hh := hr.handled
  refine ex_assign (ρ' := [(Str.ofString "data", .val (.byt r.toArray)), (Str.ofString "depth", .val _)]) (ev_sub (by rw [hK]; exact kq P) (by rw [hK]; exact at__quoted P) ev_byt (ev_local (by rfl)) hS hb) (by rfl) ?_
  exact ex_return (ev_bin (ev_bin (ev_local (by rfl)) (ev_count_b (ev_local (by rfl)) ev_byt) b_add_ii) (ev_count_b (ev_local (by rfl)) ev_byt) b_sub_ii)


end
end Mine

/-! MTok -/
namespace Mine
set_option maxRecDepth 100000
open PySem PySem.W PyProof.Rows PySem.Calls PySem.Flt

section
variable {W : Wd} {c : Act} {ρ ρ' : Rho}
theorem look_take (n : Nat) : ∀ (ρ : Rho) (x : Str) (sl : Sl), (ρ.take n).lookup x = some sl → ρ.lookup x = some sl := by
  intro ρ
  induction ρ generalizing n with
  | nil => intro x sl h; simp at h
  | cons p ρ ih =>
    obtain ⟨y, t⟩ := p
    intro x sl h
    cases n with
    | zero => simp at h
    | succ n =>
      rw [List.take_succ_cons, List.lookup_cons] at h
      rw [List.lookup_cons]
      split at h
      · exact h
      · exact ih n x sl h
theorem ex_drop (n : Nat) (h : ρ.take n = ρ') : Ex W c ρ [] (.nx ρ') := ex_nil (by rw [← h]; exact look_take n ρ)
theorem ex_brk {pos : Pos} {rest : List Stmt} (n : Nat) (h : ρ.take n = ρ') : Ex W c ρ (.Break pos :: rest) (.bk ρ') := ex_break (by rw [← h]; exact look_take n ρ)
end

/-- a piece -/
inductive Tk where
  | op | cl | lb (j : Nat)
def Tk.b : Tk → List UInt8
  | .op => [40]
  | .cl => [41]
  | .lb j => lab j
def Tk.s : Tk → List UInt8
  | .op => [40]
  | .cl => [41]
  | .lb j => []
def Tk.d : Tk → Int
  | .op => 1
  | .cl => -1
  | .lb j => 0
def Tk.ok : Tk → Prop
  | .lb j => j < 6
  | _ => True
def Tk.D (t : Tk) : Mine.D := .byt t.b.toArray

theorem Strip.cons {c : UInt8} {l r : List UInt8} (hc : c ≠ 34) (h : Strip l r) : Strip (c :: l) (c :: r) := by
  cases h with
  | done hu =>
    refine .done fun x hx => ?_
    · rcases List.mem_cons.mp hx with e | hx
      · rw [e]; exact hc
      · exact hu x hx
  | more hu hb hr =>
    have := Strip.more (us := c :: _) (fun x hx => by
      rcases List.mem_cons.mp hx with e | hx
      · rw [e]; exact hc
      · exact hu x hx) hb hr
    simpa using this
theorem lab_body (j : Nat) (hj : j < 6) : ∃ l, lab j = 34 :: l ++ [34] ∧ Body (l.map (·.toNat)) ∧ l.length ≤ 4 := by
  match j, hj with
  | 0, _ => exact ⟨[40], rfl, .plain (by decide) (by decide) .nil, by decide⟩
  | 1, _ => exact ⟨[41], rfl, .plain (by decide) (by decide) .nil, by decide⟩
  | 2, _ => exact ⟨[97], rfl, .plain (by decide) (by decide) .nil, by decide⟩
  | 3, _ => exact ⟨[40, 40], rfl, .plain (by decide) (by decide) (.plain (by decide) (by decide) .nil), by decide⟩
  | 4, _ => exact ⟨[92, 34, 40], rfl, .pair (by decide) (.plain (by decide) (by decide) .nil), by decide⟩
  | 5, _ => exact ⟨[92, 92, 41], rfl, .pair (by decide) (.plain (by decide) (by decide) .nil), by decide⟩
theorem Strip.lab {j : Nat} (hj : j < 6) {l r : List UInt8} (h : Strip l r) : Strip (lab j ++ l) r := by
  obtain ⟨b, e, hb, _⟩ := lab_body j hj
  rw [e]
  exact Strip.more (us := []) (by simp) hb h
theorem strip_toks : ∀ {ts : List Tk}, (∀ t ∈ ts, t.ok) → Strip (ts.flatMap Tk.b) (ts.flatMap Tk.s)
  | [], _ => .done (by simp)
  | .op :: ts, h => Strip.cons (by decide) (strip_toks fun t ht => h t (.tail _ ht))
  | .cl :: ts, h => Strip.cons (by decide) (strip_toks fun t ht => h t (.tail _ ht))
  | .lb j :: ts, h => Strip.lab (h (.lb j) (.head _)) (strip_toks fun t ht => h t (.tail _ ht))
theorem size_toks : ∀ (ts : List Tk), (∀ t ∈ ts, t.ok) → (ts.flatMap Tk.b).length ≤ 6 * ts.length
  | [], _ => by simp
  | t :: ts, h => by
    have := size_toks ts fun t ht => h t (.tail _ ht)
    have h0 : t.b.length ≤ 6 := by
      cases t with
      | op => decide
      | cl => decide
      | lb j =>
        obtain ⟨b, e, _, hb⟩ := lab_body j (h (.lb j) (.head _))
        show (lab j).length ≤ 6
        rw [e]; simp; omega
    rw [List.flatMap_cons, List.length_append, List.length_cons]; omega
def depOf (ts : List Tk) : Int := (ts.map Tk.d).sum
theorem dep_toks : ∀ (ts : List Tk), (((ts.flatMap Tk.s).count 40 : Nat) : Int) - ((ts.flatMap Tk.s).count 41 : Nat) = depOf ts
  | [] => rfl
  | .op :: ts => by
    have := dep_toks ts
    simp only [List.flatMap_cons, List.count_append, depOf, List.map_cons, List.sum_cons] at this ⊢
    show (((Tk.op.s.count 40 + _ : Nat)) : Int) - _ = _
    simp [Tk.s, Tk.d]; omega
  | .cl :: ts => by
    have := dep_toks ts
    simp only [List.flatMap_cons, List.count_append, depOf, List.map_cons, List.sum_cons] at this ⊢
    simp [Tk.s, Tk.d]; omega
  | .lb j :: ts => by
    have := dep_toks ts
    simp only [List.flatMap_cons, List.count_append, depOf, List.map_cons, List.sum_cons] at this ⊢
    simp [Tk.s, Tk.d]; omega

/-- what opens and what closes -/
def skel : List Tk → List Bool
  | [] => []
  | .op :: ts => true :: skel ts
  | .cl :: ts => false :: skel ts
  | .lb _ :: ts => skel ts
theorem skel_app (a b : List Tk) : skel (a ++ b) = skel a ++ skel b := by
  induction a with
  | nil => rfl
  | cons t a ih => cases t <;> simp [skel, ih]
def bsum (bs : List Bool) : Int := (bs.map fun b => if b then (1 : Int) else -1).sum
theorem dep_skel (ts : List Tk) : depOf ts = bsum (skel ts) := by
  induction ts with
  | nil => rfl
  | cons t ts ih =>
    unfold depOf bsum at ih ⊢
    cases t <;> simp [skel, Tk.d, ih]
/-- the places: the depth before, and whether it opens -/
def evs : Int → List Bool → List (Int × Bool)
  | _, [] => []
  | d, b :: bs => (d, b) :: evs (d + if b then 1 else -1) bs
theorem evs_app (d : Int) (a b : List Bool) : evs d (a ++ b) = evs d a ++ evs (d + bsum a) b := by
  induction a generalizing d with
  | nil => simp [evs, bsum]
  | cons x a ih =>
    simp only [List.cons_append, evs, ih]
    congr 3
    simp [bsum]; omega

def pcs (ds ns : List Int) : Nat → List Tk × Int
  | 0 => ([], -1)
  | k + 1 => ((pcs ds ns k).1 ++ List.replicate ((pcs ds ns k).2 - ds.getD k 0 + 1).toNat .cl ++ [.op] ++ [.lb (labIx ns k)], ds.getD k 0)
def pieces (ds ns : List Int) : List Tk := (pcs ds ns ds.length).1 ++ List.replicate ((pcs ds ns ds.length).2 + 1).toNat .cl
def sks (ds : List Int) : Nat → List Bool × Int
  | 0 => ([], -1)
  | k + 1 => ((sks ds k).1 ++ List.replicate ((sks ds k).2 - ds.getD k 0 + 1).toNat false ++ [true], ds.getD k 0)
def skOf (ds : List Int) : List Bool := (sks ds ds.length).1 ++ List.replicate ((sks ds ds.length).2 + 1).toNat false
theorem skel_rep (n : Nat) : skel (List.replicate n .cl) = List.replicate n false := by
  induction n with
  | zero => rfl
  | succ n ih => simp [List.replicate_succ, skel, ih]
theorem skel_pcs (ds ns : List Int) (k : Nat) : skel (pcs ds ns k).1 = (sks ds k).1 ∧ (pcs ds ns k).2 = (sks ds k).2 := by
  induction k with
  | zero => exact ⟨rfl, rfl⟩
  | succ k ih =>
    refine ⟨?_, rfl⟩
    simp only [pcs, sks, skel_app, skel_rep, ih.1, ih.2]
    simp [skel]
theorem skel_pieces (ds ns : List Int) : skel (pieces ds ns) = skOf ds := by
  unfold pieces skOf
  rw [skel_app, skel_rep, (skel_pcs ds ns _).1, (skel_pcs ds ns _).2]

theorem pcs_bound (ds ns : List Int) (hd : ∀ d ∈ ds, 0 ≤ d ∧ d ≤ 100) (k : Nat) : (pcs ds ns k).1.length ≤ 110 * k ∧ -1 ≤ (pcs ds ns k).2 ∧ (pcs ds ns k).2 ≤ 100 := by
  have hg : ∀ k, 0 ≤ ds.getD k 0 ∧ ds.getD k 0 ≤ 100 := fun k => by
    rw [List.getD_eq_getElem?_getD]
    cases q : ds[k]? with
    | none => simp
    | some d => exact hd d (List.mem_of_getElem? q)
  induction k with
  | zero => simp [pcs]
  | succ k ih =>
    have := hg k
    refine ⟨?_, ?_⟩
    · simp only [pcs, List.length_append, List.length_replicate, List.length_singleton]
      omega
    · simp only [pcs]; omega
theorem pcs_ok (ds ns : List Int) (k : Nat) (hns : ∀ k, labIx ns k < 6) : ∀ t ∈ (pcs ds ns k).1, t.ok := by
  induction k with
  | zero => intro t ht; cases ht
  | succ k ih =>
    intro t ht
    simp only [pcs, List.mem_append, List.mem_singleton, List.mem_replicate] at ht
    rcases ht with ((h | h) | h) | h
    · exact ih t h
    · rw [h.2]; trivial
    · rw [h]; trivial
    · rw [h]; exact hns k
theorem pieces_ok (ds ns : List Int) (hns : ∀ k, labIx ns k < 6) : ∀ t ∈ pieces ds ns, t.ok := by
  intro t ht
  rcases List.mem_append.mp ht with h | h
  · exact pcs_ok ds ns _ hns t h
  · rw [(List.mem_replicate.mp h).2]; trivial
theorem labIx_lt (ns : List Int) (k : Nat) : labIx ns k < 6 := by
  unfold labIx
  omega
end Mine

/-! MF3 -/
namespace Mine
set_option maxRecDepth 100000
open PySem PySem.W PyProof.Rows PySem.Calls PySem.Flt
set_option maxHeartbeats 4000000

section
variable {W : Wd} {P : Params}

theorem fn__law_pieces (hK : W.K = hd.heap_39 P) (ds ns : List Int) (hn : ns ≠ []) (hl : ns.length ≤ 1000) (hx : ∀ x ∈ ns, 0 ≤ x ∧ x < 1000000) (hdl : ds.length ≤ 1000) (hd : ∀ d ∈ ds, 0 ≤ d ∧ d ≤ 100) :
    Fn W 2 (Str.ofString "_law_pieces") [.lst (ds.map .int), .lst (ns.map .int)] (.lst ((pieces ds ns).map Tk.D)) := by
  refine fn_intro (f := 100) (k := 1) (names := [Str.ofString "depths", Str.ofString "numbers"]) (by rw [hK]; exact at__law_pieces P) (by rw [hK]; rfl) (by rw [hK]; rfl) rfl rfl rfl rfl rfl rfl rfl (by decide) rfl (fun vs hv => by
    match vs, hv with
    | [_, _], _ => rfl) (by decide) (by decide) fun A L h₀ O₀ hr => ?_
  have hh := hr.handled
  have hr0 : Room 0 A := hr.mono (by decide)
  refine ex_open evl_nil (fun a => ?_) (by rfl)
  refine ex_assign (ρ' := [(Str.ofString "depths", .val _), (Str.ofString "numbers", .val _), (Str.ofString "pieces", .mu a []), (Str.ofString "before", .val (.int (-1)))]) (ev_un ev_int u_neg_i) (by rfl) ?_
  refine ex_for_gen (ds := rangeD 0 ds.length) (fun _ => True) (stores_local (by rfl) (by rfl)) (itr_range1 (by rw [hK]; exact no_range P) (evl_cons (ev_builtin (by rw [hK]; exact no_len P) boot_len (evl_cons (ev_local (by rfl)) evl_nil) (k_len (by simp; omega))) evl_nil) hr0 (by omega) (by simp; omega) (by simp))
    (fun i ρ => ρ = [(Str.ofString "depths", .val (.lst (ds.map .int))), (Str.ofString "numbers", .val (.lst (ns.map .int))), (Str.ofString "pieces", .mu a ((pcs ds ns i).1.map Tk.D)), (Str.ofString "before", .val (.int (pcs ds ns i).2))]) rfl (fun _ _ _ => trivial) (fun i d ρi hd' hinv => ?_) (fun ρ' hinv => ?_) (fun v => rfl)
  · subst hinv
    obtain ⟨hi, rfl⟩ := rangeD_get hd'
    rw [Int.zero_add]
    have hg : ds.getD i 0 = ds[i] := by simp [hi]
    have hb : 0 ≤ ds.getD i 0 ∧ ds.getD i 0 ≤ 100 := by rw [hg]; exact hd _ (List.getElem_mem hi)
    have hp := pcs_bound ds ns hd i
    have h1 : (0 : Int) ≤ (i : Int) := Int.natCast_nonneg _
    have h2 : (i : Int) < 2 ^ 62 := by omega
    have h3 : (ds.map D.int)[(i : Int).toNat]? = some (.int (ds.getD i 0)) := by
      rw [hg, Int.toNat_natCast, List.getElem?_map, List.getElem?_eq_getElem hi]; rfl
    refine ⟨.nx [(Str.ofString "depths", .val (.lst (ds.map .int))), (Str.ofString "numbers", .val (.lst (ns.map .int))), (Str.ofString "pieces", .mu a ((pcs ds ns (i + 1)).1.map Tk.D)), (Str.ofString "before", .val (.int (pcs ds ns (i + 1)).2))], ?_, rfl⟩
    refine ex_extend (by rfl) (ev_bin (ev_list (evl_cons ev_byt evl_nil) (by simp [sizeLine_eq])) (ev_bin (ev_bin (ev_local (by rfl)) (ev_item (ev_local (by rfl)) (ev_local (by rfl)) h1 h2 h3) b_sub_ii) ev_int b_add_ii) (b_mul_l1 (by omega) (by omega))) (by rfl) ?_ (by simp only [List.length_append, List.length_map, List.length_replicate, List.length_singleton, sizeLine_eq]; omega)
    refine ex_append (by rfl) ev_byt (by rfl) ?_ (hn := by simp only [List.length_append, List.length_map, List.length_replicate, List.length_singleton, sizeLine_eq]; omega)
    refine ex_append (by rfl) (ev_call (fn__law_label hK ns i hn hl (by omega) hx) hr (evl_cons (ev_local (by rfl)) (evl_cons (ev_local (by rfl)) evl_nil))) (by rfl) ?_ (hn := by simp only [List.length_append, List.length_map, List.length_replicate, List.length_singleton, sizeLine_eq]; omega)
    refine ex_assign (ρ' := [(Str.ofString "depths", .val (.lst (ds.map .int))), (Str.ofString "numbers", .val (.lst (ns.map .int))), (Str.ofString "pieces", .mu a ((pcs ds ns (i + 1)).1.map Tk.D)), (Str.ofString "before", .val (.int (pcs ds ns (i + 1)).2)), (Str.ofString "k", .val (.int i))]) (ev_item (ev_local (by rfl)) (ev_local (by rfl)) h1 h2 h3) ?_ (ex_drop 4 (by rfl))
    have e : (pcs ds ns (i + 1)).1.map Tk.D = (pcs ds ns i).1.map Tk.D ++ List.replicate ((pcs ds ns i).2 - ds.getD i 0 + 1).toNat (.byt ([41] : List UInt8).toArray) ++ [.byt ([40] : List UInt8).toArray] ++ [.byt (lab (labIx ns i)).toArray] := by
      simp [pcs, Tk.D, Tk.b]
    rw [e]; rfl
  · subst hinv
    rw [rangeD_length]
    have hp := pcs_bound ds ns hd ds.length
    refine ex_extend (by rfl) (ev_bin (ev_list (evl_cons ev_byt evl_nil) (by simp [sizeLine_eq])) (ev_bin (ev_local (by rfl)) ev_int b_add_ii) (b_mul_l1 (by omega) (by omega))) (by rfl) ?_ (by simp only [List.length_append, List.length_map, List.length_replicate, List.length_singleton, sizeLine_eq]; omega)
    refine ex_freeze (x := Str.ofString "pieces") (by rfl) (by rfl) ?_
    have e : (pieces ds ns).map Tk.D = (pcs ds ns ds.length).1.map Tk.D ++ List.replicate ((pcs ds ns ds.length).2 + 1).toNat (.byt ([41] : List UInt8).toArray) := by
      simp [pieces, Tk.D, Tk.b]
    rw [e]
    exact ex_return (ev_local (by rfl))

end
end Mine

/-! MF4 -/
namespace Mine
set_option maxRecDepth 100000
open PySem PySem.W PyProof.Rows PySem.Calls PySem.Flt
set_option maxHeartbeats 4000000

def lampX (p : UInt64) : UInt64 := Float64.add (Float64.mul (Float64.ofInt 64) p) Fh
def finOk (x : UInt64) : Bool := Float64.isFinite x && !Float64.isNaN x && !Float64.isInf x
def lampI (p : UInt64) : Int := toInt Float64.truncOf (lampX p)
def lampT (u : Int) (col val : UInt64) : UInt64 × UInt64 × UInt64 := hsv (divF u 12) col val
def lampAt (u : Int) (col val : UInt64) : List Int := [lampI (lampT u col val).1, lampI (lampT u col val).2.1, lampI (lampT u col val).2.2]
def lampOk (u : Int) (col val : UInt64) : Bool :=
  decide (u.natAbs < 4096) && !Float64.isInf (divF u 12) && hsvOk (divF u 12) col && (finOk (lampX (lampT u col val).1) && finOk (lampX (lampT u col val).2.1) && finOk (lampX (lampT u col val).2.2))
def litOf (shut : UInt64) (b : Bool) : UInt64 := if b then F1 else shut
def lampsOf (turn : Int) (col shut : UInt64) (es : List (Int × Bool)) : List (List Int) := es.map fun e => lampAt (turn + e.1) col (litOf shut e.2)
def intsD (ns : List Int) : D := .lst (ns.map .int)
theorem finOk_split {x : UInt64} (h : finOk x = true) : Float64.isFinite x = true ∧ Float64.isNaN x = false ∧ Float64.isInf x = false := by
  unfold finOk at h
  rw [Bool.and_eq_true, Bool.and_eq_true] at h
  exact ⟨h.1.1, by simpa using h.1.2, by simpa using h.2⟩

section
variable {W : Wd} {P : Params}

theorem fn__law_lamps (hK : W.K = hd.heap_39 P) (ts : List Tk) (turn : Int) (col shut : UInt64) (hok : ∀ t ∈ ts, t.ok) (hlen : ts.length ≤ 100000)
    (hev : ∀ e ∈ evs 0 (skel ts), lampOk (turn + e.1) col (litOf shut e.2) = true) :
    Fn W 2 (Str.ofString "_law_lamps") [.lst (ts.map Tk.D), .int turn, .flt col, .flt shut] (.lst ((lampsOf turn col shut (evs 0 (skel ts))).map intsD)) := by
  refine fn_intro (f := 105) (k := 1) (names := [Str.ofString "pieces", Str.ofString "turn", Str.ofString "colour", Str.ofString "shut"]) (by rw [hK]; exact at__law_lamps P) (by rw [hK]; rfl) (by rw [hK]; rfl) rfl rfl rfl rfl rfl rfl rfl (by decide) rfl (fun vs hv => by
    match vs, hv with
    | [_, _, _, _], _ => rfl) (by decide) (by decide) fun A L h₀ O₀ hr => ?_
  have hh := hr.handled
  have hr0 : Room 0 A := hr.mono (by decide)
  refine ex_open evl_nil (fun a => ?_) (by rfl)
  refine ex_assign (ρ' := [(Str.ofString "pieces", .val (.lst (ts.map Tk.D))), (Str.ofString "turn", .val (.int turn)), (Str.ofString "colour", .val (.flt col)), (Str.ofString "shut", .val (.flt shut)), (Str.ofString "lamps", .mu a ([])), (Str.ofString "depth", .val (.int 0))]) ev_int (by rfl) ?_
  refine ex_for_gen (ds := ts.map Tk.D) (fun _ => True) (stores_local (by rfl) (by rfl)) (itr_list (ev_local (by rfl)) (fun d hd => by
      obtain ⟨t, _, rfl⟩ := List.mem_map.mp hd
      rfl) hr0)
    (fun i ρ => ρ = [(Str.ofString "pieces", .val (.lst (ts.map Tk.D))), (Str.ofString "turn", .val (.int turn)), (Str.ofString "colour", .val (.flt col)), (Str.ofString "shut", .val (.flt shut)), (Str.ofString "lamps", .mu a ((lampsOf turn col shut (evs 0 (skel (ts.take i)))).map intsD)), (Str.ofString "depth", .val (.int (depOf (ts.take i))))]) (by simp [skel, evs, lampsOf, depOf]) (fun _ _ _ => trivial) (fun i d ρi hd' hinv => ?_) (fun ρ' hinv => ?_) (fun v => rfl)
  · subst hinv
    rw [List.getElem?_map] at hd'
    cases hti : ts[i]? with
    | none => rw [hti] at hd'; cases hd'
    | some t =>
    rw [hti] at hd'
    have ed : Tk.D t = d := by simpa using hd'
    subst ed
    have htake : ts.take (i + 1) = ts.take i ++ [t] := by rw [List.take_add_one, hti]; rfl
    have hto : t.ok := hok t (List.mem_of_getElem? hti)
    have hlt : i < ts.length := by
      rcases Nat.lt_or_ge i ts.length with h | h
      · exact h
      · rw [List.getElem?_eq_none h] at hti; cases hti
    have hskel : skel ts = skel (ts.take i) ++ skel [t] ++ skel (ts.drop (i + 1)) := by
      rw [← skel_app, ← htake, ← skel_app, List.take_append_drop]
    have hev' : ∀ e ∈ evs (depOf (ts.take i)) (skel [t]), lampOk (turn + e.1) col (litOf shut e.2) = true := fun e he => by
      refine hev e ?_
      rw [hskel, evs_app, evs_app, Int.zero_add, ← dep_skel]
      exact List.mem_append_left _ (List.mem_append_right _ he)
    have hdep : depOf (ts.take (i + 1)) = depOf (ts.take i) + t.d := by rw [htake]; simp [depOf]
    have hlam : lampsOf turn col shut (evs 0 (skel (ts.take (i + 1)))) = lampsOf turn col shut (evs 0 (skel (ts.take i))) ++ lampsOf turn col shut (evs (depOf (ts.take i)) (skel [t])) := by
      rw [htake, skel_app, evs_app, Int.zero_add, ← dep_skel]; simp [lampsOf]
    have hS : Strip t.b.toArray.toList t.s := by
      have := strip_toks (ts := [t]) (by simpa using hto)
      simpa using this
    have hsz : t.b.toArray.size ≤ 1048576 := by
      have := size_toks [t] (by simpa using hto)
      simp at this ⊢; omega
    have hcnt : depOf (ts.take i) + (t.s.count 40 : Nat) - (t.s.count 41 : Nat) = depOf (ts.take (i + 1)) := by
      rw [hdep]; cases t <;> simp [Tk.s, Tk.d] <;> omega
    have hll : (lampsOf turn col shut (evs 0 (skel (ts.take i)))).length ≤ 100000 := by
      have e1 : ∀ (bs : List Bool) d, (evs d bs).length = bs.length := by
        intro bs; induction bs with
        | nil => intro d; rfl
        | cons b bs ih => intro d; simp [evs, ih]
      have e2 : ∀ ts : List Tk, (skel ts).length ≤ ts.length := by
        intro ts; induction ts with
        | nil => simp [skel]
        | cons t ts ih => cases t <;> simp [skel] <;> omega
      have := e2 (ts.take i)
      simp only [lampsOf, List.length_map, e1]
      rw [List.length_take] at this
      omega
    generalize depOf (ts.take i) = dp at hev' hdep hlam hcnt ⊢
    generalize depOf (ts.take (i + 1)) = dp' at hdep hcnt ⊢
    generalize hL1 : lampsOf turn col shut (evs 0 (skel (ts.take i))) = ls at hlam hll ⊢
    generalize lampsOf turn col shut (evs 0 (skel (ts.take (i + 1)))) = ls' at hlam ⊢
    refine ⟨.nx [(Str.ofString "pieces", .val (.lst (ts.map Tk.D))), (Str.ofString "turn", .val (.int turn)), (Str.ofString "colour", .val (.flt col)), (Str.ofString "shut", .val (.flt shut)), (Str.ofString "lamps", .mu a (ls'.map intsD)), (Str.ofString "depth", .val (.int dp'))], ?_, rfl⟩
    refine ex_assign (ρ' := [(Str.ofString "pieces", .val (.lst (ts.map Tk.D))), (Str.ofString "turn", .val (.int turn)), (Str.ofString "colour", .val (.flt col)), (Str.ofString "shut", .val (.flt shut)), (Str.ofString "lamps", .mu a (ls.map intsD)), (Str.ofString "depth", .val (.int dp)), (Str.ofString "piece", .val (.byt t.b.toArray)), (Str.ofString "behind", .val (.int dp'))]) (ev_call (fn__paren_depth hK t.b.toArray t.s dp hS hsz) hr (evl_cons (ev_local (by rfl)) (evl_cons (ev_local (by rfl)) evl_nil))) (by rw [hcnt]; rfl) ?_
    refine ex_if_both (ρ' := [(Str.ofString "pieces", .val (.lst (ts.map Tk.D))), (Str.ofString "turn", .val (.int turn)), (Str.ofString "colour", .val (.flt col)), (Str.ofString "shut", .val (.flt shut)), (Str.ofString "lamps", .mu a (ls'.map intsD)), (Str.ofString "depth", .val (.int dp)), (Str.ofString "piece", .val (.byt t.b.toArray)), (Str.ofString "behind", .val (.int dp'))]) (tr_cmp (ev_local (by rfl)) (ev_local (by rfl)) c_ne_ii) (fun hb => ?_) (fun hb => ?_) ?_
    · have hne : dp' ≠ dp := by simpa using hb
      obtain ⟨b, hsk, hbd⟩ : ∃ b, skel [t] = [b] ∧ decide (dp < dp') = b := by
        cases t with
        | op => exact ⟨true, rfl, decide_eq_true (by rw [hdep]; show dp < dp + 1; omega)⟩
        | cl => exact ⟨false, rfl, decide_eq_false (by rw [hdep]; show ¬ dp < dp + -1; omega)⟩
        | lb j => exact absurd (by rw [hdep]; simp [Tk.d]) hne
      have hlo := hev' (dp, b) (by rw [hsk]; exact .head _)
      dsimp only at hlo
      have hlo2 := hlo
      unfold lampOk at hlo
      rw [Bool.and_eq_true, Bool.and_eq_true, Bool.and_eq_true, Bool.and_eq_true, Bool.and_eq_true] at hlo
      obtain ⟨⟨⟨hsm, hinf⟩, hho⟩, ⟨hf1, hf2⟩, hf3⟩ := hlo
      have hsm1 := of_decide_eq_true hsm
      have hsm2 : (turn + dp).natAbs < 2 ^ 1023 := Nat.lt_trans hsm1 (by decide +kernel)
      have hinf2 : ¬ Float64.isInf (divF (turn + dp) 12) = true := by simpa using hinf
      have hls : ls'.map intsD = ls.map intsD ++ [intsD (lampAt (turn + dp) col (litOf shut b))] := by rw [hlam, hsk]; simp [evs, lampsOf]
      refine ex_assign (ρ' := [(Str.ofString "pieces", .val (.lst (ts.map Tk.D))), (Str.ofString "turn", .val (.int turn)), (Str.ofString "colour", .val (.flt col)), (Str.ofString "shut", .val (.flt shut)), (Str.ofString "lamps", .mu a (ls.map intsD)), (Str.ofString "depth", .val (.int dp)), (Str.ofString "piece", .val (.byt t.b.toArray)), (Str.ofString "behind", .val (.int dp')), (Str.ofString "value", .val (.flt (litOf shut b)))]) (ev_ifexp (tr_cmp (ev_local (by rfl)) (ev_local (by rfl)) c_gt_ii) (d := .flt (litOf shut b)) ?_) (by rfl) ?_
      · rw [hbd]
        cases b with
        | true => exact ev_flt
        | false => exact ev_local (by rfl)
      refine ex_assign (ρ' := [(Str.ofString "pieces", .val (.lst (ts.map Tk.D))), (Str.ofString "turn", .val (.int turn)), (Str.ofString "colour", .val (.flt col)), (Str.ofString "shut", .val (.flt shut)), (Str.ofString "lamps", .mu a (ls.map intsD)), (Str.ofString "depth", .val (.int dp)), (Str.ofString "piece", .val (.byt t.b.toArray)), (Str.ofString "behind", .val (.int dp')), (Str.ofString "value", .val (.flt (litOf shut b))), (Str.ofString "parts", .val (t3 (lampT (turn + dp) col (litOf shut b))))]) (ev_call (fn_hsv_to_rgb hK (divF (turn + dp) 12) col (litOf shut b) hho) hr (evl_cons (ev_bin (ev_bin (ev_local (by rfl)) (ev_local (by rfl)) b_add_ii) ev_int (b_div_ii hh (by decide) hsm2 hinf2)) (evl_cons (ev_local (by rfl)) (evl_cons (ev_local (by rfl)) evl_nil)))) (by rfl) ?_
      generalize hlt3 : lampT (turn + dp) col (litOf shut b) = tr at hf1 hf2 hf3 ⊢
      have hla : lampAt (turn + dp) col (litOf shut b) = [lampI tr.1, lampI tr.2.1, lampI tr.2.2] := by unfold lampAt; rw [hlt3]
      refine ex_append (ρ' := [(Str.ofString "pieces", .val (.lst (ts.map Tk.D))), (Str.ofString "turn", .val (.int turn)), (Str.ofString "colour", .val (.flt col)), (Str.ofString "shut", .val (.flt shut)), (Str.ofString "lamps", .mu a (ls'.map intsD)), (Str.ofString "depth", .val (.int dp)), (Str.ofString "piece", .val (.byt t.b.toArray)), (Str.ofString "behind", .val (.int dp')), (Str.ofString "value", .val (.flt (litOf shut b))), (Str.ofString "parts", .val (t3 tr))]) (d := intsD (lampAt (turn + dp) col (litOf shut b))) (by rfl) ?_ (by rw [hls]; rfl) (ex_drop 8 (by rfl)) (hn := by rw [List.length_map, sizeLine_eq]; omega)
      rw [hla]
      refine ev_comp (ds := [.flt tr.1, .flt tr.2.1, .flt tr.2.2]) (cl := []) (ρc := []) (fun _ => true) (fun d => match d with | .flt p => .int (lampI p) | _ => .none) { iter := itr_tuple (ev_local (by rfl)) (fun d hd => by simp only [List.mem_cons, List.not_mem_nil, or_false] at hd; rcases hd with rfl | rfl | rfl <;> rfl) hr0, clos := by rfl, cell := by decide, kind := rfl, names := by decide, hx := by rfl, hxc := rfl, hcl := (fun q hq => nomatch hq), hρc := (fun y sl h => nomatch h), size := by simp [sizeLine_eq], tests := fun C h₀ O₀ d hd => rfl, elt := fun C h₀ O₀ d hd _ => ?_, imm := fun d hd _ => ?_ } (fun v => rfl)
      · have hall : ∃ p, d = .flt p ∧ finOk (lampX p) = true := by
          simp only [List.mem_cons, List.not_mem_nil, or_false] at hd
          rcases hd with rfl | rfl | rfl
          · exact ⟨_, rfl, hf1⟩
          · exact ⟨_, rfl, hf2⟩
          · exact ⟨_, rfl, hf3⟩
        obtain ⟨p, rfl, hp⟩ := hall
        obtain ⟨q1, q2, q3⟩ := finOk_split hp
        exact (ev_type (by rw [hK]; exact no_int P) boot_int (evl_cons (ev_bin (ev_bin ev_int (ev_local (by rfl)) (b_mul_if (by decide +kernel))) ev_flt b_add_ff) evl_nil) (k_int_f hh q1 q2 q3))
      · simp only [List.mem_cons, List.not_mem_nil, or_false] at hd
        rcases hd with rfl | rfl | rfl <;> rfl
    · have heq : dp' = dp := by simpa using hb
      have : skel [t] = [] := by
        cases t with
        | op => rw [hdep] at heq; simp [Tk.d] at heq; omega
        | cl => rw [hdep] at heq; simp [Tk.d] at heq; omega
        | lb j => rfl
      have hls : ls' = ls := by rw [hlam, this]; simp [evs, lampsOf]
      rw [hls]
      exact ex_drop 8 (by rfl)
    · exact ex_assign (ρ' := [(Str.ofString "pieces", .val (.lst (ts.map Tk.D))), (Str.ofString "turn", .val (.int turn)), (Str.ofString "colour", .val (.flt col)), (Str.ofString "shut", .val (.flt shut)), (Str.ofString "lamps", .mu a (ls'.map intsD)), (Str.ofString "depth", .val (.int dp')), (Str.ofString "piece", .val (.byt t.b.toArray)), (Str.ofString "behind", .val (.int dp'))]) (ev_local (by rfl)) (by rfl) (ex_drop 6 (by rfl))
  · subst hinv
    rw [List.length_map, List.take_length]
    refine ex_freeze (x := Str.ofString "lamps") (by rfl) (by rfl) ?_
    exact ex_return (ev_local (by rfl))

end
end Mine

/-! MF5 -/
namespace Mine
set_option maxRecDepth 100000
open PySem PySem.W PyProof.Rows PySem.Calls PySem.Flt
set_option maxHeartbeats 8000000

def min2 (x y : UInt64) : UInt64 := if Float64.cmp y x == some .lt then y else x
structure Dc where
  h : UInt64
  l : UInt64
  s : UInt64
def dcOf (r g b : Int) : UInt64 × UInt64 × UInt64 := hls (divF r 64) (divF g 64) (divF b 64)
def dcReach (t : UInt64 × UInt64 × UInt64) : UInt64 := Float64.mul t.2.2 (min2 t.2.1 (Float64.sub (Float64.ofInt 1) t.2.1))
def dcMostX (t : UInt64 × UInt64 × UInt64) : UInt64 := Float64.add (Float64.mul (Float64.ofInt 64) (Float64.add t.2.1 (dcReach t))) Fh
def dcLeastX (t : UInt64 × UInt64 × UInt64) : UInt64 := Float64.add (Float64.mul (Float64.ofInt 64) (Float64.sub t.2.1 (dcReach t))) Fh
def dcHX (t : UInt64 × UInt64 × UInt64) : UInt64 := Float64.add (Float64.mul (Float64.ofInt 12) t.1) Fh
def dcMost (t : UInt64 × UInt64 × UInt64) : Int := toInt Float64.truncOf (dcMostX t)
def dcLeast (t : UInt64 × UInt64 × UInt64) : Int := toInt Float64.truncOf (dcLeastX t)
def dcH (t : UInt64 × UInt64 × UInt64) : Int := toInt Float64.truncOf (dcHX t)
def divOk (r : Int) : Bool := decide (r.natAbs < 4096) && !Float64.isInf (divF r 64)
def dcTest (col shut : UInt64) (t : UInt64 × UInt64 × UInt64) : Bool :=
  finOk (dcMostX t) && finOk (dcLeastX t) && finOk (dcHX t) && decide ((dcMost t).natAbs < 4096) && !notIn2 (dcMost t) 64 (Float64.mul (Float64.ofInt 64) shut) &&
    !(Float64.cmpInt (Float64.mul (Float64.ofInt (dcMost t)) (Float64.sub (Float64.ofInt 1) col)) (dcLeast t) != some .eq)
def dcOk (col shut : UInt64) : List Int → Bool
  | [r, g, b] => divOk r && divOk g && divOk b && hlsOk (divF r 64) (divF g 64) (divF b 64) && dcTest col shut (dcOf r g b)
  | _ => false
def tell (turn : Int) (j : Nat) : List Int → Tld
  | [r, g, b] => ((dcH (dcOf r g b) - turn).fmod 12, -(j : Int), dcMost (dcOf r g b) == 64)
  | _ => (0, 0, false)
def tolds (turn : Int) (ls : List (List Int)) (i : Nat) : List Tld := (List.range i).map fun j => tell turn j (ls.getD j [])
theorem divOk_split {r : Int} (h : divOk r = true) : r.natAbs < 2 ^ 1023 ∧ ¬ Float64.isInf (divF r 64) = true := by
  unfold divOk at h
  rw [Bool.and_eq_true] at h
  exact ⟨Nat.lt_trans (of_decide_eq_true h.1) (by decide +kernel), by simpa using h.2⟩

section
variable {W : Wd} {P : Params}

theorem fn__law_swept (hK : W.K = hd.heap_39 P) (ls : List (List Int)) (turn : Int) (col shut : UInt64) (p : Array Nat) (bs : List Bool) (h2 : 2 ≤ ls.length) (h64 : ls.length < 64)
    (hok : ∀ l ∈ ls, dcOk col shut l = true) (hrun : runC ((tolds turn ls ls.length).map Tld.k) (kas_sort ls.length) = some p)
    (hp : (p.toList.map fun i => ((tolds turn ls ls.length)[i]?).map (·.2.2)) = bs.map some) (hbl : bs.length ≤ 64) :
    Fn W 2 (Str.ofString "_law_swept") [.lst (ls.map intsD), .int turn, .flt col, .flt shut] (.lst (bs.map .bool)) := by
  refine fn_intro (f := 110) (k := 1) (names := [Str.ofString "lamps", Str.ofString "turn", Str.ofString "colour", Str.ofString "shut"]) (by rw [hK]; exact at__law_swept P) (by rw [hK]; rfl) (by rw [hK]; rfl) rfl rfl rfl rfl rfl rfl rfl (by decide) rfl (fun vs hv => by
    match vs, hv with
    | [_, _, _, _], _ => rfl) (by decide) (by decide) fun A L h₀ O₀ hr => ?_
  have hh := hr.handled
  have hr0 : Room 0 A := hr.mono (by decide)
  refine ex_open evl_nil (fun a => ?_) (by rfl)
  refine ex_for_gen (ds := rangeD 0 ls.length) (fun _ => True) (stores_local (by rfl) (by rfl)) (itr_range1 (by rw [hK]; exact no_range P) (evl_cons (ev_builtin (by rw [hK]; exact no_len P) boot_len (evl_cons (ev_local (by rfl)) evl_nil) (k_len (by simp; omega))) evl_nil) hr0 (by omega) (by simp; omega) (by simp))
    (fun i ρ => ρ = [(Str.ofString "lamps", .val (.lst (ls.map intsD))), (Str.ofString "turn", .val (.int turn)), (Str.ofString "colour", .val (.flt col)), (Str.ofString "shut", .val (.flt shut)), (Str.ofString "told", .mu a ((tolds turn ls i).map Tld.d))]) rfl (fun _ _ _ => trivial) (fun i d ρi hd' hinv => ?_) (fun ρ' hinv => ?_) (fun v => rfl)
  · subst hinv
    obtain ⟨hi, rfl⟩ := rangeD_get hd'
    rw [Int.zero_add]
    have hg : ls.getD i [] = ls[i] := by simp [hi]
    have hb := hok _ (List.getElem_mem hi)
    have h1 : (0 : Int) ≤ (i : Int) := Int.natCast_nonneg _
    have h2' : (i : Int) < 2 ^ 62 := by omega
    obtain ⟨r, g, b, hl3⟩ : ∃ r g b, ls[i] = [r, g, b] := by
      generalize ls[i] = l at hb
      match l, hb with
      | [r, g, b], _ => exact ⟨r, g, b, rfl⟩
    rw [hl3] at hb hg
    have h3 : (ls.map intsD)[(i : Int).toNat]? = some (.lst ([.int r, .int g, .int b])) := by
      rw [Int.toNat_natCast, List.getElem?_map, List.getElem?_eq_getElem hi, hl3]; rfl
    have htold : tolds turn ls (i + 1) = tolds turn ls i ++ [tell turn i [r, g, b]] := by
      unfold tolds; rw [List.range_succ, List.map_append]; simp only [List.map_cons, List.map_nil]; rw [hg]
    have htl : (tolds turn ls i).length = i := by simp [tolds]
    unfold dcOk at hb
    rw [Bool.and_eq_true, Bool.and_eq_true, Bool.and_eq_true, Bool.and_eq_true] at hb
    obtain ⟨⟨⟨⟨hr', hg'⟩, hb'⟩, hho⟩, htest⟩ := hb
    obtain ⟨hr1, hr2⟩ := divOk_split hr'
    obtain ⟨hg1, hg2⟩ := divOk_split hg'
    obtain ⟨hb1, hb2⟩ := divOk_split hb'
    have etell : (tell turn i [r, g, b]).d = .tup [.int ((dcH (dcOf r g b) - turn).fmod 12), .int (-(i : Int)), .bool (dcMost (dcOf r g b) == 64)] := rfl
    refine ⟨.nx ([(Str.ofString "lamps", .val (.lst (ls.map intsD))), (Str.ofString "turn", .val (.int turn)), (Str.ofString "colour", .val (.flt col)), (Str.ofString "shut", .val (.flt shut)), (Str.ofString "told", .mu a ((tolds turn ls (i + 1)).map Tld.d))]), ?_, rfl⟩
    rw [htold, List.map_append, List.map_singleton, etell]
    refine ex_unpack (xs := [Str.ofString "red", Str.ofString "green", Str.ofString "blue"]) (ps := [_, _, _]) (ρ' := [(Str.ofString "lamps", .val (.lst (ls.map intsD))), (Str.ofString "turn", .val (.int turn)), (Str.ofString "colour", .val (.flt col)), (Str.ofString "shut", .val (.flt shut)), (Str.ofString "told", .mu a ((tolds turn ls i).map Tld.d)), (Str.ofString "place", .val (.int i)), (Str.ofString "red", .val (.int r)), (Str.ofString "green", .val (.int g)), (Str.ofString "blue", .val (.int b))]) (ev_item (ev_local (by rfl)) (ev_local (by rfl)) h1 h2' h3) (.inl rfl) rfl (by rfl) ?_ hr0 rfl (by rfl) (by intro x hx; simp only [List.mem_cons, List.not_mem_nil, or_false] at hx; rcases hx with rfl | rfl | rfl <;> exact ⟨rfl, rfl⟩)
    have hhls := fn_rgb_to_hls hK (divF r 64) (divF g 64) (divF b 64) hho
    refine ex_unpack (xs := [Str.ofString "h", Str.ofString "l", Str.ofString "s"]) (ps := [_, _, _]) (ρ' := [(Str.ofString "lamps", .val (.lst (ls.map intsD))), (Str.ofString "turn", .val (.int turn)), (Str.ofString "colour", .val (.flt col)), (Str.ofString "shut", .val (.flt shut)), (Str.ofString "told", .mu a ((tolds turn ls i).map Tld.d)), (Str.ofString "place", .val (.int i)), (Str.ofString "red", .val (.int r)), (Str.ofString "green", .val (.int g)), (Str.ofString "blue", .val (.int b)), (Str.ofString "h", .val (.flt (dcOf r g b).1)), (Str.ofString "l", .val (.flt (dcOf r g b).2.1)), (Str.ofString "s", .val (.flt (dcOf r g b).2.2))]) (ev_call hhls hr (evl_cons (ev_bin (ev_local (by rfl)) ev_int (b_div_ii hh (by decide) hr1 hr2)) (evl_cons (ev_bin (ev_local (by rfl)) ev_int (b_div_ii hh (by decide) hg1 hg2)) (evl_cons (ev_bin (ev_local (by rfl)) ev_int (b_div_ii hh (by decide) hb1 hb2)) evl_nil)))) (.inr rfl) rfl (by rfl) ?_ hr0 rfl (by rfl) (by intro x hx; simp only [List.mem_cons, List.not_mem_nil, or_false] at hx; rcases hx with rfl | rfl | rfl <;> exact ⟨rfl, rfl⟩)
    generalize dcOf r g b = t at htest ⊢
    unfold dcTest at htest
    rw [Bool.and_eq_true, Bool.and_eq_true, Bool.and_eq_true, Bool.and_eq_true, Bool.and_eq_true] at htest
    obtain ⟨⟨⟨⟨⟨hm, hle⟩, hhx⟩, hms⟩, hni⟩, hne⟩ := htest
    obtain ⟨m1, m2, m3⟩ := finOk_split hm
    obtain ⟨l1, l2, l3⟩ := finOk_split hle
    obtain ⟨x1, x2, x3⟩ := finOk_split hhx
    have hms' : (dcMost t).natAbs < 2 ^ 1023 := Nat.lt_trans (of_decide_eq_true hms) (by decide +kernel)
    have hni' : notIn2 (dcMost t) 64 (Float64.mul (Float64.ofInt 64) shut) = false := by simpa using hni
    have hne' : (Float64.cmpInt (Float64.mul (Float64.ofInt (dcMost t)) (Float64.sub (Float64.ofInt 1) col)) (dcLeast t) != some .eq) = false := by
      rw [Bool.not_eq_true'] at hne; exact hne
    refine ex_assign (ρ' := [(Str.ofString "lamps", .val (.lst (ls.map intsD))), (Str.ofString "turn", .val (.int turn)), (Str.ofString "colour", .val (.flt col)), (Str.ofString "shut", .val (.flt shut)), (Str.ofString "told", .mu a ((tolds turn ls i).map Tld.d)), (Str.ofString "place", .val (.int i)), (Str.ofString "red", .val (.int r)), (Str.ofString "green", .val (.int g)), (Str.ofString "blue", .val (.int b)), (Str.ofString "h", .val (.flt t.1)), (Str.ofString "l", .val (.flt t.2.1)), (Str.ofString "s", .val (.flt t.2.2)), (Str.ofString "reach", .val (.flt (dcReach t)))]) (ev_bin (ev_local (by rfl)) (ev_builtin (by rw [hK]; exact no_min P) boot_min (evl_cons (ev_local (by rfl)) (evl_cons (ev_bin ev_int (ev_local (by rfl)) (b_sub_if (by decide +kernel))) evl_nil)) (k_min_ff hh)) b_mul_ff) (by rfl) ?_
    refine ex_unpack_swapped (names := [Str.ofString "most", Str.ofString "least"]) (ρ' := [(Str.ofString "lamps", .val (.lst (ls.map intsD))), (Str.ofString "turn", .val (.int turn)), (Str.ofString "colour", .val (.flt col)), (Str.ofString "shut", .val (.flt shut)), (Str.ofString "told", .mu a ((tolds turn ls i).map Tld.d)), (Str.ofString "place", .val (.int i)), (Str.ofString "red", .val (.int r)), (Str.ofString "green", .val (.int g)), (Str.ofString "blue", .val (.int b)), (Str.ofString "h", .val (.flt t.1)), (Str.ofString "l", .val (.flt t.2.1)), (Str.ofString "s", .val (.flt t.2.2)), (Str.ofString "reach", .val (.flt (dcReach t))), (Str.ofString "least", .val (.int (dcLeast t))), (Str.ofString "most", .val (.int (dcMost t)))]) (ev_tuple (evl_cons (ev_type (by rw [hK]; exact no_int P) boot_int (evl_cons (ev_bin (ev_bin ev_int (ev_bin (ev_local (by rfl)) (ev_local (by rfl)) b_add_ff) (b_mul_if (by decide +kernel))) ev_flt b_add_ff) evl_nil) (k_int_f hh m1 m2 m3)) (evl_cons (ev_type (by rw [hK]; exact no_int P) boot_int (evl_cons (ev_bin (ev_bin ev_int (ev_bin (ev_local (by rfl)) (ev_local (by rfl)) b_sub_ff) (b_mul_if (by decide +kernel))) ev_flt b_add_ff) evl_nil) (k_int_f hh l1 l2 l3)) evl_nil)) (by simp [sizeLine_eq])) rfl (by rfl) ?_ hr0 (by intro x hx; simp only [List.mem_cons, List.not_mem_nil, or_false] at hx; rcases hx with rfl | rfl <;> exact ⟨rfl, rfl⟩)
    refine ex_if_both (ρ' := [(Str.ofString "lamps", .val (.lst (ls.map intsD))), (Str.ofString "turn", .val (.int turn)), (Str.ofString "colour", .val (.flt col)), (Str.ofString "shut", .val (.flt shut)), (Str.ofString "told", .mu a ((tolds turn ls i).map Tld.d)), (Str.ofString "place", .val (.int i)), (Str.ofString "red", .val (.int r)), (Str.ofString "green", .val (.int g)), (Str.ofString "blue", .val (.int b)), (Str.ofString "h", .val (.flt t.1)), (Str.ofString "l", .val (.flt t.2.1)), (Str.ofString "s", .val (.flt t.2.2)), (Str.ofString "reach", .val (.flt (dcReach t))), (Str.ofString "least", .val (.int (dcLeast t))), (Str.ofString "most", .val (.int (dcMost t)))]) (tr_or (tr_cmp (ev_local (by rfl)) (ev_list (evl_cons ev_int (evl_cons (ev_bin ev_int (ev_local (by rfl)) (b_mul_if (by decide +kernel))) evl_nil)) (by simp [sizeLine_eq])) c_notin) (fun _ => tr_cmp (ev_local (by rfl)) (ev_bin (ev_local (by rfl)) (ev_bin ev_int (ev_local (by rfl)) (b_sub_if (by decide +kernel))) (b_mul_if hms')) c_ne_if)) (fun hb => ?_) (fun _ => ex_done) ?_
    · exfalso
      have hb2 : (notIn2 (dcMost t) 64 (Float64.mul (Float64.ofInt 64) shut) || (Float64.cmpInt (Float64.mul (Float64.ofInt (dcMost t)) (Float64.sub (Float64.ofInt 1) col)) (dcLeast t) != some .eq)) = true := hb
      rw [hni', hne'] at hb2
      exact absurd hb2 (by decide)
    refine ex_append (ρ' := [(Str.ofString "lamps", .val (.lst (ls.map intsD))), (Str.ofString "turn", .val (.int turn)), (Str.ofString "colour", .val (.flt col)), (Str.ofString "shut", .val (.flt shut)), (Str.ofString "told", .mu a ((tolds turn ls i).map Tld.d ++ [.tup [.int ((dcH t - turn).fmod 12), .int (-(i : Int)), .bool (dcMost t == 64)]])), (Str.ofString "place", .val (.int i)), (Str.ofString "red", .val (.int r)), (Str.ofString "green", .val (.int g)), (Str.ofString "blue", .val (.int b)), (Str.ofString "h", .val (.flt t.1)), (Str.ofString "l", .val (.flt t.2.1)), (Str.ofString "s", .val (.flt t.2.2)), (Str.ofString "reach", .val (.flt (dcReach t))), (Str.ofString "least", .val (.int (dcLeast t))), (Str.ofString "most", .val (.int (dcMost t)))]) (by rfl) (ev_tuple (evl_cons (ev_bin (ev_call (fn_isub hK (dcH t) turn) hr (evl_cons (ev_type (by rw [hK]; exact no_int P) boot_int (evl_cons (ev_bin (ev_bin ev_int (ev_local (by rfl)) (b_mul_if (by decide +kernel))) ev_flt b_add_ff) evl_nil) (k_int_f hh x1 x2 x3)) (evl_cons (ev_local (by rfl)) evl_nil))) ev_int (b_mod_ii (by decide))) (evl_cons (ev_un (ev_local (by rfl)) u_neg_i) (evl_cons (ev_cmp (ev_local (by rfl)) ev_int c_eq_ii) evl_nil))) (by simp [sizeLine_eq])) (by rfl) (ex_drop 5 (by rfl)) (hn := by rw [List.length_map, htl, sizeLine_eq]; omega)
  · subst hinv
    rw [rangeD_length]
    refine ex_freeze (x := Str.ofString "told") (by rfl) (by rfl) ?_
    have htl : (tolds turn ls ls.length).length = ls.length := by simp [tolds]
    refine ex_return (ev_pick (l := tolds turn ls ls.length) (p := p) (by rw [hK]; exact no_sorted P) (evl_cons (ev_local (by rfl)) evl_nil) hr0 (by rw [htl]; exact h2) (by rw [htl]; exact h64) (by rw [htl]; exact hrun) hp hbl (by rfl) (by decide) rfl (by decide) (by rfl) (by rfl) (by rfl) (by decide) (fun v => rfl))

end
end Mine

/-! MF6 -/
namespace Mine
set_option maxRecDepth 100000
open PySem PySem.W PyProof.Rows PySem.Calls PySem.Flt
set_option maxHeartbeats 8000000

section
variable {W : Wd} {c : Act} {ρ ρ' : Rho}
theorem ev_free {x : Str} {p : Pos} {d : D} {ca : Addr} (hx : ρ.lookup x = some (.val d)) (hl : c.env.kindOf x = some .free := by rfl) (hc : c.env.cells.lookup x = some ca := by rfl)
    (hd : (x == ("__debug__" : Str)) = false := by decide) (hn : (x == ("__classdict__" : Str)) = false := by decide) : Ev W c ρ (.Name x p) d := by
  intro I O s S Q E h
  obtain ⟨m, F, hm⟩ := S.fr
  obtain ⟨v, hv, r⟩ := hm x _ hx
  unfold Bears at hv
  rw [hc] at hv
  exact wpAny_Name (wpAny_loadName_free S.kind hl hc hv (h v s.heap s.toks (Ext.refl _) r) hn) hd
end

theorem bval_snoc (bs : List Bool) (b : Bool) : bval (bs ++ [b]) = bval bs * 2 + (if b then 1 else 0) := by
  unfold bval; rw [List.foldl_append]; rfl
theorem bval_lt (bs : List Bool) : bval bs < 2 ^ bs.length := by
  have key : ∀ (bs : List Bool) (n : Nat), bs.foldl (fun acc b => acc * 2 + (if b then 1 else 0)) n < (n + 1) * 2 ^ bs.length := by
    intro bs
    induction bs with
    | nil => intro n; simp
    | cons b bs ih =>
      intro n
      rw [List.foldl_cons]
      refine Nat.lt_of_lt_of_le (ih _) ?_
      rw [List.length_cons, Nat.pow_succ]
      have h1 : (n * 2 + if b then 1 else 0) + 1 ≤ (n + 1) * 2 := by split <;> omega
      calc ((n * 2 + if b then 1 else 0) + 1) * 2 ^ bs.length ≤ ((n + 1) * 2) * 2 ^ bs.length := Nat.mul_le_mul_right _ h1
        _ = (n + 1) * (2 ^ bs.length * 2) := by rw [Nat.mul_assoc, Nat.mul_comm 2]
  have := key bs 0
  simpa [bval] using this

/-- a line's pieces -/
def lineT (ns : List Int) : Nat → List Bool → List (List Tk)
  | _, [] => []
  | r, true :: bs => [.op, .lb (labIx ns r)] :: lineT ns (r + 1) bs
  | r, false :: bs => [.cl] :: lineT ns r bs
def rowAt (bs : List Bool) : Nat := bs.count true
theorem lineT_snoc (ns : List Int) (bs : List Bool) (b : Bool) : ∀ r, lineT ns r (bs ++ [b]) = lineT ns r bs ++ [if b then [.op, .lb (labIx ns (r + rowAt bs))] else [.cl]] := by
  induction bs with
  | nil => intro r; cases b <;> simp [lineT, rowAt]
  | cons x bs ih =>
    intro r
    cases x with
    | true =>
      simp only [List.cons_append, lineT, ih]
      have : r + 1 + rowAt bs = r + rowAt (true :: bs) := by simp [rowAt]; omega
      rw [this]
    | false =>
      simp only [List.cons_append, lineT, ih]
      have : r + rowAt bs = r + rowAt (false :: bs) := by simp [rowAt]
      rw [this]
theorem lineT_len (ns : List Int) (bs : List Bool) : ∀ r, (lineT ns r bs).length = bs.length := by
  induction bs with
  | nil => intro r; rfl
  | cons x bs ih => intro r; cases x <;> simp [lineT, ih]
theorem lineT_take (ns : List Int) (bs : List Bool) : ∀ (r i : Nat), (lineT ns r bs).take i = lineT ns r (bs.take i) := by
  induction bs with
  | nil => intro r i; simp [lineT]
  | cons x bs ih =>
    intro r i
    cases i with
    | zero => simp [lineT]
    | succ i => cases x <;> simp [lineT, ih]
theorem lineT_get (ns : List Int) (bs : List Bool) : ∀ (r i : Nat) (b : Bool), bs[i]? = some b → ∃ ts : List Tk, (lineT ns r bs)[i]? = some ts ∧ ((b = true ∧ ∃ j, ts = [.op, .lb (labIx ns j)]) ∨ (b = false ∧ ts = [.cl])) := by
  induction bs with
  | nil => intro r i b h; simp at h
  | cons x bs ih =>
    intro r i b h
    cases i with
    | zero =>
      simp at h; subst h
      cases x with
      | true => exact ⟨[.op, .lb (labIx ns r)], by simp [lineT], .inl ⟨rfl, _, rfl⟩⟩
      | false => exact ⟨[.cl], by simp [lineT], .inr ⟨rfl, rfl⟩⟩
    | succ i =>
      have h' : bs[i]? = some b := by simpa using h
      cases x with
      | true => simpa [lineT] using ih (r + 1) i b h'
      | false => simpa [lineT] using ih r i b h'
def lineB (ts : List Tk) : Array UInt8 := (ts.flatMap Tk.b).toArray
def lineD (ts : List Tk) : D := .byt (lineB ts)
/-- the text of a line -/
def textOf (ns : List Int) (bs : List Bool) : List Tk := (lineT ns 0 bs).flatten
theorem skel_line (ns : List Int) (bs : List Bool) : ∀ r, skel (lineT ns r bs).flatten = bs := by
  induction bs with
  | nil => intro r; rfl
  | cons x bs ih => intro r; cases x <;> simp [lineT, skel_app, skel, ih]
theorem text_ok (ns : List Int) (bs : List Bool) : ∀ r, ∀ t ∈ (lineT ns r bs).flatten, t.ok := by
  induction bs with
  | nil => intro r t ht; cases ht
  | cons x bs ih =>
    intro r t ht
    cases x with
    | true =>
      simp only [lineT, List.flatten_cons, List.cons_append, List.nil_append, List.mem_cons] at ht
      rcases ht with rfl | rfl | ht
      · trivial
      · exact labIx_lt ns r
      · exact ih _ t ht
    | false =>
      simp only [lineT, List.flatten_cons, List.cons_append, List.nil_append, List.mem_cons] at ht
      rcases ht with rfl | ht
      · trivial
      · exact ih _ t ht
theorem text_len (ns : List Int) (bs : List Bool) : ∀ r, (lineT ns r bs).flatten.length ≤ 2 * bs.length := by
  induction bs with
  | nil => intro r; simp [lineT]
  | cons x bs ih =>
    intro r
    cases x with
    | true => have := ih (r + 1); simp only [lineT, List.flatten_cons, List.length_append, List.length_cons, List.length_nil]; omega
    | false => have := ih r; simp only [lineT, List.flatten_cons, List.length_append, List.length_cons, List.length_nil]; omega
theorem text_size (ns : List Int) (bs : List Bool) : (lineB (textOf ns bs)).size ≤ 12 * bs.length := by
  have h1 := size_toks (textOf ns bs) (text_ok ns bs 0)
  have h2 := text_len ns bs 0
  unfold lineB
  rw [List.size_toArray]
  unfold textOf at h1 ⊢
  omega
theorem text_strip (ns : List Int) (bs : List Bool) : Strip (lineB (textOf ns bs)).toList ((textOf ns bs).flatMap Tk.s) := by
  have := strip_toks (text_ok ns bs 0)
  simpa [lineB, textOf] using this
theorem text_dep (ns : List Int) (bs : List Bool) : ((((textOf ns bs).flatMap Tk.s).count 40 : Nat) : Int) - (((textOf ns bs).flatMap Tk.s).count 41 : Nat) = bsum bs := by
  rw [dep_toks, dep_skel]
  unfold textOf
  rw [skel_line]
theorem text_snoc (ns : List Int) (bs : List Bool) (b : Bool) : ∃ ts, lineT ns 0 (bs ++ [b]) = lineT ns 0 bs ++ [ts] ∧ textOf ns (bs ++ [b]) = textOf ns bs ++ ts := by
  refine ⟨_, lineT_snoc ns bs b 0, ?_⟩
  unfold textOf
  rw [lineT_snoc, List.flatten_append]
  simp
theorem bsum_snoc (bs : List Bool) (b : Bool) : bsum (bs ++ [b]) = bsum bs + if b then 1 else -1 := by
  simp [bsum]
theorem take_snoc {α : Type} {l : List α} {i : Nat} {x : α} (h : l[i]? = some x) : l.take (i + 1) = l.take i ++ [x] := by
  rw [List.take_add_one, h]; rfl
theorem at_lt {α : Type} {l : List α} {i : Nat} {x : α} (h : l[i]? = some x) : i < l.length := by
  rcases Nat.lt_or_ge i l.length with h' | h'
  · exact h'
  · rw [List.getElem?_eq_none h'] at h; cases h

section
variable {W : Wd} {P : Params}

theorem fn__law_number (hK : W.K = hd.heap_39 P) (bs : List Bool) (hl : bs.length ≤ 60) : Fn W 2 (Str.ofString "_law_number") [.lst (bs.map .bool)] (.int (bval (true :: bs) : Nat)) := by
  refine fn_intro (f := 117) (k := 1) (names := [Str.ofString "swept"]) (by rw [hK]; exact at__law_number P) (by rw [hK]; rfl) (by rw [hK]; rfl) rfl rfl rfl rfl rfl rfl rfl (by decide) rfl (fun vs hv => by
    match vs, hv with
    | [_], _ => rfl) (by decide) (by decide) fun A L h₀ O₀ hr => ?_
  have hh := hr.handled
  have hr0 : Room 0 A := hr.mono (by decide)
  refine ex_assign (ρ' := [(Str.ofString "swept", .val (.lst (bs.map .bool))), (Str.ofString "number", .val (.int 1))]) ev_int (by rfl) ?_
  refine ex_for_gen (ds := bs.map .bool) (fun _ => True) (stores_local (by rfl) (by rfl)) (itr_list (ev_local (by rfl)) (fun d hd => by
      obtain ⟨t, _, rfl⟩ := List.mem_map.mp hd
      rfl) hr0)
    (fun i ρ => ρ = [(Str.ofString "swept", .val (.lst (bs.map .bool))), (Str.ofString "number", .val (.int (bval (true :: bs.take i) : Nat)))]) rfl (fun _ _ _ => trivial) (fun i d ρi hd' hinv => ?_) (fun ρ' hinv => ?_) (fun v => rfl)
  · subst hinv
    rw [List.getElem?_map] at hd'
    cases hbi : bs[i]? with
    | none => rw [hbi] at hd'; cases hd'
    | some b =>
    rw [hbi] at hd'
    have ed : D.bool b = d := by simpa using hd'
    subst ed
    have hi := at_lt hbi
    have e : bval (true :: bs.take (i + 1)) = bval (true :: bs.take i) * 2 + (if b then 1 else 0) := by rw [take_snoc hbi, ← List.cons_append, bval_snoc]
    have hlt : bval (true :: bs.take i) < 2 ^ 64 := by
      refine Nat.lt_of_lt_of_le (bval_lt _) (Nat.pow_le_pow_right (by decide) ?_)
      simp; omega
    refine ⟨.nx [(Str.ofString "swept", .val (.lst (bs.map .bool))), (Str.ofString "number", .val (.int (bval (true :: bs.take (i + 1)) : Nat)))], ?_, rfl⟩
    rw [e]
    generalize bval (true :: bs.take i) = n at hlt ⊢
    have e2 : Builtin.bitOr ((n : Int) * 2 ^ (1 : Int).toNat) (if b = true then 1 else 0) = ((n * 2 + (if b then 1 else 0) : Nat) : Int) := by
      have e3 : ((n : Int) * 2 ^ (1 : Int).toNat) = 2 * n := by
        show (n : Int) * 2 ^ 1 = _
        omega
      rw [e3]
      cases b with
      | true => simp only [if_true]; rw [bitOr_and, bitAnd_m1]; omega
      | false => simp only [Bool.false_eq_true, if_false]; rw [bitOr_and, bitAnd_zero]; omega
    refine ex_assign (ρ' := [(Str.ofString "swept", .val (.lst (bs.map .bool))), (Str.ofString "number", .val (.int ((n * 2 + (if b then 1 else 0) : Nat) : Int))), (Str.ofString "opens", .val (.bool b))]) (ev_call (fn_ior hK _ _) hr (evl_cons (ev_call (fn_ilshift hK (n : Int) 1 (by decide) (by decide) (by omega)) hr (evl_cons (ev_local (by rfl)) (evl_cons ev_int evl_nil))) (evl_cons (ev_type (by rw [hK]; exact no_int P) boot_int (evl_cons (ev_local (by rfl)) evl_nil) (k_int_b)) evl_nil))) (by rw [e2]; rfl) (ex_drop 2 (by rfl))
  · subst hinv
    rw [List.length_map, List.take_length]
    exact ex_return (ev_local (by rfl))

theorem fn__law_line (hK : W.K = hd.heap_39 P) (bs : List Bool) (ns : List Int) (hl : bs.length ≤ 60) (hn : ns ≠ []) (hnl : ns.length ≤ 1000) (hx : ∀ x ∈ ns, 0 ≤ x ∧ x < 1000000) :
    Fn W 2 (Str.ofString "_law_line") [.lst (bs.map .bool), .lst (ns.map .int)] (.lst ((lineT ns 0 bs).map lineD)) := by
  refine fn_intro (f := 124) (k := 1) (names := [Str.ofString "swept", Str.ofString "numbers"]) (by rw [hK]; exact at__law_line P) (by rw [hK]; rfl) (by rw [hK]; rfl) rfl rfl rfl rfl rfl rfl rfl (by decide) rfl (fun vs hv => by
    match vs, hv with
    | [_, _], _ => rfl) (by decide) (by decide) fun A L h₀ O₀ hr => ?_
  have hh := hr.handled
  have hr0 : Room 0 A := hr.mono (by decide)
  refine ex_open evl_nil (fun a => ?_) (by rfl)
  refine ex_assign (ρ' := [(Str.ofString "swept", .val (.lst (bs.map .bool))), (Str.ofString "numbers", .val (.lst (ns.map .int))), (Str.ofString "line", .mu a ([])), (Str.ofString "row", .val (.int 0))]) ev_int (by rfl) ?_
  refine ex_for_gen (ds := bs.map .bool) (fun _ => True) (stores_local (by rfl) (by rfl)) (itr_list (ev_local (by rfl)) (fun d hd => by
      obtain ⟨t, _, rfl⟩ := List.mem_map.mp hd
      rfl) hr0)
    (fun i ρ => ρ = [(Str.ofString "swept", .val (.lst (bs.map .bool))), (Str.ofString "numbers", .val (.lst (ns.map .int))), (Str.ofString "line", .mu a ((lineT ns 0 (bs.take i)).map lineD)), (Str.ofString "row", .val (.int (rowAt (bs.take i) : Nat)))]) rfl (fun _ _ _ => trivial) (fun i d ρi hd' hinv => ?_) (fun ρ' hinv => ?_) (fun v => rfl)
  · subst hinv
    rw [List.getElem?_map] at hd'
    cases hbi : bs[i]? with
    | none => rw [hbi] at hd'; cases hd'
    | some b =>
    rw [hbi] at hd'
    have ed : D.bool b = d := by simpa using hd'
    subst ed
    have hi := at_lt hbi
    have e : bs.take (i + 1) = bs.take i ++ [b] := take_snoc hbi
    have hrow : rowAt (bs.take i) ≤ 60 := by
      have := List.count_le_length (a := true) (l := bs.take i)
      rw [List.length_take] at this
      unfold rowAt; omega
    have hln : (lineT ns 0 (bs.take i)).length ≤ 60 := by rw [lineT_len, List.length_take]; omega
    refine ⟨.nx [(Str.ofString "swept", .val (.lst (bs.map .bool))), (Str.ofString "numbers", .val (.lst (ns.map .int))), (Str.ofString "line", .mu a ((lineT ns 0 (bs.take (i + 1))).map lineD)), (Str.ofString "row", .val (.int (rowAt (bs.take (i + 1)) : Nat)))], ?_, rfl⟩
    have e2 : rowAt (bs.take (i + 1)) = rowAt (bs.take i) + if b then 1 else 0 := by rw [e]; unfold rowAt; rw [List.count_append]; cases b <;> rfl
    rw [e2, e, lineT_snoc, Nat.zero_add]
    generalize rowAt (bs.take i) = rw0 at hrow ⊢
    generalize lineT ns 0 (bs.take i) = ls at hln ⊢
    refine ex_if_both (ρ' := [(Str.ofString "swept", .val (.lst (bs.map .bool))), (Str.ofString "numbers", .val (.lst (ns.map .int))), (Str.ofString "line", .mu a ((ls ++ [if b = true then [Tk.op, Tk.lb (labIx ns rw0)] else [Tk.cl]]).map lineD)), (Str.ofString "row", .val (.int ((rw0 + if b = true then 1 else 0 : Nat) : Int))), (Str.ofString "opens", .val (.bool b))]) (tr_name (ev_local (by rfl))) (fun hb => ?_) (fun hb => ?_) (ex_drop 4 (by rfl))
    · subst hb
      have e3 : (ls ++ [if true = true then [Tk.op, Tk.lb (labIx ns rw0)] else [Tk.cl]]).map lineD = ls.map lineD ++ [.byt (#[40] ++ (lab (labIx ns rw0)).toArray)] := by
        rw [if_pos rfl, List.map_append]; simp [lineD, lineB, Tk.b]
      rw [e3]
      refine ex_append (ρ' := [(Str.ofString "swept", .val (.lst (bs.map .bool))), (Str.ofString "numbers", .val (.lst (ns.map .int))), (Str.ofString "line", .mu a (ls.map lineD ++ [.byt (#[40] ++ (lab (labIx ns rw0)).toArray)])), (Str.ofString "row", .val (.int (rw0 : Nat))), (Str.ofString "opens", .val (.bool true))]) (by rfl) (ev_bin ev_byt (ev_call (fn__law_label hK ns rw0 hn hnl (by omega) hx) hr (evl_cons (ev_local (by rfl)) (evl_cons (ev_local (by rfl)) evl_nil))) (b_add_bb (by
        obtain ⟨l, el, _, hll⟩ := lab_body _ (labIx_lt ns rw0)
        rw [el]; simp; omega))) (by rfl) ?_ (hn := by rw [List.length_map, sizeLine_eq]; omega)
      exact ex_assign (ev_bin (ev_local (by rfl)) ev_int b_add_ii) (by rfl) ex_done
    · subst hb
      have e3 : (ls ++ [if false = true then [Tk.op, Tk.lb (labIx ns rw0)] else [Tk.cl]]).map lineD = ls.map lineD ++ [.byt #[41]] := by
        rw [if_neg (by decide), List.map_append]; simp [lineD, lineB, Tk.b]
      rw [e3]
      exact ex_append (by rfl) ev_byt (by rfl) ex_done (hn := by rw [List.length_map, sizeLine_eq]; omega)
  · subst hinv
    rw [List.length_map, List.take_length]
    refine ex_freeze (x := Str.ofString "line") (by rfl) (by rfl) ?_
    exact ex_return (ev_local (by rfl))


def htSt (bs : List Bool) : Nat → Int
  | 0 => 0
  | i + 1 => htSt bs i + if bs.getD i false then bsum (bs.take i) else 0
theorem lineD_ne (ns : List Int) (j : Nat) : ((lineB [.op, .lb (labIx ns j)]).toList != [41]) = true := by
  simp [lineB, Tk.b]
theorem lineD_eq (ns : List Int) (j : Nat) : ((lineB [.op, .lb (labIx ns j)]).toList == [41]) = false := by
  simp [lineB, Tk.b]
theorem fn__law_heights (hK : W.K = hd.heap_39 P) (bs : List Bool) (ns : List Int) (hl : bs.length ≤ 60) :
    Fn W 2 (Str.ofString "_law_heights") [.lst ((lineT ns 0 bs).map lineD)] (.int (htSt bs bs.length)) := by
  refine fn_intro (f := 131) (k := 1) (names := [Str.ofString "line"]) (by rw [hK]; exact at__law_heights P) (by rw [hK]; rfl) (by rw [hK]; rfl) rfl rfl rfl rfl rfl rfl rfl (by decide) rfl (fun vs hv => by
    match vs, hv with
    | [_], _ => rfl) (by decide) (by decide) fun A L h₀ O₀ hr => ?_
  have hh := hr.handled
  have hr0 : Room 0 A := hr.mono (by decide)
  refine ex_assign (ρ' := [(Str.ofString "line", .val (.lst ((lineT ns 0 bs).map lineD))), (Str.ofString "total", .val (.int 0))]) ev_int (by rfl) ?_
  refine ex_assign (ρ' := [(Str.ofString "line", .val (.lst ((lineT ns 0 bs).map lineD))), (Str.ofString "total", .val (.int 0)), (Str.ofString "text", .val (.byt #[]))]) ev_byt (by rfl) ?_
  refine ex_for_gen (ds := (lineT ns 0 bs).map lineD) (fun _ => True) (stores_local (by rfl) (by rfl)) (itr_list (ev_local (by rfl)) (fun d hd => by
      obtain ⟨t, _, rfl⟩ := List.mem_map.mp hd
      rfl) hr0)
    (fun i ρ => ρ = [(Str.ofString "line", .val (.lst ((lineT ns 0 bs).map lineD))), (Str.ofString "total", .val (.int (htSt bs i))), (Str.ofString "text", .val (.byt (lineB (textOf ns (bs.take i)))))]) rfl (fun _ _ _ => trivial) (fun i d ρi hd' hinv => ?_) (fun ρ' hinv => ?_) (fun v => rfl)
  · subst hinv
    have hi : i < bs.length := by have := at_lt hd'; rwa [List.length_map, lineT_len] at this
    have hbi : bs[i]? = some bs[i] := List.getElem?_eq_getElem hi
    generalize bs[i] = b at hbi
    have e : bs.take (i + 1) = bs.take i ++ [b] := take_snoc hbi
    obtain ⟨ts, hts, hcase⟩ := lineT_get ns bs 0 i b hbi
    rw [List.getElem?_map, hts] at hd'
    have ed : lineD ts = d := by simpa using hd'
    subst ed
    have hgd : bs.getD i false = b := by rw [List.getD_eq_getElem?_getD, hbi]; rfl
    have hst : htSt bs (i + 1) = htSt bs i + if b then bsum (bs.take i) else 0 := by show htSt bs i + _ = _; rw [hgd]
    have htx : lineB (textOf ns (bs.take (i + 1))) = lineB (textOf ns (bs.take i)) ++ lineB ts := by
      have e1 := lineT_take ns bs 0 (i + 1)
      rw [take_snoc hts, lineT_take] at e1
      unfold textOf
      rw [← e1, List.flatten_append]
      simp [lineB]
    have hsz := text_size ns (bs.take i)
    have hsz2 := text_size ns (bs.take (i + 1))
    rw [List.length_take] at hsz hsz2
    rw [htx, Array.size_append] at hsz2
    have hdep := text_dep ns (bs.take i)
    have hstr := text_strip ns (bs.take i)
    refine ⟨.nx [(Str.ofString "line", .val (.lst ((lineT ns 0 bs).map lineD))), (Str.ofString "total", .val (.int (htSt bs (i + 1)))), (Str.ofString "text", .val (.byt (lineB (textOf ns (bs.take (i + 1))))))], ?_, rfl⟩
    rw [hst, htx]
    refine ex_if_both (ρ' := [(Str.ofString "line", .val (.lst ((lineT ns 0 bs).map lineD))), (Str.ofString "total", .val (.int (htSt bs i + if b = true then bsum (bs.take i) else 0))), (Str.ofString "text", .val (.byt (lineB (textOf ns (bs.take i))))), (Str.ofString "piece", .val (lineD ts))]) (b := b) ?_ (fun hb => ?_) (fun hb => ?_) (ex_assign (ρ' := [(Str.ofString "line", .val (.lst ((lineT ns 0 bs).map lineD))), (Str.ofString "total", .val (.int (htSt bs i + if b = true then bsum (bs.take i) else 0))), (Str.ofString "text", .val (.byt (lineB (textOf ns (bs.take i)) ++ lineB ts))), (Str.ofString "piece", .val (lineD ts))]) (ev_bin (ev_local (by rfl)) (ev_local (by rfl)) (b_add_bb (by omega))) (by rfl) (ex_drop 3 (by rfl)))
    · rcases hcase with ⟨rfl, j, rfl⟩ | ⟨rfl, rfl⟩
      · rw [← lineD_ne ns j]
        exact (tr_cmp (ev_local (by rfl)) ev_byt c_ne_bb)
      · exact (tr_cmp (ev_local (by rfl)) ev_byt c_ne_bb)
    · have e5 : (0 : Int) + ((((textOf ns (bs.take i)).flatMap Tk.s).count 40 : Nat) : Int) - (((textOf ns (bs.take i)).flatMap Tk.s).count 41 : Nat) = if b = true then bsum (bs.take i) else 0 := by
        rw [if_pos hb, ← hdep]; omega
      rw [← e5]
      exact ex_assign (ev_call (fn_iadd hK _ _) hr (evl_cons (ev_local (by rfl)) (evl_cons (ev_call (fn__paren_depth1 hK _ _ hstr (by omega)) hr (evl_cons (ev_local (by rfl)) evl_nil)) evl_nil))) (by rfl) ex_done
    · have e5 : (htSt bs i + if b = true then bsum (bs.take i) else 0) = htSt bs i := by rw [hb]; simp
      rw [e5]
      exact ex_done
  · subst hinv
    rw [List.length_map, lineT_len]
    exact ex_return (ev_local (by rfl))

end
end Mine

/-! MF7 -/
namespace Mine
set_option maxRecDepth 100000
open PySem PySem.W PyProof.Rows PySem.Calls PySem.Flt
set_option maxHeartbeats 8000000

def idD : D → D := fun d => d
def pD (q : Int → Bool) : D → Bool
  | .int n => q n
  | _ => false
theorem filt_D (ns : List Int) (q : Int → Bool) : ((ns.map D.int).filter (pD q)).map idD = (ns.filter q).map .int := by
  have e : idD = id := rfl
  rw [e, List.map_id, List.filter_map]
  rfl
def prAt (ds : List Int) (k : Nat) : Nat := (ds.take k).countP fun x => ds.getD k 0 == x || ds.getD k 0 == x + 1
def prSt (ds : List Int) : Nat → Int
  | 0 => 0
  | k + 1 => prSt ds k + prAt ds k
def prOf (ds : List Int) : Int := prSt ds ds.length - ((ds.filter fun d => decide (0 < d)).length : Nat)

theorem fig_app (a b : List Bool) : figStr a ++ figStr b = figStr (a ++ b) := by
  show (⟨(figs a).toArray ++ (figs b).toArray⟩ : Str) = ⟨(figs (a ++ b)).toArray⟩
  simp [figs]
theorem fig_len (a : List Bool) : (figStr a).length = a.length := by
  show ((figs a).toArray).size = _
  simp [figs]
def nearOf (ds : List Int) (k : Int) : List Int := ds.filter fun d => d == k - 1 || d == k
def figsOf (ds : List Int) (k : Int) : List Bool := (((nearOf ds k).drop 1).map (· == k)).reverse
def dueSt (ds : List Int) : Nat → List Bool
  | 0 => List.replicate (ds.count 0) true
  | j + 1 => dueSt ds j ++ [false] ++ figsOf ds (1 + (j : Nat))
def dueOf (ds : List Int) : List Bool := dueSt ds (lmax ds + 1).toNat

section
variable {W : Wd} {P : Params}

theorem fn__law_pairs (hK : W.K = hd.heap_39 P) (ds : List Int) (hl : ds.length ≤ 1000) : Fn W 2 (Str.ofString "_law_pairs") [.lst (ds.map .int)] (.int (prOf ds)) := by
  refine fn_intro (f := 148) (k := 1) (names := [Str.ofString "depths"]) (by rw [hK]; exact at__law_pairs P) (by rw [hK]; rfl) (by rw [hK]; rfl) rfl rfl rfl rfl rfl rfl rfl (by decide) rfl (fun vs hv => by
    match vs, hv with
    | [_], _ => rfl) (by decide) (by decide) fun A L h₀ O₀ hr => ?_
  have hh := hr.handled
  have hr0 : Room 0 A := hr.mono (by decide)
  refine ex_assign (ρ' := [(Str.ofString "depths", .val (.lst (ds.map .int))), (Str.ofString "pairs", .val (.int 0))]) ev_int (by rfl) ?_
  refine ex_for_gen (ds := rangeD 0 ds.length) (fun _ => True) (stores_local (by rfl) (by rfl)) (itr_range1 (by rw [hK]; exact no_range P) (evl_cons (ev_builtin (by rw [hK]; exact no_len P) boot_len (evl_cons (ev_local (by rfl)) evl_nil) (k_len (by simp; omega))) evl_nil) hr0 (by omega) (by simp; omega) (by simp))
    (fun i ρ => ρ = [(Str.ofString "depths", .val (.lst (ds.map .int))), (Str.ofString "pairs", .val (.int (prSt ds i)))]) rfl (fun _ _ _ => trivial) (fun i d ρi hd' hinv => ?_) (fun ρ' hinv => ?_) (fun v => rfl)
  · subst hinv
    obtain ⟨hi, rfl⟩ := rangeD_get hd'
    rw [Int.zero_add]
    have hg : ds.getD i 0 = ds[i] := by simp [hi]
    have h1 : (0 : Int) ≤ (i : Int) := Int.natCast_nonneg _
    have h2 : (i : Int) < 2 ^ 62 := by omega
    have h3 : (ds.map D.int)[(i : Int).toNat]? = some (.int (ds.getD i 0)) := by
      rw [hg, Int.toNat_natCast, List.getElem?_map, List.getElem?_eq_getElem hi]; rfl
    refine ⟨.nx [(Str.ofString "depths", .val (.lst (ds.map .int))), (Str.ofString "pairs", .val (.int (prSt ds (i + 1))))], ?_, rfl⟩
    refine ex_for_gen (ds := (ds.map D.int).take i) (fun _ => True) (stores_local (by rfl) (by rfl)) (itr_list (ev_slice_to (ev_local (by rfl)) (ev_local (by rfl)) (by rfl) (by rw [List.length_map, sizeLine_eq]; omega)) (fun d hd => by
        rw [← List.map_take] at hd
        obtain ⟨t, _, rfl⟩ := List.mem_map.mp hd
        rfl) hr0)
      (fun j ρ => ρ = [(Str.ofString "depths", .val (.lst (ds.map .int))), (Str.ofString "pairs", .val (.int (prSt ds i + (((ds.take i).take j).countP fun x => ds.getD i 0 == x || ds.getD i 0 == x + 1 : Nat)))), (Str.ofString "k", .val (.int i))]) ?_ (fun _ _ _ => trivial) (fun j d ρj hdj hinv => ?_) (fun ρ' hinv => ?_) (fun v => rfl)
    · rw [List.take_zero]; simp; rfl
    · subst hinv
      rw [← List.map_take, List.getElem?_map] at hdj
      cases hx : (ds.take i)[j]? with
      | none => rw [hx] at hdj; cases hdj
      | some x =>
      rw [hx] at hdj
      have ed : D.int x = d := by simpa using hdj
      subst ed
      rw [take_snoc hx, List.countP_append]
      generalize (((ds.take i).take j).countP fun x => ds.getD i 0 == x || ds.getD i 0 == x + 1) = cc at *
      generalize prSt ds i = pp at *
      refine ⟨.nx [(Str.ofString "depths", .val (.lst (ds.map .int))), (Str.ofString "pairs", .val (.int (pp + ((cc + [x].countP (fun x => ds.getD i 0 == x || ds.getD i 0 == x + 1) : Nat) : Int)))), (Str.ofString "k", .val (.int i))], ?_, rfl⟩
      refine ex_if_both (ρ' := [(Str.ofString "depths", .val (.lst (ds.map .int))), (Str.ofString "pairs", .val (.int (pp + ((cc + [x].countP (fun x => ds.getD i 0 == x || ds.getD i 0 == x + 1) : Nat) : Int)))), (Str.ofString "k", .val (.int i)), (Str.ofString "depth", .val (.int x))]) (b := (ds.getD i 0 == x || ds.getD i 0 == x + 1)) (tr_or (tr_cmp (ev_item (ev_local (by rfl)) (ev_local (by rfl)) h1 h2 h3) (ev_local (by rfl)) c_eq_ii) (fun _ => tr_cmp (ev_item (ev_local (by rfl)) (ev_local (by rfl)) h1 h2 h3) (ev_bin (ev_local (by rfl)) ev_int b_add_ii) c_eq_ii)) (fun hb => ?_) (fun hb => ?_) (ex_drop 3 (by rfl))
      · have e : pp + ((cc + [x].countP (fun x => ds.getD i 0 == x || ds.getD i 0 == x + 1) : Nat) : Int) = pp + (cc : Int) + 1 := by
          rw [List.countP_singleton, if_pos hb]; omega
        rw [e]
        exact ex_assign (ev_bin (ev_local (by rfl)) ev_int b_add_ii) (by rfl) ex_done
      · have e : pp + ((cc + [x].countP (fun x => ds.getD i 0 == x || ds.getD i 0 == x + 1) : Nat) : Int) = pp + (cc : Int) := by
          rw [List.countP_singleton, if_neg (by rw [hb]; decide)]; omega
        rw [e]
        exact ex_done
    · subst hinv
      have e : (ds.take i).take ((ds.map D.int).take i).length = ds.take i := by
        rw [← List.map_take, List.length_map, List.take_length]
      rw [e]
      exact ex_drop 2 (by rfl)
  · subst hinv
    rw [rangeD_length]
    have hf := filt_D ds (fun d => decide (0 < d))
    have e : prOf ds = prSt ds ds.length - ((((ds.map D.int).filter (pD fun d => decide (0 < d))).map idD).length : Nat) := by
      rw [hf, List.length_map]; rfl
    rw [e]
    refine ex_return (ev_bin (ev_local (by rfl)) (ev_builtin (by rw [hK]; exact no_len P) boot_len (evl_cons (ev_comp (ds := ds.map .int) (cl := []) (ρc := []) (pD fun d => decide (0 < d)) idD { iter := itr_list (ev_local (by rfl)) (fun d hd => by obtain ⟨t, _, rfl⟩ := List.mem_map.mp hd; rfl) hr0, clos := by rfl, cell := by decide, kind := rfl, names := by decide, hx := by rfl, hxc := rfl, hcl := (fun q hq => nomatch hq), hρc := (fun y sl h => nomatch h), size := by rw [List.length_map, sizeLine_eq]; omega, tests := fun C h₀ O₀ d hd => ?_, elt := fun C h₀ O₀ d hd _ => ev_local (by rfl), imm := fun d hd _ => ?_ } (fun v => rfl)) evl_nil) (k_len ?_)) b_sub_ii)
    · obtain ⟨t, _, rfl⟩ := List.mem_map.mp hd
      exact tr_cmp (ev_local (by rfl)) ev_int c_gt_ii
    · obtain ⟨t, _, rfl⟩ := List.mem_map.mp hd
      rfl
    · rw [hf, List.length_map]
      have := List.length_filter_le (fun d => decide (0 < d)) ds
      omega


theorem mul_fig (n : Nat) (hn : n ≤ 1000) : Txt.mul (figStr [true]) (n : Int) = figStr (List.replicate n true) := by
  have h := mul_one_list 49 (n : Int)
  have e : figStr [true] = ⟨#[49]⟩ := rfl
  rw [e]
  generalize Txt.mul ⟨#[49]⟩ (n : Int) = s at h ⊢
  obtain ⟨cps⟩ := s
  have h2 : cps.toList = List.replicate n 49 := by simpa using h
  have h3 : cps = (List.replicate n 49).toArray := by rw [← h2]
  rw [h3]
  show (⟨_⟩ : Str) = ⟨(figs (List.replicate n true)).toArray⟩
  unfold figs
  rw [List.map_replicate]
  rfl
theorem due_len (ds : List Int) (hl : ds.length ≤ 20) (j : Nat) : (dueSt ds j).length ≤ 20 + 21 * j := by
  induction j with
  | zero =>
    have := List.count_le_length (a := 0) (l := ds)
    simp only [dueSt, List.length_replicate]; omega
  | succ j ih =>
    have h1 : (nearOf ds (1 + (j : Nat))).length ≤ ds.length := List.length_filter_le _ _
    have h2 : (figsOf ds (1 + (j : Nat))).length ≤ 20 := by unfold figsOf; simp; omega
    simp only [dueSt, List.length_append, List.length_singleton]; omega
theorem fn__law_due (hK : W.K = hd.heap_39 P) (ds : List Int) (hl : ds.length ≤ 20) (hne : ds ≠ []) (hmx : 0 ≤ lmax ds ∧ lmax ds ≤ 20) : Fn W 2 (Str.ofString "_law_due") [.lst (ds.map .int)] (.int (bval (true :: dueOf ds) : Nat)) := by
  refine fn_intro_cell (f := 143) (k := 1) (a := Str.ofString "depths") (x := Str.ofString "k") (by rw [hK]; exact at__law_due P) (by rw [hK]; rfl) (by rw [hK]; rfl) rfl rfl rfl rfl rfl rfl rfl (fun v => rfl) rfl (by decide) (by decide) fun A L C h₀ O₀ hr hC => ?_
  have hh := hr.handled
  have hr0 : Room 0 A := hr.mono (by decide)
  have e1 : (Str.ofString "1" : Str) = figStr [true] := by rfl
  have e0 : (Str.ofString "0" : Str) = figStr [false] := by rfl
  have en : (Str.ofString "" : Str) = figStr [] := by rfl
  have hc0 : ds.count 0 ≤ 20 := Nat.le_trans List.count_le_length hl
  refine ex_assign (ρ' := [(Str.ofString "depths", .val (.lst (ds.map .int))), (Str.ofString "text", .val (.str (figStr (true :: dueSt ds 0))))]) (ev_bin ev_str (ev_bin ev_str (ev_count_l (ev_local (by rfl)) ev_int) (b_mul_si (by decide) (by omega) (by omega))) (b_add_ss (by rw [e1, mul_fig _ (by omega), fig_len, fig_len, sizeLine_eq]; simp; omega))) (by rw [e1, mul_fig _ (by omega), fig_app]; rfl) ?_
  refine ex_for_gen (ds := rangeD 1 (lmax ds + 1).toNat) (fun ρ => (ρ.all fun p => p.2.isVal) = true) (stores_cell (by rfl) (by rfl) hC) (itr_range2 (by rw [hK]; exact no_range P) (evl_cons ev_int (evl_cons (ev_bin (ev_builtin (by rw [hK]; exact no_max P) boot_max (evl_cons (ev_local (by rfl)) evl_nil) (k_max_l hh hne)) ev_int b_add_ii) evl_nil)) hr0 (by decide) (by decide) (by omega) (by omega) (by omega))
    (fun i ρ => ρ = [(Str.ofString "depths", .val (.lst (ds.map .int))), (Str.ofString "text", .val (.str (figStr (true :: dueSt ds i))))]) rfl (fun i ρi h => by subst h; rfl) (fun i d ρi hd' hinv => ?_) (fun ρ' hinv => ?_) (fun v => rfl)
  · subst hinv
    obtain ⟨hi, rfl⟩ := rangeD_get hd'
    refine ⟨.nx [(Str.ofString "depths", .val (.lst (ds.map .int))), (Str.ofString "text", .val (.str (figStr (true :: dueSt ds (i + 1)))))], ?_, rfl⟩
    have hdl := due_len ds hl i
    have hdl2 := due_len ds hl (i + 1)
    have est : dueSt ds (i + 1) = dueSt ds i ++ [false] ++ figsOf ds (1 + (i : Nat)) := rfl
    rw [est] at hdl2 ⊢
    generalize dueSt ds i = bs at hdl hdl2 ⊢
    generalize hk : (1 + (i : Nat) : Int) = k at hdl2 ⊢
    have hf := filt_D ds (fun d => d == k - 1 || d == k)
    have hnl : (nearOf ds k).length ≤ 20 := Nat.le_trans (List.length_filter_le _ _) hl
    refine ex_assign_comp (ρ' := [(Str.ofString "depths", .val (.lst (ds.map .int))), (Str.ofString "text", .val (.str (figStr (true :: bs)))), (Str.ofString "k", .val (.int k)), (Str.ofString "near", .val (.lst ((nearOf ds k).map .int)))]) (ds := ds.map .int) (cl := [(Str.ofString "k", C)]) (ρc := [(Str.ofString "k", .val (.int k))]) (pD fun d => d == k - 1 || d == k) idD { iter := itr_list (ev_local (by rfl)) (fun d hd => by obtain ⟨t, _, rfl⟩ := List.mem_map.mp hd; rfl) hr0, clos := by rfl, cell := by decide, kind := rfl, names := by decide, hx := by rfl, hxc := rfl, hcl := (fun q hq => hq), hρc := (fun y sl h => ?_), size := by rw [List.length_map, sizeLine_eq]; omega, tests := fun C h₀ O₀ d hd => ?_, elt := fun C h₀ O₀ d hd _ => ev_local (by rfl), imm := fun d hd _ => ?_ } (by rw [hf]; rfl) ?_ (fun v => rfl) (by rfl)
    · rw [List.lookup_cons] at h
      by_cases e : (y == Str.ofString "k") = true
      · have e' : y = Str.ofString "k" := by simpa using e
        subst e'
        have hsl : sl = .val (.int k) := by simpa using h.symm
        subst hsl
        exact ⟨by decide, by rfl, ⟨_, rfl⟩, C, by rfl, by rfl⟩
      · rw [show (y == Str.ofString "k") = false by simpa using e] at h
        cases h
    · obtain ⟨t, _, rfl⟩ := List.mem_map.mp hd
      exact tr_or (tr_cmp (ev_local (by rfl)) (ev_bin (ev_cell (by rfl)) ev_int b_sub_ii) c_eq_ii) (fun _ => tr_cmp (ev_local (by rfl)) (ev_cell (by rfl)) c_eq_ii)
    · obtain ⟨t, _, rfl⟩ := List.mem_map.mp hd
      rfl
    refine ex_assign (ρ' := [(Str.ofString "depths", .val (.lst (ds.map .int))), (Str.ofString "text", .val (.str (figStr (true :: bs)))), (Str.ofString "k", .val (.int k)), (Str.ofString "near", .val (.lst ((nearOf ds k).map .int))), (Str.ofString "figures", .val (.str (figStr [])))]) ev_str (by rw [en]; rfl) ?_
    refine ex_for_gen (ds := ((nearOf ds k).map D.int).drop 1) (fun _ => True) (stores_local (by rfl) (by rfl)) (itr_list (ev_slice_from (ev_local (by rfl)) ev_int (by rfl) (by rw [List.length_map, sizeLine_eq]; omega)) (fun d hd => by
        rw [← List.map_drop] at hd
        obtain ⟨t, _, rfl⟩ := List.mem_map.mp hd
        rfl) hr0)
      (fun j ρ => ρ = [(Str.ofString "depths", .val (.lst (ds.map .int))), (Str.ofString "text", .val (.str (figStr (true :: bs)))), (Str.ofString "k", .val (.int k)), (Str.ofString "near", .val (.lst ((nearOf ds k).map .int))), (Str.ofString "figures", .val (.str (figStr (((((nearOf ds k).drop 1).take j).map (· == k)).reverse))))]) (by rw [List.take_zero]; rfl) (fun _ _ _ => trivial) (fun j d ρj hdj hinv => ?_) (fun ρ' hinv => ?_) (fun v => rfl)
    · subst hinv
      rw [← List.map_drop, List.getElem?_map] at hdj
      cases hx : ((nearOf ds k).drop 1)[j]? with
      | none => rw [hx] at hdj; cases hdj
      | some x =>
      rw [hx] at hdj
      have ed : D.int x = d := by simpa using hdj
      subst ed
      have hjl := at_lt hx
      rw [List.length_drop] at hjl
      refine ⟨.nx [(Str.ofString "depths", .val (.lst (ds.map .int))), (Str.ofString "text", .val (.str (figStr (true :: bs)))), (Str.ofString "k", .val (.int k)), (Str.ofString "near", .val (.lst ((nearOf ds k).map .int))), (Str.ofString "figures", .val (.str (figStr (((((nearOf ds k).drop 1).take (j + 1)).map (· == k)).reverse))))], ?_, rfl⟩
      have ef : ((((nearOf ds k).drop 1).take (j + 1)).map (· == k)).reverse = [x == k] ++ ((((nearOf ds k).drop 1).take j).map (· == k)).reverse := by
        rw [take_snoc hx, List.map_append, List.reverse_append]; rfl
      have hl2 : (((((nearOf ds k).drop 1).take j).map (· == k)).reverse).length ≤ 20 := by simp; omega
      rw [ef]
      generalize ((((nearOf ds k).drop 1).take j).map (· == k)).reverse = fs at hl2 ⊢
      refine ex_assign (ρ' := [(Str.ofString "depths", .val (.lst (ds.map .int))), (Str.ofString "text", .val (.str (figStr (true :: bs)))), (Str.ofString "k", .val (.int k)), (Str.ofString "near", .val (.lst ((nearOf ds k).map .int))), (Str.ofString "figures", .val (.str (figStr ([x == k] ++ fs)))), (Str.ofString "depth", .val (.int x))]) (ev_bin (ev_ifexp (b := x == k) (d := .str (figStr [x == k])) (tr_cmp (ev_local (by rfl)) (ev_cell (by rfl)) c_eq_ii) ?_) (ev_local (by rfl)) (b_add_ss (by rw [fig_len, fig_len, sizeLine_eq]; simp; omega))) (by rw [fig_app]; rfl) (ex_drop 5 (by rfl))
      cases hxk : (x == k) with
      | true => simp only [if_true]; rw [← e1]; exact ev_str
      | false => simp only [Bool.false_eq_true, if_false]; rw [← e0]; exact ev_str
    · subst hinv
      have e : ((nearOf ds k).drop 1).take (((nearOf ds k).map D.int).drop 1).length = (nearOf ds k).drop 1 := by
        rw [← List.map_drop, List.length_map, List.take_length]
      rw [e]
      have ef : ((((nearOf ds k).drop 1)).map (· == k)).reverse = figsOf ds k := rfl
      rw [ef]
      simp only [List.length_append, List.length_singleton] at hdl2
      refine ex_assign (ρ' := [(Str.ofString "depths", .val (.lst (ds.map .int))), (Str.ofString "text", .val (.str (figStr (true :: (bs ++ [false] ++ figsOf ds k))))), (Str.ofString "k", .val (.int k)), (Str.ofString "near", .val (.lst ((nearOf ds k).map .int))), (Str.ofString "figures", .val (.str (figStr (figsOf ds k))))]) (ev_bin (ev_bin (ev_local (by rfl)) ev_str (b_add_ss (by rw [e0, fig_len, fig_len, sizeLine_eq]; simp; omega))) (ev_local (by rfl)) (b_add_ss (by rw [e0, fig_app, fig_len, fig_len, sizeLine_eq]; simp; omega))) (by rw [e0, fig_app, fig_app]; rfl) (ex_drop 2 (by rfl))
  · subst hinv
    rw [rangeD_length]
    have hdl := due_len ds hl (lmax ds + 1).toNat
    exact ex_return (ev_type (by rw [hK]; exact no_int P) boot_int (evl_cons (ev_local (by rfl)) (evl_cons ev_int evl_nil)) (k_int_two (by show (dueSt ds (lmax ds + 1).toNat).length ≤ 600; omega)))

end
end Mine

/-! MF8 -/
namespace Mine
set_option maxRecDepth 100000
open PySem PySem.W PyProof.Rows PySem.Calls PySem.Flt
set_option maxHeartbeats 8000000

/-- how much of the line is read until the closing behind r others -/
def cutN : Int → List Bool → Nat
  | _, [] => 0
  | r, true :: bs => cutN r bs + 1
  | r, false :: bs => if r = 0 then 0 else cutN (r - 1) bs + 1
def bnStep (bs : List Bool) (rows : Int) (st : Int × Int) : Int × Int :=
  if st.1 = rows then st else
  let p := st.1 + bsum (bs.take (cutN st.1 bs))
  (p, st.2 + (rows - p))
def bnSt (bs : List Bool) (rows : Int) : Nat → Int × Int
  | 0 => (0, 0)
  | i + 1 => bnStep bs rows (bnSt bs rows i)
theorem bn_stays {bs : List Bool} {rows : Int} {i : Nat} (h : (bnSt bs rows i).1 = rows) : ∀ j, bnSt bs rows (i + j) = bnSt bs rows i
  | 0 => rfl
  | j + 1 => by
    show bnStep bs rows (bnSt bs rows (i + j)) = _
    rw [bn_stays h j]
    unfold bnStep
    rw [if_pos h]
def clAt (bs : List Bool) : Nat := bs.count false
def bncOf (bs : List Bool) (rows : Nat) : Int := (bnSt bs rows rows).2

section
variable {W : Wd} {c : Act} {ρ ρ' : Rho}
theorem ex_for_to {x : Str} {px pos : Pos} {iter : Expr} {body rest : List Stmt} {o : Out} {ds : List D} (ok : Rho → Prop) (hst : Stores W c x ok) (hi : Itr W c ρ iter ds) (Inv : Nat → Rho → Prop) (Post : Rho → Prop) (h0 : Inv 0 ρ) (hok : ∀ i ρi, Inv i ρi → ok ρi)
    (step : ∀ i d ρi, ds[i]? = some d → Inv i ρi → ∃ o', Ex W c (setR ρi x (.val d)) body o' ∧ match o' with | .nx ρ' => Inv (i + 1) ρ' | .bk ρ' => Post ρ' | .rt d' => False)
    (done : ∀ ρ', Inv ds.length ρ' → Post ρ') (after : ∀ ρ', Post ρ' → Ex W c ρ' rest o)
    (hs : ∀ v, foldedSetIterable iter c.env v = pure v) : Ex W c ρ (.For (.Name x px) iter body [] pos :: rest) o :=
  ex_for_gen ok hst hi Inv h0 hok (fun i d ρi hd hI => by
    obtain ⟨o', h1, h2⟩ := step i d ρi hd hI
    refine ⟨o', h1, ?_⟩
    cases o' with
    | nx r => exact h2
    | bk r => exact after r h2
    | rt d => exact h2.elim) (fun r hr => after r (done r hr)) hs
end
section
variable {W : Wd} {P : Params}

theorem fn__law_bounces (hK : W.K = hd.heap_39 P) (bs : List Bool) (ns : List Int) (rows : Nat) (hl : bs.length ≤ 60) (hrw : rows ≤ 1000) :
    Fn W 2 (Str.ofString "_law_bounces") [.lst ((lineT ns 0 bs).map lineD), .int (rows : Nat)] (.int (bncOf bs rows)) := by
  refine fn_intro (f := 138) (k := 1) (names := [Str.ofString "line", Str.ofString "rows"]) (by rw [hK]; exact at__law_bounces P) (by rw [hK]; rfl) (by rw [hK]; rfl) rfl rfl rfl rfl rfl rfl rfl (by decide) rfl (fun vs hv => by
    match vs, hv with
    | [_, _], _ => rfl) (by decide) (by decide) fun A L h₀ O₀ hr => ?_
  have hh := hr.handled
  have hr0 : Room 0 A := hr.mono (by decide)
  refine ex_assign (ρ' := [(Str.ofString "line", .val (.lst ((lineT ns 0 bs).map lineD))), (Str.ofString "rows", .val (.int (rows : Nat))), (Str.ofString "total", .val (.int 0))]) ev_int (by rfl) ?_
  refine ex_assign (ρ' := [(Str.ofString "line", .val (.lst ((lineT ns 0 bs).map lineD))), (Str.ofString "rows", .val (.int (rows : Nat))), (Str.ofString "total", .val (.int 0)), (Str.ofString "passed", .val (.int 0))]) ev_int (by rfl) ?_
  refine ex_for_gen (ds := rangeD 0 rows) (fun _ => True) (stores_local (by rfl) (by rfl)) (itr_range1 (by rw [hK]; exact no_range P) (evl_cons (ev_local (by rfl)) evl_nil) hr0 (by omega) (by omega) (by simp))
    (fun i ρ => ρ = [(Str.ofString "line", .val (.lst ((lineT ns 0 bs).map lineD))), (Str.ofString "rows", .val (.int (rows : Nat))), (Str.ofString "total", .val (.int (bnSt bs rows i).2)), (Str.ofString "passed", .val (.int (bnSt bs rows i).1))]) rfl (fun _ _ _ => trivial) (fun i d ρi hd' hinv => ?_) (fun ρ' hinv => ?_) (fun v => rfl)
  · subst hinv
    obtain ⟨hi, rfl⟩ := rangeD_get hd'
    rw [Int.zero_add]
    by_cases hpr : (bnSt bs rows i).1 = rows
    · -- the loop breaks
      refine ⟨.bk [(Str.ofString "line", .val (.lst ((lineT ns 0 bs).map lineD))), (Str.ofString "rows", .val (.int (rows : Nat))), (Str.ofString "total", .val (.int (bnSt bs rows i).2)), (Str.ofString "passed", .val (.int (bnSt bs rows i).1))], ?_, ?_⟩
      · refine ex_if_leave (b := true) ?_ (ex_brk 4 (by rfl)) trivial
        have e : ((bnSt bs rows i).1 == (rows : Int)) = true := by simpa using hpr
        rw [← e]
        exact (tr_cmp (ev_local (by rfl)) (ev_local (by rfl)) c_eq_ii)
      · have e : bncOf bs rows = (bnSt bs rows i).2 := by
          unfold bncOf
          have := bn_stays hpr (rows - i)
          rw [show i + (rows - i) = rows by omega] at this
          rw [this]
        rw [e]
        exact ex_return (ev_local (by rfl))
    · have est : bnSt bs rows (i + 1) = ((bnSt bs rows i).1 + bsum (bs.take (cutN (bnSt bs rows i).1 bs)), (bnSt bs rows i).2 + (rows - ((bnSt bs rows i).1 + bsum (bs.take (cutN (bnSt bs rows i).1 bs))))) := by
        show bnStep bs rows (bnSt bs rows i) = _
        unfold bnStep
        rw [if_neg hpr]
      refine ⟨.nx [(Str.ofString "line", .val (.lst ((lineT ns 0 bs).map lineD))), (Str.ofString "rows", .val (.int (rows : Nat))), (Str.ofString "total", .val (.int (bnSt bs rows (i + 1)).2)), (Str.ofString "passed", .val (.int (bnSt bs rows (i + 1)).1))], ?_, rfl⟩
      rw [est]
      generalize (bnSt bs rows i).1 = pp at hpr ⊢
      generalize (bnSt bs rows i).2 = tt at *
      refine ex_if (ρ' := [(Str.ofString "line", .val (.lst ((lineT ns 0 bs).map lineD))), (Str.ofString "rows", .val (.int (rows : Nat))), (Str.ofString "total", .val (.int tt)), (Str.ofString "passed", .val (.int pp)), (Str.ofString "turn", .val (.int i))]) (b := false) ?_ ⟨ex_done, ?_⟩
      · have e : (pp == (rows : Int)) = false := by simpa using hpr
        rw [← e]
        exact (tr_cmp (ev_local (by rfl)) (ev_local (by rfl)) c_eq_ii)
      refine ex_assign (ρ' := [(Str.ofString "line", .val (.lst ((lineT ns 0 bs).map lineD))), (Str.ofString "rows", .val (.int (rows : Nat))), (Str.ofString "total", .val (.int tt)), (Str.ofString "passed", .val (.int pp)), (Str.ofString "turn", .val (.int i)), (Str.ofString "text", .val (.byt #[]))]) ev_byt (by rfl) ?_
      refine ex_assign (ρ' := [(Str.ofString "line", .val (.lst ((lineT ns 0 bs).map lineD))), (Str.ofString "rows", .val (.int (rows : Nat))), (Str.ofString "total", .val (.int tt)), (Str.ofString "passed", .val (.int pp)), (Str.ofString "turn", .val (.int i)), (Str.ofString "text", .val (.byt #[])), (Str.ofString "closings", .val (.int 0))]) ev_int (by rfl) ?_
      refine ex_for_to (ds := (lineT ns 0 bs).map lineD) (fun _ => True) (stores_local (by rfl) (by rfl)) (itr_list (ev_local (by rfl)) (fun d hd => by
          obtain ⟨t, _, rfl⟩ := List.mem_map.mp hd
          rfl) hr0)
        (fun j ρ => ρ = [(Str.ofString "line", .val (.lst ((lineT ns 0 bs).map lineD))), (Str.ofString "rows", .val (.int (rows : Nat))), (Str.ofString "total", .val (.int tt)), (Str.ofString "passed", .val (.int pp)), (Str.ofString "turn", .val (.int i)), (Str.ofString "text", .val (.byt (lineB (textOf ns (bs.take j))))), (Str.ofString "closings", .val (.int (clAt (bs.take j) : Nat)))] ∧ cutN pp bs = min j bs.length + cutN (pp - (clAt (bs.take j) : Nat)) (bs.drop j)) (fun ρ => ∃ (k : Nat) (c : Int), bs.take k = bs.take (cutN pp bs) ∧ ρ = [(Str.ofString "line", .val (.lst ((lineT ns 0 bs).map lineD))), (Str.ofString "rows", .val (.int (rows : Nat))), (Str.ofString "total", .val (.int tt)), (Str.ofString "passed", .val (.int pp)), (Str.ofString "turn", .val (.int i)), (Str.ofString "text", .val (.byt (lineB (textOf ns (bs.take k))))), (Str.ofString "closings", .val (.int c))]) ⟨by rw [List.take_zero]; rfl, by simp [clAt]⟩ (fun _ _ _ => trivial) (fun j d ρj hdj hinv => ?_) (fun ρ' hinv => ?_) (fun ρ' hpost => ?_) (fun v => rfl)
      · obtain ⟨rfl, hcut⟩ := hinv
        have hj : j < bs.length := by have := at_lt hdj; rwa [List.length_map, lineT_len] at this
        have hbj : bs[j]? = some bs[j] := List.getElem?_eq_getElem hj
        have hdr : bs.drop j = bs[j] :: bs.drop (j + 1) := List.drop_eq_getElem_cons hj
        generalize bs[j] = b at hbj hdr
        have e : bs.take (j + 1) = bs.take j ++ [b] := take_snoc hbj
        obtain ⟨ts, hts, hcase⟩ := lineT_get ns bs 0 j b hbj
        rw [List.getElem?_map, hts] at hdj
        have ed : lineD ts = d := by simpa using hdj
        subst ed
        have htx : lineB (textOf ns (bs.take (j + 1))) = lineB (textOf ns (bs.take j)) ++ lineB ts := by
          have e1 := lineT_take ns bs 0 (j + 1)
          rw [take_snoc hts, lineT_take] at e1
          unfold textOf
          rw [← e1, List.flatten_append]
          simp [lineB]
        have hsz2 := text_size ns (bs.take (j + 1))
        rw [List.length_take, htx, Array.size_append] at hsz2
        rw [hdr] at hcut
        have hcl : clAt (bs.take (j + 1)) = clAt (bs.take j) + if b then 0 else 1 := by
          rw [e]; unfold clAt; rw [List.count_append]; cases b <;> rfl
        rcases hcase with ⟨rfl, jj, rfl⟩ | ⟨rfl, rfl⟩
        · refine ⟨.nx [(Str.ofString "line", .val (.lst ((lineT ns 0 bs).map lineD))), (Str.ofString "rows", .val (.int (rows : Nat))), (Str.ofString "total", .val (.int tt)), (Str.ofString "passed", .val (.int pp)), (Str.ofString "turn", .val (.int i)), (Str.ofString "text", .val (.byt (lineB (textOf ns (bs.take (j + 1)))))), (Str.ofString "closings", .val (.int (clAt (bs.take (j + 1)) : Nat)))], ?_, rfl, ?_⟩
          · rw [htx, hcl]
            refine ex_if (ρ' := [(Str.ofString "line", .val (.lst ((lineT ns 0 bs).map lineD))), (Str.ofString "rows", .val (.int (rows : Nat))), (Str.ofString "total", .val (.int tt)), (Str.ofString "passed", .val (.int pp)), (Str.ofString "turn", .val (.int i)), (Str.ofString "text", .val (.byt (lineB (textOf ns (bs.take j))))), (Str.ofString "closings", .val (.int (clAt (bs.take j) : Nat))), (Str.ofString "piece", .val (lineD [.op, .lb (labIx ns jj)]))]) (b := false) ?_ ⟨ex_done, ?_⟩
            · rw [← lineD_eq ns jj]
              exact (tr_cmp (ev_local (by rfl)) ev_byt c_eq_bb)
            · exact ex_assign (ρ' := [(Str.ofString "line", .val (.lst ((lineT ns 0 bs).map lineD))), (Str.ofString "rows", .val (.int (rows : Nat))), (Str.ofString "total", .val (.int tt)), (Str.ofString "passed", .val (.int pp)), (Str.ofString "turn", .val (.int i)), (Str.ofString "text", .val (.byt (lineB (textOf ns (bs.take j)) ++ lineB [.op, .lb (labIx ns jj)]))), (Str.ofString "closings", .val (.int (clAt (bs.take j) : Nat))), (Str.ofString "piece", .val (lineD [.op, .lb (labIx ns jj)]))]) (ev_bin (ev_local (by rfl)) (ev_local (by rfl)) (b_add_bb (by omega))) (by rfl) (ex_drop 7 (by rfl))
          · rw [hcut, hcl]
            simp only [cutN, if_true, Nat.add_zero]
            omega
        · by_cases hz : pp - ((clAt (bs.take j) : Nat) : Int) = 0
          · -- the line breaks
            refine ⟨.bk [(Str.ofString "line", .val (.lst ((lineT ns 0 bs).map lineD))), (Str.ofString "rows", .val (.int (rows : Nat))), (Str.ofString "total", .val (.int tt)), (Str.ofString "passed", .val (.int pp)), (Str.ofString "turn", .val (.int i)), (Str.ofString "text", .val (.byt (lineB (textOf ns (bs.take j))))), (Str.ofString "closings", .val (.int (clAt (bs.take j) : Nat)))], ?_, ?_⟩
            · refine ex_if_leave (b := true) ?_ (ex_if_leave (b := true) ?_ (ex_brk 7 (by rfl)) trivial) trivial
              · exact (tr_cmp (ev_local (by rfl)) ev_byt c_eq_bb)
              · have e2 : (((clAt (bs.take j) : Nat) : Int) == pp) = true := by simp; omega
                rw [← e2]
                exact (tr_cmp (ev_local (by rfl)) (ev_local (by rfl)) c_eq_ii)
            · refine ⟨j, _, ?_, rfl⟩
              have : cutN pp bs = j := by
                rw [hcut]
                simp only [cutN, if_pos hz]
                omega
              rw [this]
          · refine ⟨.nx [(Str.ofString "line", .val (.lst ((lineT ns 0 bs).map lineD))), (Str.ofString "rows", .val (.int (rows : Nat))), (Str.ofString "total", .val (.int tt)), (Str.ofString "passed", .val (.int pp)), (Str.ofString "turn", .val (.int i)), (Str.ofString "text", .val (.byt (lineB (textOf ns (bs.take (j + 1)))))), (Str.ofString "closings", .val (.int (clAt (bs.take (j + 1)) : Nat)))], ?_, rfl, ?_⟩
            · rw [htx, hcl]
              refine ex_if (ρ' := [(Str.ofString "line", .val (.lst ((lineT ns 0 bs).map lineD))), (Str.ofString "rows", .val (.int (rows : Nat))), (Str.ofString "total", .val (.int tt)), (Str.ofString "passed", .val (.int pp)), (Str.ofString "turn", .val (.int i)), (Str.ofString "text", .val (.byt (lineB (textOf ns (bs.take j))))), (Str.ofString "closings", .val (.int ((clAt (bs.take j) + 1 : Nat) : Int))), (Str.ofString "piece", .val (lineD [.cl]))]) (b := true) ?_ ⟨?_, ?_⟩
              · exact (tr_cmp (ev_local (by rfl)) ev_byt c_eq_bb)
              · refine ex_if (ρ' := [(Str.ofString "line", .val (.lst ((lineT ns 0 bs).map lineD))), (Str.ofString "rows", .val (.int (rows : Nat))), (Str.ofString "total", .val (.int tt)), (Str.ofString "passed", .val (.int pp)), (Str.ofString "turn", .val (.int i)), (Str.ofString "text", .val (.byt (lineB (textOf ns (bs.take j))))), (Str.ofString "closings", .val (.int (clAt (bs.take j) : Nat))), (Str.ofString "piece", .val (lineD [.cl]))]) (b := false) ?_ ⟨ex_done, ?_⟩
                · have e2 : (((clAt (bs.take j) : Nat) : Int) == pp) = false := by simp; omega
                  rw [← e2]
                  exact (tr_cmp (ev_local (by rfl)) (ev_local (by rfl)) c_eq_ii)
                · exact ex_assign (ev_bin (ev_local (by rfl)) ev_int b_add_ii) (by rfl) ex_done
              · exact ex_assign (ρ' := [(Str.ofString "line", .val (.lst ((lineT ns 0 bs).map lineD))), (Str.ofString "rows", .val (.int (rows : Nat))), (Str.ofString "total", .val (.int tt)), (Str.ofString "passed", .val (.int pp)), (Str.ofString "turn", .val (.int i)), (Str.ofString "text", .val (.byt (lineB (textOf ns (bs.take j)) ++ lineB [.cl]))), (Str.ofString "closings", .val (.int ((clAt (bs.take j) + 1 : Nat) : Int))), (Str.ofString "piece", .val (lineD [.cl]))]) (ev_bin (ev_local (by rfl)) (ev_local (by rfl)) (b_add_bb (by omega))) (by rfl) (ex_drop 7 (by rfl))
            · rw [hcut, hcl]
              simp only [cutN, if_neg hz, Bool.false_eq_true, if_false]
              have : pp - ((clAt (bs.take j) : Nat) : Int) - 1 = pp - ((clAt (bs.take j) + 1 : Nat) : Int) := by omega
              rw [this]
              omega
      · obtain ⟨rfl, hcut⟩ := hinv
        rw [List.length_map, lineT_len] at hcut ⊢
        refine ⟨bs.length, _, ?_, rfl⟩
        rw [hcut]
        simp [cutN]
      · obtain ⟨k, c, hk, rfl⟩ := hpost
        have hsz := text_size ns (bs.take k)
        rw [List.length_take] at hsz
        have hdep := text_dep ns (bs.take k)
        have hstr := text_strip ns (bs.take k)
        have e5 : (0 : Int) + ((((textOf ns (bs.take k)).flatMap Tk.s).count 40 : Nat) : Int) - (((textOf ns (bs.take k)).flatMap Tk.s).count 41 : Nat) = bsum (bs.take (cutN pp bs)) := by
          rw [← hk, ← hdep]; omega
        rw [← e5]
        refine ex_assign (ev_call (fn_iadd hK _ _) hr (evl_cons (ev_local (by rfl)) (evl_cons (ev_call (fn__paren_depth1 hK _ _ hstr (by omega)) hr (evl_cons (ev_local (by rfl)) evl_nil)) evl_nil))) (by rfl) ?_
        exact ex_assign (ev_call (fn_iadd hK _ _) hr (evl_cons (ev_local (by rfl)) (evl_cons (ev_call (fn_isub hK _ _) hr (evl_cons (ev_local (by rfl)) (evl_cons (ev_local (by rfl)) evl_nil))) evl_nil))) (by rfl) (ex_drop 4 (by rfl))
  · subst hinv
    rw [rangeD_length]
    exact ex_return (ev_local (by rfl))

end
end Mine

/-! MKas -/
namespace Mine
set_option maxRecDepth 100000
open PySem PySem.W PyProof.Rows

section
variable {keys : List (Int × Int)}
def ltK (keys : List (Int × Int)) (i j : Nat) : Bool := ltP (keys.getD i (0, 0)) (keys.getD j (0, 0))
theorem ltP_trans {a b c : Int × Int} (h1 : ltP a b = true) (h2 : ltP b c = true) : ltP a c = true := by
  unfold ltP at *
  split at h1 <;> split at h2 <;> split <;> simp at * <;> omega
theorem ltP_total {a b : Int × Int} (hne : a ≠ b) (h : ltP a b = false) : ltP b a = true := by
  obtain ⟨a1, a2⟩ := a
  obtain ⟨b1, b2⟩ := b
  unfold ltP at *
  dsimp only at *
  by_cases e : a1 = b1
  · subst e
    have : a2 ≠ b2 := fun e => hne (by rw [e])
    simp at *
    omega
  · rw [if_neg e] at h
    rw [if_neg (Ne.symm e)]
    simp at *
    omega
theorem ltP_irrefl (a : Int × Int) : ltP a a = false := by unfold ltP; simp
theorem runC_ask_eq {γ : Type} (i j : Nat) (k : Bool → KasT γ) : runC keys (.ask i j k) = match keys[i]?, keys[j]? with | some a, some b => if a = b then none else runC keys (k (ltP a b)) | _, _ => none := by
  rw [runC] <;> cases keys[i]? <;> cases keys[j]? <;> rfl
theorem runC_bind {α β : Type} (f : α → KasT β) : ∀ (t : KasT α), runC keys (t.bind f) = (runC keys t).bind fun a => runC keys (f a)
  | .ret a => rfl
  | .ask i j k => by
    show runC keys (.ask i j fun b => (k b).bind f) = _
    have ih := fun b => runC_bind f (k b)
    rw [runC_ask_eq, runC_ask_eq]
    cases keys[i]? with
    | none => rfl
    | some a =>
      cases keys[j]? with
      | none => rfl
      | some b =>
        dsimp only
        by_cases e : a = b
        · rw [if_pos e, if_pos e]; rfl
        · rw [if_neg e, if_neg e]
          exact ih _

variable (hinj : ∀ (i j : Nat) (a : Int × Int), keys[i]? = some a → keys[j]? = some a → i = j)
include hinj
theorem runC_ask {α : Type} {i j : Nat} {k : Bool → KasT α} (hi : i < keys.length) (hj : j < keys.length) (hne : i ≠ j) : runC keys (.ask i j k) = runC keys (k (ltK keys i j)) := by
  have h1 : keys[i]? = some keys[i] := List.getElem?_eq_getElem hi
  have h2 : keys[j]? = some keys[j] := List.getElem?_eq_getElem hj
  have hne' : keys[i] ≠ keys[j] := fun e => hne (hinj i j _ h1 (by rw [h2, e]))
  conv => lhs; unfold runC
  rw [h1, h2]
  dsimp only
  rw [if_neg hne']
  have e1 : keys.getD i (0, 0) = keys[i] := by rw [List.getD_eq_getElem?_getD, h1]; rfl
  have e2 : keys.getD j (0, 0) = keys[j] := by rw [List.getD_eq_getElem?_getD, h2]; rfl
  unfold ltK
  rw [e1, e2]
omit hinj in
theorem ltK_trans {i j k : Nat} (h1 : ltK keys i j = true) (h2 : ltK keys j k = true) : ltK keys i k = true := ltP_trans h1 h2
theorem ltK_total {i j : Nat} (hi : i < keys.length) (hj : j < keys.length) (hne : i ≠ j) (h : ltK keys i j = false) : ltK keys j i = true := by
  refine ltP_total (fun e => hne ?_) h
  have h1 : keys[i]? = some keys[i] := List.getElem?_eq_getElem hi
  have h2 : keys[j]? = some keys[j] := List.getElem?_eq_getElem hj
  rw [List.getD_eq_getElem?_getD, List.getD_eq_getElem?_getD, h1, h2] at e
  exact hinj i j _ h1 (by rw [h2]; exact congrArg some e.symm)

def PermR (n : Nat) (p : Array Nat) : Prop := p.Perm (List.range n).toArray
omit hinj in
theorem PermR.size {n : Nat} {p : Array Nat} (h : PermR n p) : p.size = n := by have := h.size_eq; simpa using this
omit hinj in
theorem PermR.lt {n : Nat} {p : Array Nat} (h : PermR n p) {k : Nat} (hk : k < n) : p.getD k 0 < n := by
  have hs : k < p.size := by rw [h.size]; exact hk
  have hm : p.getD k 0 ∈ p.toList := by simp [Array.getD, hs]
  have := h.toList.mem_iff.mp hm
  simpa using this
omit hinj in
theorem PermR.ne {n : Nat} {p : Array Nat} (h : PermR n p) {j k : Nat} (hj : j < n) (hk : k < n) (hne : j ≠ k) : p.getD j 0 ≠ p.getD k 0 := by
  have hs := h.size
  have hnd : p.toList.Nodup := h.toList.nodup_iff.mpr (by simpa using List.nodup_range)
  intro e
  have h1 : j < p.toList.length := by simp; omega
  have h2 : k < p.toList.length := by simp; omega
  have e1 : p.toList[j] = p.toList[k] := by
    have a1 : p.getD j 0 = p.toList[j] := by simp [Array.getD, hs, hj]
    have a2 : p.getD k 0 = p.toList[k] := by simp [Array.getD, hs, hk]
    rw [← a1, ← a2, e]
  exact hne ((List.getElem_inj hnd).mp e1)

def Srt (keys : List (Int × Int)) (p : Array Nat) (k : Nat) : Prop := ∀ i j, i < j → j < k → ltK keys (p.getD i 0) (p.getD j 0) = true

theorem place_run {p : Array Nat} {k : Nat} (hp : PermR keys.length p) (hk : k < keys.length) (hs : Srt keys p k) : ∀ (f l r : Nat), r - l ≤ f → l ≤ r → r ≤ k → (∀ i, i < l → ltK keys (p.getD i 0) (p.getD k 0) = true) → (∀ i, r ≤ i → i < k → ltK keys (p.getD k 0) (p.getD i 0) = true) →
    ∃ l', runC keys (kas_place p k f l r) = some l' ∧ l' ≤ k ∧ (∀ i, i < l' → ltK keys (p.getD i 0) (p.getD k 0) = true) ∧ (∀ i, l' ≤ i → i < k → ltK keys (p.getD k 0) (p.getD i 0) = true)
  | 0, l, r, hf, hlr, hrk, h1, h2 => ⟨l, rfl, by omega, h1, fun i hi => h2 i (by omega)⟩
  | f + 1, l, r, hf, hlr, hrk, h1, h2 => by
    unfold kas_place
    by_cases hge : l ≥ r
    · rw [if_pos hge]
      exact ⟨l, rfl, by omega, h1, fun i hi => h2 i (by omega)⟩
    · rw [if_neg hge]
      have hm : (l + r) / 2 < r := by omega
      have hml : l ≤ (l + r) / 2 := by omega
      generalize (l + r) / 2 = m at hm hml ⊢
      rw [runC_ask hinj (hp.lt hk) (hp.lt (by omega)) (hp.ne hk (by omega) (by omega))]
      cases hc : ltK keys (p.getD k 0) (p.getD m 0) with
      | true =>
        rw [if_pos rfl]
        refine place_run hp hk hs f l m (by omega) hml (by omega) h1 fun i hi hik => ?_
        by_cases e : i = m
        · rw [e]; exact hc
        · exact ltK_trans hc (hs m i (by omega) hik)
      | false =>
        rw [if_neg (by decide)]
        have hc' := ltK_total hinj (hp.lt hk) (hp.lt (by omega)) (hp.ne hk (by omega) (by omega)) hc
        refine place_run hp hk hs f (m + 1) r (by omega) (by omega) hrk (fun i hi => ?_) h2
        by_cases e : i = m
        · rw [e]; exact hc'
        · exact ltK_trans (hs i m (by omega) (by omega)) hc'

theorem bin_run : ∀ (f : Nat) (p : Array Nat) (k : Nat), PermR keys.length p → k + f = keys.length → Srt keys p k → ∃ p', runC keys (kas_bin f p k) = some p' ∧ PermR keys.length p' ∧ Srt keys p' keys.length
  | 0, p, k, hp, hk, hs => ⟨p, rfl, hp, by rw [← hk]; exact hs⟩
  | f + 1, p, k, hp, hk, hs => by
    unfold kas_bin
    rw [runC_bind]
    obtain ⟨l, hl, hlk, h1, h2⟩ := place_run hinj hp (by omega : k < keys.length) hs k 0 k (by omega) (by omega) (Nat.le_refl _) (fun i hi => by omega) (fun i hi hik => by omega)
    rw [hl]
    show ∃ p', runC keys (kas_bin f (bubble p k (k - l)) (k + 1)) = some p' ∧ _
    have hps : k < p.size := by rw [hp.size]; omega
    refine bin_run f _ (k + 1) (show PermR _ _ from (bubble_perm p k (k - l)).trans hp) (by omega) fun i j hij hjk => ?_
    have key : ∀ x, x ≤ k → (bubble p k (k - l)).getD x 0 = if x = l then p.getD k 0 else if l < x then p.getD (x - 1) 0 else p.getD x 0 := by
      intro x hx
      have hg := getElem?_bubble hps (k - l) (by omega) x
      rw [show k - (k - l) = l by omega] at hg
      have e1 : ∀ (a : Array Nat) (y : Nat), a.getD y 0 = (a[y]?).getD 0 := fun a y => by rw [Array.getD_eq_getD_getElem?]
      rw [e1, hg]
      by_cases e : x = l
      · rw [if_pos e, if_pos e, e1]
      · rw [if_neg e, if_neg e]
        by_cases e2 : l < x
        · rw [if_pos ⟨e2, hx⟩, if_pos e2, e1]
        · rw [if_neg (fun h => e2 h.1), if_neg e2, e1]
    rw [key i (by omega), key j (by omega)]
    by_cases ei : i = l
    · rw [if_pos ei, if_neg (by omega), if_pos (by omega)]
      exact h2 _ (by omega) (by omega)
    · rw [if_neg ei]
      by_cases ej : j = l
      · rw [if_pos ej, if_neg (by omega)]
        exact h1 _ (by omega)
      · rw [if_neg ej]
        by_cases e2 : l < i
        · rw [if_pos e2, if_pos (by omega)]
          exact hs _ _ (by omega) (by omega)
        · rw [if_neg e2]
          by_cases e3 : l < j
          · rw [if_pos e3]
            exact hs _ _ (by omega) (by omega)
          · rw [if_neg e3]
            exact hs _ _ (by omega) (by omega)

theorem asc_run {p : Array Nat} (hp : PermR keys.length p) : ∀ (f n : Nat), 1 ≤ n → n + f = keys.length → Srt keys p n → ∃ m, runC keys (kas_asc p f n) = some m ∧ n ≤ m ∧ m ≤ keys.length ∧ Srt keys p m ∧ (m = n → f = 0 ∨ ltK keys (p.getD n 0) (p.getD (n - 1) 0) = true)
  | 0, n, h1, hn, hs => ⟨n, rfl, Nat.le_refl _, by omega, hs, fun _ => .inl rfl⟩
  | f + 1, n, h1, hn, hs => by
    unfold kas_asc
    rw [runC_ask hinj (hp.lt (by omega)) (hp.lt (by omega)) (hp.ne (by omega) (by omega) (by omega))]
    cases hc : ltK keys (p.getD n 0) (p.getD (n - 1) 0) with
    | true =>
      rw [if_pos rfl]
      exact ⟨n, rfl, Nat.le_refl _, by omega, hs, fun _ => .inr rfl⟩
    | false =>
      rw [if_neg (by decide)]
      have hc' := ltK_total hinj (hp.lt (by omega)) (hp.lt (by omega)) (hp.ne (by omega) (by omega) (by omega)) hc
      obtain ⟨m, hm, h2, h3, h4, _⟩ := asc_run hp f (n + 1) (by omega) (by omega) fun i j hij hj => by
        by_cases e : j = n
        · subst e
          by_cases e2 : i = j - 1
          · rw [e2]; exact hc'
          · exact ltK_trans (hs i (j - 1) (by omega) (by omega)) hc'
        · exact hs i j hij (by omega)
      exact ⟨m, hm, by omega, h3, h4, fun e => by omega⟩

/-- the first two stand in order: the sort runs, and sorts -/
theorem sort_run (h2 : 2 ≤ keys.length) (h01 : ltK keys 0 1 = true) : ∃ p, runC keys (kas_sort keys.length) = some p ∧ PermR keys.length p ∧ Srt keys p keys.length := by
  unfold kas_sort kas_count
  rw [runC_bind, runC_bind]
  have hp : PermR keys.length (List.toArray (List.range keys.length)) := Array.Perm.refl _
  have hg : ∀ i, i < keys.length → (List.toArray (List.range keys.length)).getD i 0 = i := fun i hi => by simp [Array.getD, hi]
  obtain ⟨m, hm, h1m, hml, hsm, hend⟩ := asc_run hinj hp (keys.length - 1) 1 (Nat.le_refl _) (by omega) (fun i j hij hj => by omega)
  have hm2 : 2 ≤ m := by
    rcases Nat.lt_or_ge m 2 with h | h
    · have := hend (by omega)
      rcases this with h' | h'
      · omega
      · rw [hg 1 (by omega), hg (1 - 1) (by omega)] at h'
        have := ltK_trans h01 h'
        unfold ltK at this
        rw [ltP_irrefl] at this
        cases this
    · exact h
  rw [hm]
  have hcnt : runC keys (if (m == keys.length) = true then KasT.ret (m, List.toArray (List.range keys.length)) else if m > 1 then KasT.ask ((List.toArray (List.range keys.length)).getD 0 0) ((List.toArray (List.range keys.length)).getD (m - 1) 0) fun c => if c = true then KasT.ret (m, List.toArray (List.range keys.length)) else kas_descPart m keys.length (kas_rev (List.toArray (List.range keys.length)) 0 m) else kas_descPart m keys.length (List.toArray (List.range keys.length))) = some (m, List.toArray (List.range keys.length)) := by
    by_cases he : (m == keys.length) = true
    · rw [if_pos he]; rfl
    · rw [if_neg he, if_pos (by omega), runC_ask hinj (hp.lt (by omega)) (hp.lt (by omega)) (hp.ne (by omega) (by omega) (by omega)), hsm 0 (m - 1) (by omega) (by omega), if_pos rfl]
      rfl
  rw [Option.bind_some]
  rw [hcnt, Option.bind_some]
  show ∃ p, runC keys (if m < keys.length then kas_bin (keys.length - max m 1) (List.toArray (List.range keys.length)) (max m 1) else KasT.ret (List.toArray (List.range keys.length))) = some p ∧ _
  rw [show max m 1 = m by omega]
  by_cases hlt : m < keys.length
  · rw [if_pos hlt]
    exact bin_run hinj (keys.length - m) _ m hp (by omega) hsm
  · rw [if_neg hlt]
    exact ⟨_, rfl, hp, fun i j h1 h2 => hsm i j h1 (by omega)⟩

omit hinj in
/-- what stands at k has k before it -/
theorem rank_at {p : Array Nat} (hp : PermR keys.length p) (hs : Srt keys p keys.length) {k : Nat} (hk : k < keys.length) : ((List.range keys.length).countP fun j => ltK keys j (p.getD k 0)) = k := by
  have hl : p.toList.length = keys.length := by rw [Array.length_toList]; exact hp.size
  have hperm : p.toList.Perm (List.range keys.length) := by simpa using hp.toList
  rw [← hperm.countP_eq]
  have hsplit : p.toList = p.toList.take k ++ p.toList.drop k := (List.take_append_drop _ _).symm
  have hget : ∀ i (h : i < p.toList.length), p.toList[i] = p.getD i 0 := fun i h => by
    have : i < p.size := by simpa using h
    simp [Array.getD, this]
  rw [hsplit, List.countP_append]
  have h1 : (p.toList.take k).countP (fun j => ltK keys j (p.getD k 0)) = k := by
    rw [List.countP_eq_length.mpr]
    · rw [List.length_take]; omega
    · intro x hx
      obtain ⟨i, hi, rfl⟩ := List.getElem_of_mem hx
      rw [List.length_take] at hi
      rw [List.getElem_take, hget]
      exact hs i k (by omega) hk
  have h2 : (p.toList.drop k).countP (fun j => ltK keys j (p.getD k 0)) = 0 := by
    rw [List.countP_eq_zero]
    intro x hx
    obtain ⟨i, hi, rfl⟩ := List.getElem_of_mem hx
    rw [List.length_drop] at hi
    rw [List.getElem_drop, hget]
    intro hlt
    by_cases e : i = 0
    · subst e
      unfold ltK at hlt
      rw [Nat.add_zero, ltP_irrefl] at hlt
      cases hlt
    · have h3 := hs k (k + i) (by omega) (by omega)
      have h4 := ltK_trans hlt h3
      unfold ltK at h4
      rw [ltP_irrefl] at h4
      cases h4
  rw [h1, h2, Nat.add_zero]
end
end Mine

/-! MOrd -/
namespace Mine
set_option maxRecDepth 100000
open PySem PySem.W

abbrev Evt := Int × Bool
def evD : Evt := (0, false)
def keysOf (es : List Evt) : List (Int × Int) := (List.range es.length).map fun j => ((es.getD j evD).1, -(j : Int))
/-- in the order of the levels, the last places first -/
def outOf (es : List Evt) : List Bool := (List.range 9).flatMap fun (lv : Nat) => ((es.filter fun e => decide (e.1 = (lv : Int))).map (·.2)).reverse

theorem perm_levels (f : Nat → Int) (l : List Nat) (h0 : ∀ i ∈ l, 0 ≤ f i) : ∀ m : Nat, (l.filter fun i => decide (f i < (m : Int))).Perm ((List.range m).flatMap fun (v : Nat) => (l.filter fun i => decide (f i = (v : Int))).reverse) := by
  intro m
  induction m with
  | zero =>
    have : (l.filter fun i => decide (f i < ((0 : Nat) : Int))) = [] := by
      rw [List.filter_eq_nil_iff]
      intro i hi
      have := h0 i hi
      simp; omega
    rw [this]; exact List.Perm.refl _
  | succ m ih =>
    rw [List.range_succ, List.flatMap_append, List.flatMap_cons, List.flatMap_nil, List.append_nil]
    refine List.Perm.trans (List.filter_append_perm (fun i => decide (f i < (m : Int))) _).symm ?_
    refine List.Perm.append ?_ ?_
    · rw [List.filter_filter]
      have : (l.filter fun i => decide (f i < (m : Int)) && decide (f i < ((m + 1 : Nat) : Int))) = l.filter fun i => decide (f i < (m : Int)) := by
        refine List.filter_congr fun i hi => ?_
        by_cases h : f i < (m : Int)
        · have : f i < ((m + 1 : Nat) : Int) := by omega
          simp only [h, this, decide_true, Bool.and_true]
        · simp only [h, decide_false, Bool.false_and]
      rw [this]; exact ih
    · rw [List.filter_filter]
      have : (l.filter fun i => !decide (f i < (m : Int)) && decide (f i < ((m + 1 : Nat) : Int))) = l.filter fun i => decide (f i = (m : Int)) := by
        refine List.filter_congr fun i hi => ?_
        by_cases h : f i = (m : Int)
        · have h1 : ¬ f i < (m : Int) := by omega
          have h2 : f i < ((m + 1 : Nat) : Int) := by omega
          rw [decide_eq_false h1, decide_eq_true h2, decide_eq_true h]; rfl
        · by_cases h1 : f i < (m : Int)
          · simp [h1]; omega
          · have h2 : ¬ f i < ((m + 1 : Nat) : Int) := by omega
            simp only [h1, h2, h, decide_false, Bool.and_false]
      rw [this]
      exact (List.reverse_perm _).symm

def idxOf (es : List Evt) : List Nat := (List.range 9).flatMap fun (lv : Nat) => ((List.range es.length).filter fun i => decide ((es.getD i evD).1 = (lv : Int))).reverse

theorem keys_get {es : List Evt} {i : Nat} (hi : i < es.length) : (keysOf es).getD i (0, 0) = ((es.getD i evD).1, -(i : Int)) := by
  unfold keysOf
  rw [List.getD_eq_getElem?_getD, List.getElem?_map, List.getElem?_range hi]; rfl
theorem keys_len (es : List Evt) : (keysOf es).length = es.length := by simp [keysOf]
theorem keys_inj (es : List Evt) : ∀ (i j : Nat) (a : Int × Int), (keysOf es)[i]? = some a → (keysOf es)[j]? = some a → i = j := by
  intro i j a hi hj
  have h1 : i < es.length := by have := at_lt hi; rwa [keys_len] at this
  have h2 : j < es.length := by have := at_lt hj; rwa [keys_len] at this
  have e1 := keys_get h1
  have e2 := keys_get h2
  rw [List.getD_eq_getElem?_getD, hi] at e1
  rw [List.getD_eq_getElem?_getD, hj] at e2
  have := congrArg Prod.snd (e1.symm.trans e2)
  simp at this
  omega
theorem es_range (es : List Evt) : (List.range es.length).map (fun i => es.getD i evD) = es := by
  refine List.ext_getElem (by simp) fun i h1 h2 => ?_
  simp [h2]
theorem idx_out (es : List Evt) : (idxOf es).map (fun i => (es.getD i evD).2) = outOf es := by
  unfold idxOf outOf
  rw [List.map_flatMap]
  congr 1
  funext lv
  rw [List.map_reverse]
  congr 1
  conv => rhs; rw [← es_range es]
  rw [List.filter_map, List.map_map]
  rfl
theorem mem_idx {es : List Evt} {i : Nat} (h : i ∈ idxOf es) : i < es.length := by
  unfold idxOf at h
  obtain ⟨lv, _, h⟩ := List.mem_flatMap.mp h
  have := (List.mem_filter.mp (List.mem_reverse.mp h)).1
  simpa using this
theorem idx_perm {es : List Evt} (hlv : ∀ e ∈ es, 0 ≤ e.1 ∧ e.1 ≤ 8) : (idxOf es).Perm (List.range es.length) := by
  have hg : ∀ i ∈ List.range es.length, 0 ≤ (es.getD i evD).1 ∧ (es.getD i evD).1 ≤ 8 := fun i hi => by
    have hi' : i < es.length := by simpa using hi
    rw [List.getD_eq_getElem?_getD, List.getElem?_eq_getElem hi']
    exact hlv _ (List.getElem_mem hi')
  have := perm_levels (fun i => (es.getD i evD).1) (List.range es.length) (fun i hi => (hg i hi).1) 9
  have e : ((List.range es.length).filter fun i => decide ((es.getD i evD).1 < ((9 : Nat) : Int))) = List.range es.length := by
    rw [List.filter_eq_self]
    intro i hi
    have := (hg i hi).2
    simp only [decide_eq_true_eq]
    omega
  rw [e] at this
  exact this.symm
theorem idx_sorted (es : List Evt) : (idxOf es).Pairwise fun i j => ltK (keysOf es) i j = true := by
  have hR : ∀ {i j : Nat}, i < es.length → j < es.length → ((es.getD i evD).1 < (es.getD j evD).1 ∨ ((es.getD i evD).1 = (es.getD j evD).1 ∧ j < i)) → ltK (keysOf es) i j = true := by
    intro i j hi hj h
    unfold ltK ltP
    rw [keys_get hi, keys_get hj]
    dsimp only
    rcases h with h | ⟨h, h'⟩
    · rw [if_neg (by omega)]; simpa using h
    · rw [if_pos h]; simp; omega
  unfold idxOf
  rw [List.pairwise_flatMap]
  constructor
  · intro lv _
    rw [List.pairwise_reverse]
    have h1 := (List.pairwise_lt_range (n := es.length)).filter (fun i => decide ((es.getD i evD).1 = (lv : Int)))
    refine List.Pairwise.imp_of_mem (fun {a b} ha hb hab => ?_) h1
    have ha' := List.mem_filter.mp ha
    have hb' := List.mem_filter.mp hb
    have e1 := of_decide_eq_true ha'.2
    have e2 := of_decide_eq_true hb'.2
    exact hR (by simpa using hb'.1) (by simpa using ha'.1) (.inr ⟨by rw [e1, e2], hab⟩)
  · refine List.Pairwise.imp_of_mem (fun {a b} _ _ hab => ?_) (List.pairwise_lt_range (n := 9))
    intro x hx y hy
    have hx' := List.mem_filter.mp (List.mem_reverse.mp hx)
    have hy' := List.mem_filter.mp (List.mem_reverse.mp hy)
    have e1 := of_decide_eq_true hx'.2
    have e2 := of_decide_eq_true hy'.2
    exact hR (by simpa using hx'.1) (by simpa using hy'.1) (.inl (by rw [e1, e2]; omega))

/-- what the sweep tells, sorted -/
theorem sort_out {es : List Evt} (hlv : ∀ e ∈ es, 0 ≤ e.1 ∧ e.1 ≤ 8) (h2 : 2 ≤ es.length) (h01 : ltK (keysOf es) 0 1 = true) :
    ∃ p, runC (keysOf es) (kas_sort es.length) = some p ∧ (p.toList.map fun i => (es[i]?).map (·.2)) = (outOf es).map some := by
  obtain ⟨p, hr, hp, hs⟩ := sort_run (keys_inj es) (by rw [keys_len]; exact h2) h01
  rw [keys_len] at hr hp hs
  refine ⟨p, hr, ?_⟩
  have hpt : p.toList.Perm (List.range es.length) := by simpa using hp.toList
  have hpw : p.toList.Pairwise fun i j => ltK (keysOf es) i j = true := by
    rw [List.pairwise_iff_getElem]
    intro i j hi hj hij
    have e : ∀ k (h : k < p.toList.length), p.toList[k] = p.getD k 0 := fun k h => by
      have : k < p.size := by simpa using h
      simp [Array.getD, this]
    rw [e, e]
    refine hs i j hij ?_
    have := hp.size
    simp at hj; omega
  have heq : p.toList = idxOf es := List.Perm.eq_of_pairwise (le := fun i j => ltK (keysOf es) i j = true) (fun a b _ _ h1 h2 => by
    have := ltP_trans h1 h2
    rw [ltP_irrefl] at this; cases this) hpw (idx_sorted es) (hpt.trans (idx_perm hlv).symm)
  rw [heq, ← idx_out, List.map_map]
  refine List.map_congr_left fun i hi => ?_
  have := mem_idx hi
  simp [this]

/-- heights, in one go -/
def htF : Int → List Bool → Int
  | _, [] => 0
  | d, b :: bs => (if b then d else 0) + htF (d + if b then 1 else -1) bs
theorem htF_snoc (b : Bool) : ∀ (bs : List Bool) (d : Int), htF d (bs ++ [b]) = htF d bs + if b then d + bsum bs else 0
  | [], d => by simp [htF, bsum]
  | x :: bs, d => by
    simp only [List.cons_append, htF, htF_snoc b bs]
    have : bsum (x :: bs) = (if x then 1 else -1) + bsum bs := by simp [bsum]
    rw [this]
    cases b <;> simp <;> omega
theorem htSt_F (bs : List Bool) : ∀ i, i ≤ bs.length → htSt bs i = htF 0 (bs.take i)
  | 0, _ => by simp [htSt, htF]
  | i + 1, h => by
    have hb : bs[i]? = some bs[i] := List.getElem?_eq_getElem (by omega)
    rw [take_snoc hb, htF_snoc]
    show htSt bs i + _ = _
    rw [htSt_F bs i (by omega), List.getD_eq_getElem?_getD, hb, Int.zero_add]
    rfl
theorem htSt_all (bs : List Bool) : htSt bs bs.length = htF 0 bs := by rw [htSt_F bs _ (Nat.le_refl _), List.take_length]
end Mine

/-! MRec -/
namespace Mine
set_option maxRecDepth 100000
open PySem PySem.W

def ieq : Int → Int → Bool
  | .ofNat a, .ofNat b => Nat.beq a b
  | .negSucc a, .negSucc b => Nat.beq a b
  | _, _ => false
theorem ieq_eq (a b : Int) : ieq a b = decide (a = b) := by
  cases a <;> cases b
  · rename_i a b
    show Nat.beq a b = _
    by_cases h : a = b
    · subst h; simp
    · have h1 : Nat.beq a b = false := by
        cases hb : Nat.beq a b with
        | true => exact absurd (Nat.eq_of_beq_eq_true hb) h
        | false => rfl
      rw [h1]
      exact (decide_eq_false (fun e => h (Int.ofNat.inj e))).symm
  · exact (decide_eq_false (fun e => Int.noConfusion e)).symm
  · exact (decide_eq_false (fun e => Int.noConfusion e)).symm
  · rename_i a b
    show Nat.beq a b = _
    by_cases h : a = b
    · subst h; simp
    · have h1 : Nat.beq a b = false := by
        cases hb : Nat.beq a b with
        | true => exact absurd (Nat.eq_of_beq_eq_true hb) h
        | false => rfl
      rw [h1]
      exact (decide_eq_false (fun e => h (Int.negSucc.inj e))).symm

noncomputable def evR (bs : List Bool) : Int → List Evt :=
  @List.rec Bool (fun _ => Int → List Evt) (fun _ => []) (fun b _ ih d => (d, b) :: ih (d + cond b 1 (-1))) bs
theorem evR_eq (bs : List Bool) : ∀ d, evR bs d = evs d bs := by
  induction bs with
  | nil => intro d; rfl
  | cons b bs ih =>
    intro d
    show (d, b) :: evR bs (d + cond b 1 (-1)) = _
    rw [ih]
    cases b <;> rfl
noncomputable def repR (n : Nat) (tl : List Bool) : List Bool := @Nat.rec (fun _ => List Bool) tl (fun _ ih => false :: ih) n
theorem repR_eq (n : Nat) (tl : List Bool) : repR n tl = List.replicate n false ++ tl := by
  induction n with
  | zero => rfl
  | succ n ih => show false :: repR n tl = _; rw [ih]; rfl
noncomputable def skR (ds : List Int) : Int → List Bool :=
  @List.rec Int (fun _ => Int → List Bool) (fun before => repR (before + 1).toNat []) (fun d _ ih before => repR (before - d + 1).toNat (true :: ih d)) ds
theorem skR_eq (ds : List Int) : ∀ k, k ≤ ds.length → (sks ds k).1 ++ skR (ds.drop k) (sks ds k).2 = skR ds (-1)
  | 0, _ => rfl
  | k + 1, h => by
    rw [← skR_eq ds k (by omega)]
    have hd : ds.drop k = ds[k] :: ds.drop (k + 1) := List.drop_eq_getElem_cons h
    have hg : ds.getD k 0 = ds[k] := by rw [List.getD_eq_getElem?_getD, List.getElem?_eq_getElem h]; rfl
    rw [hd]
    show (sks ds k).1 ++ List.replicate ((sks ds k).2 - ds.getD k 0 + 1).toNat false ++ [true] ++ skR (ds.drop (k + 1)) (ds.getD k 0) = (sks ds k).1 ++ repR ((sks ds k).2 - ds[k] + 1).toNat (true :: skR (ds.drop (k + 1)) ds[k])
    rw [hg, repR_eq]
    simp
theorem skOf_R (ds : List Int) : skOf ds = skR ds (-1) := by
  rw [← skR_eq ds ds.length (Nat.le_refl _), List.drop_length]
  show _ = (sks ds ds.length).1 ++ repR ((sks ds ds.length).2 + 1).toNat []
  rw [repR_eq, List.append_nil]
  rfl
noncomputable def selR (lv : Int) (es : List Evt) : List Bool → List Bool :=
  @List.rec Evt (fun _ => List Bool → List Bool) (fun acc => acc) (fun e _ ih acc => ih (cond (ieq e.1 lv) (e.2 :: acc) acc)) es
theorem selR_eq (lv : Int) (es : List Evt) : ∀ acc, selR lv es acc = ((es.filter fun e => decide (e.1 = lv)).map (·.2)).reverse ++ acc := by
  induction es with
  | nil => intro acc; rfl
  | cons e es ih =>
    intro acc
    show selR lv es (cond (ieq e.1 lv) (e.2 :: acc) acc) = _
    rw [ih, List.filter_cons, ieq_eq]
    cases decide (e.1 = lv) <;> simp
noncomputable def outR (es : List Evt) : List Bool := selR 0 es (selR 1 es (selR 2 es (selR 3 es (selR 4 es (selR 5 es (selR 6 es (selR 7 es (selR 8 es []))))))))
theorem outR_eq (es : List Evt) : outR es = outOf es := by
  unfold outR outOf
  have e : List.range 9 = [0, 1, 2, 3, 4, 5, 6, 7, 8] := by decide
  rw [e]
  simp only [selR_eq, List.flatMap_cons, List.flatMap_nil, List.append_nil, List.append_assoc]
  rfl
noncomputable def beqR (xs : List Bool) : List Bool → Bool :=
  @List.rec Bool (fun _ => List Bool → Bool) (fun ys => ys.isEmpty) (fun x _ ih ys => match ys with | [] => false | y :: ys => cond (x == y) (ih ys) false) xs
theorem beqR_eq (xs : List Bool) : ∀ ys, beqR xs ys = true → xs = ys := by
  induction xs with
  | nil => intro ys h; cases ys with
    | nil => rfl
    | cons y ys => cases h
  | cons x xs ih =>
    intro ys h
    cases ys with
    | nil => cases h
    | cons y ys =>
      have h' : cond (x == y) (beqR xs ys) false = true := h
      cases e : (x == y) with
      | false => rw [e] at h'; cases h'
      | true =>
        rw [e] at h'
        rw [ih ys h', eq_of_beq e]
noncomputable def allR (p : Int → Bool) (es : List Evt) : Bool := @List.rec Evt (fun _ => Bool) true (fun e _ ih => cond (p e.1) ih false) es
theorem allR_eq {p : Int → Bool} (es : List Evt) : allR p es = true → ∀ e ∈ es, p e.1 = true := by
  induction es with
  | nil => intro _ e he; cases he
  | cons x es ih =>
    intro h e he
    have h' : cond (p x.1) (allR p es) false = true := h
    cases q : p x.1 with
    | false => rw [q] at h'; cases h'
    | true =>
      rw [q] at h'
      rcases List.mem_cons.mp he with e1 | he
      · rw [e1]; exact q
      · exact ih h' e he
def lvOk : Int → Bool
  | .ofNat n => Nat.ble n 8
  | .negSucc _ => false
theorem lvOk_eq {i : Int} (h : lvOk i = true) : 0 ≤ i ∧ i ≤ 8 := by
  cases i with
  | ofNat n =>
    have : n ≤ 8 := Nat.le_of_ble_eq_true h
    exact ⟨Int.natCast_nonneg _, by show (n : Int) ≤ 8; omega⟩
  | negSucc n => cases h
end Mine

/-! MRec2 -/
namespace Mine
set_option maxRecDepth 100000
open PySem PySem.W

noncomputable def htR (bs : List Bool) : Int → Int :=
  @List.rec Bool (fun _ => Int → Int) (fun _ => 0) (fun b _ ih d => cond b (d + ih (d + 1)) (ih (d + (-1)))) bs
theorem htR_eq (bs : List Bool) : ∀ d, htR bs d = htF d bs := by
  induction bs with
  | nil => intro d; rfl
  | cons b bs ih =>
    intro d
    cases b with
    | true => show d + htR bs (d + 1) = _; rw [ih]; rfl
    | false => show htR bs (d + (-1)) = _; rw [ih]; simp [htF]

noncomputable def cntR (d : Int) (l : List Int) : Nat := @List.rec Int (fun _ => Nat) 0 (fun x _ ih => cond (ieq d x || ieq d (x + 1)) (ih + 1) ih) l
theorem cntR_eq (d : Int) (l : List Int) : cntR d l = l.countP fun x => d == x || d == x + 1 := by
  induction l with
  | nil => rfl
  | cons x l ih =>
    show cond (ieq d x || ieq d (x + 1)) (cntR d l + 1) (cntR d l) = _
    rw [ih, List.countP_cons, ieq_eq, ieq_eq]
    have e1 : decide (d = x) = (d == x) := rfl
    have e2 : decide (d = x + 1) = (d == x + 1) := rfl
    rw [e1, e2]
    cases (d == x || d == x + 1) <;> simp
noncomputable def prR (ds : List Int) : List Int → Nat :=
  @List.rec Int (fun _ => List Int → Nat) (fun _ => 0) (fun d _ ih pre => cntR d pre + ih (d :: pre)) ds
theorem prR_eq (ds : List Int) : ∀ k, k ≤ ds.length → prSt ds k + (prR (ds.drop k) (ds.take k).reverse : Nat) = (prR ds [] : Nat)
  | 0, _ => by show (0 : Int) + _ = _; rw [Int.zero_add]; rfl
  | k + 1, h => by
    rw [← prR_eq ds k (by omega)]
    have hd : ds.drop k = ds[k] :: ds.drop (k + 1) := List.drop_eq_getElem_cons h
    have hg : ds.getD k 0 = ds[k] := by rw [List.getD_eq_getElem?_getD, List.getElem?_eq_getElem h]; rfl
    have ht : (ds.take (k + 1)).reverse = ds[k] :: (ds.take k).reverse := by
      rw [take_snoc (List.getElem?_eq_getElem h), List.reverse_append]; rfl
    rw [hd, ht]
    show prSt ds k + (prAt ds k : Nat) + _ = prSt ds k + ((cntR ds[k] (ds.take k).reverse + prR (ds.drop (k + 1)) (ds[k] :: (ds.take k).reverse) : Nat) : Int)
    have : cntR ds[k] (ds.take k).reverse = prAt ds k := by
      rw [cntR_eq, List.countP_reverse]
      unfold prAt
      rw [hg]
    rw [this]
    omega
theorem prOf_R (ds : List Int) : prOf ds = (prR ds [] : Nat) - ((ds.filter fun d => decide (0 < d)).length : Nat) := by
  unfold prOf
  rw [← prR_eq ds ds.length (Nat.le_refl _), List.drop_length]
  show _ = prSt ds ds.length + ((0 : Nat) : Int) - _
  omega

noncomputable def figsR (k : Int) (ds : List Int) : Bool → List Bool → List Bool :=
  @List.rec Int (fun _ => Bool → List Bool → List Bool) (fun _ acc => acc) (fun d _ ih seen acc => cond (ieq d (k - 1) || ieq d k) (cond seen (ih true (ieq d k :: acc)) (ih true acc)) (ih seen acc)) ds
theorem near_cons (d : Int) (ds : List Int) (k : Int) : nearOf (d :: ds) k = if (ieq d (k - 1) || ieq d k) = true then d :: nearOf ds k else nearOf ds k := by
  unfold nearOf
  rw [List.filter_cons, ieq_eq, ieq_eq]
  rfl
theorem figsR_true (k : Int) (ds : List Int) : ∀ acc, figsR k ds true acc = ((nearOf ds k).map (· == k)).reverse ++ acc := by
  induction ds with
  | nil => intro acc; rfl
  | cons d ds ih =>
    intro acc
    show cond (ieq d (k - 1) || ieq d k) (figsR k ds true (ieq d k :: acc)) (figsR k ds true acc) = _
    rw [near_cons, ih, ih]
    cases (ieq d (k - 1) || ieq d k) with
    | true => rw [if_pos rfl, ieq_eq]; simp; rfl
    | false => rw [if_neg (by decide)]; rfl
theorem figsR_false (k : Int) (ds : List Int) : ∀ acc, figsR k ds false acc = figsOf ds k ++ acc := by
  induction ds with
  | nil => intro acc; rfl
  | cons d ds ih =>
    intro acc
    show cond (ieq d (k - 1) || ieq d k) (figsR k ds true acc) (figsR k ds false acc) = _
    unfold figsOf
    rw [near_cons]
    cases (ieq d (k - 1) || ieq d k) with
    | true => rw [if_pos rfl]; exact figsR_true k ds acc
    | false => rw [if_neg (by decide)]; exact ih acc
noncomputable def dueD (ds : List Int) (n : Nat) : Int → List Bool :=
  @Nat.rec (fun _ => Int → List Bool) (fun _ => []) (fun _ ih k => false :: figsR k ds false (ih (k + 1))) n
theorem dueD_eq (ds : List Int) : ∀ (n j : Nat), dueSt ds j ++ dueD ds n (1 + (j : Int)) = dueSt ds (j + n)
  | 0, j => by show dueSt ds j ++ [] = _; rw [List.append_nil]; rfl
  | n + 1, j => by
    show dueSt ds j ++ (false :: figsR (1 + (j : Int)) ds false (dueD ds n (1 + (j : Int) + 1))) = _
    rw [figsR_false]
    have e : (1 + (j : Int) + 1) = 1 + ((j + 1 : Nat) : Int) := by omega
    rw [e, show j + (n + 1) = (j + 1) + n by omega, ← dueD_eq ds n (j + 1)]
    show _ = dueSt ds j ++ [false] ++ figsOf ds (1 + (j : Nat)) ++ _
    simp
noncomputable def dueR (ds : List Int) : List Bool := List.replicate (ds.count 0) true ++ dueD ds (lmax ds + 1).toNat 1
theorem dueR_eq (ds : List Int) : dueR ds = dueOf ds := by
  have := dueD_eq ds (lmax ds + 1).toNat 0
  rw [Nat.zero_add] at this
  exact this

noncomputable def cutR (bs : List Bool) : Int → Int :=
  @List.rec Bool (fun _ => Int → Int) (fun _ => 0) (fun b _ ih r => cond b (1 + ih r) (cond (ieq r 0) 0 (-1 + ih (r - 1)))) bs
theorem cutR_eq (bs : List Bool) : ∀ r, cutR bs r = bsum (bs.take (cutN r bs)) := by
  induction bs with
  | nil => intro r; rfl
  | cons b bs ih =>
    intro r
    cases b with
    | true =>
      show 1 + cutR bs r = _
      rw [ih]
      show _ = bsum ((true :: bs).take (cutN r bs + 1))
      rw [List.take_succ_cons]
      simp [bsum]
    | false =>
      show cond (ieq r 0) 0 (-1 + cutR bs (r - 1)) = _
      rw [ieq_eq]
      by_cases h : r = 0
      · rw [decide_eq_true h]
        show (0 : Int) = bsum ((false :: bs).take (if r = 0 then 0 else _))
        rw [if_pos h]; rfl
      · rw [decide_eq_false h]
        show -1 + cutR bs (r - 1) = bsum ((false :: bs).take (if r = 0 then 0 else cutN (r - 1) bs + 1))
        rw [if_neg h, List.take_succ_cons, ih]
        simp [bsum]
noncomputable def bnR (bs : List Bool) (rows : Int) (n : Nat) : Int → Int → Int :=
  @Nat.rec (fun _ => Int → Int → Int) (fun _ t => t) (fun _ ih p t => cond (ieq p rows) t (ih (p + cutR bs p) (t + (rows - (p + cutR bs p))))) n
theorem bnR_eq (bs : List Bool) (rows : Int) : ∀ (n i : Nat), bnR bs rows n (bnSt bs rows i).1 (bnSt bs rows i).2 = (bnSt bs rows (i + n)).2
  | 0, i => rfl
  | n + 1, i => by
    show cond (ieq (bnSt bs rows i).1 rows) (bnSt bs rows i).2 (bnR bs rows n ((bnSt bs rows i).1 + cutR bs (bnSt bs rows i).1) ((bnSt bs rows i).2 + (rows - ((bnSt bs rows i).1 + cutR bs (bnSt bs rows i).1)))) = _
    rw [ieq_eq]
    by_cases h : (bnSt bs rows i).1 = rows
    · rw [decide_eq_true h, bn_stays h (n + 1)]; rfl
    · rw [decide_eq_false h, show i + (n + 1) = (i + 1) + n by omega, ← bnR_eq bs rows n (i + 1)]
      have e : bnSt bs rows (i + 1) = ((bnSt bs rows i).1 + cutR bs (bnSt bs rows i).1, (bnSt bs rows i).2 + (rows - ((bnSt bs rows i).1 + cutR bs (bnSt bs rows i).1))) := by
        show bnStep bs rows (bnSt bs rows i) = _
        unfold bnStep
        rw [if_neg h, cutR_eq]
      rw [e]; rfl
theorem bncOf_R (bs : List Bool) (rows : Nat) : bncOf bs rows = bnR bs rows rows 0 0 := by
  have := bnR_eq bs rows rows 0
  rw [Nat.zero_add] at this
  exact this.symm

/-- the check, for the kernel -/
noncomputable def chkE (ds : List Int) (es : List Evt) (bs : List Bool) : Bool :=
  allR lvOk es && Nat.ble 2 es.length && Nat.ble es.length 60 && ltK (keysOf es) 0 1 && beqR (outR es) bs && ieq (htR bs 0) ((prR ds [] : Nat) - ((ds.filter fun d => decide (0 < d)).length : Nat)) && ieq (bnR bs ds.length ds.length 0 0) ds.sum
noncomputable def chkQ (ds : List Int) : Bool :=
  ds.all (fun d => decide (0 ≤ d) && decide (d ≤ 100)) && Nat.ble ds.length 20 && lvOk (lmax ds) && chkE ds (evR (skR ds (-1)) 0) (dueR ds)
end Mine

/-! MChk -/
namespace Mine
set_option maxRecDepth 1000000
open PySem PySem.W

noncomputable def chkFrom : Nat → Int → List Int → Bool
  | 0, last, ds => chkQ ds
  | n + 1, last, ds => (List.range (last + 2).toNat).all fun x => chkFrom n x (ds ++ [(x : Int)])
theorem chk4 : chkFrom 4 0 [0] = true := by decide +kernel
theorem chk5 : chkFrom 5 0 [0] = true := by decide +kernel
theorem chk6_000 : chkFrom 4 0 [0, 0, 0] = true := by decide +kernel
theorem chk6_001 : chkFrom 4 1 [0, 0, 1] = true := by decide +kernel
theorem chk6_010 : chkFrom 4 0 [0, 1, 0] = true := by decide +kernel
theorem chk6_011 : chkFrom 4 1 [0, 1, 1] = true := by decide +kernel
theorem chk6_012 : chkFrom 4 2 [0, 1, 2] = true := by decide +kernel
theorem chk7_0000 : chkFrom 4 0 [0, 0, 0, 0] = true := by decide +kernel
theorem chk7_0001 : chkFrom 4 1 [0, 0, 0, 1] = true := by decide +kernel
theorem chk7_0010 : chkFrom 4 0 [0, 0, 1, 0] = true := by decide +kernel
theorem chk7_0011 : chkFrom 4 1 [0, 0, 1, 1] = true := by decide +kernel
theorem chk7_0012 : chkFrom 4 2 [0, 0, 1, 2] = true := by decide +kernel
theorem chk7_0100 : chkFrom 4 0 [0, 1, 0, 0] = true := by decide +kernel
theorem chk7_0101 : chkFrom 4 1 [0, 1, 0, 1] = true := by decide +kernel
theorem chk7_0110 : chkFrom 4 0 [0, 1, 1, 0] = true := by decide +kernel
theorem chk7_0111 : chkFrom 4 1 [0, 1, 1, 1] = true := by decide +kernel
theorem chk7_0112 : chkFrom 4 2 [0, 1, 1, 2] = true := by decide +kernel
theorem chk7_0120 : chkFrom 4 0 [0, 1, 2, 0] = true := by decide +kernel
theorem chk7_0121 : chkFrom 4 1 [0, 1, 2, 1] = true := by decide +kernel
theorem chk7_0122 : chkFrom 4 2 [0, 1, 2, 2] = true := by decide +kernel
theorem chk7_0123 : chkFrom 4 3 [0, 1, 2, 3] = true := by decide +kernel
end Mine

/-! MCol -/
namespace Mine
set_option maxRecDepth 1000000
open PySem PySem.W PySem.Flt
def colOf (a : Int) : UInt64 := Float64.sub F1 (divF a 2)
def shutOf (b : Int) : UInt64 := Float64.add Fh (divF b 4)
def ckL (u : Int) (o : Bool) (col shut : UInt64) : List Int → Bool
  | [r, g, b] => dcOk col shut [r, g, b] && decide ((dcH (dcOf r g b)).fmod 12 = u.fmod 12) && ((dcMost (dcOf r g b) == 64) == o)
  | _ => false
def ckU (col shut : UInt64) (o : Bool) (u : Nat) : Bool := lampOk (u : Int) col (litOf shut o) && ckL (u : Int) o col shut (lampAt (u : Int) col (litOf shut o))
theorem col_00t : (List.range 20).all (ckU (colOf 0) (shutOf 0) true) = true := by decide +kernel
theorem col_00f : (List.range 20).all (ckU (colOf 0) (shutOf 0) false) = true := by decide +kernel
theorem col_01t : (List.range 20).all (ckU (colOf 0) (shutOf 1) true) = true := by decide +kernel
theorem col_01f : (List.range 20).all (ckU (colOf 0) (shutOf 1) false) = true := by decide +kernel
theorem col_10t : (List.range 20).all (ckU (colOf 1) (shutOf 0) true) = true := by decide +kernel
theorem col_10f : (List.range 20).all (ckU (colOf 1) (shutOf 0) false) = true := by decide +kernel
theorem col_11t : (List.range 20).all (ckU (colOf 1) (shutOf 1) true) = true := by decide +kernel
theorem col_11f : (List.range 20).all (ckU (colOf 1) (shutOf 1) false) = true := by decide +kernel
theorem col_all {a b : Int} (ha : a = 0 ∨ a = 1) (hb : b = 0 ∨ b = 1) (o : Bool) {u : Nat} (hu : u < 20) : ckU (colOf a) (shutOf b) o u = true := by
  have hm : u ∈ List.range 20 := List.mem_range.mpr hu
  rcases ha with rfl | rfl <;> rcases hb with rfl | rfl <;> cases o
  · exact List.all_eq_true.mp col_00f u hm
  · exact List.all_eq_true.mp col_00t u hm
  · exact List.all_eq_true.mp col_01f u hm
  · exact List.all_eq_true.mp col_01t u hm
  · exact List.all_eq_true.mp col_10f u hm
  · exact List.all_eq_true.mp col_10t u hm
  · exact List.all_eq_true.mp col_11f u hm
  · exact List.all_eq_true.mp col_11t u hm
end Mine

/-! MPlain -/
namespace Mine
set_option maxRecDepth 100000
open PySem PySem.W PyProof.Rows PySem.Calls PySem.Flt

theorem chkFrom_of (n : Nat) (last : Int) (ds : List Int) (h : ∀ x : Nat, x < (last + 2).toNat → chkFrom n x (ds ++ [(x : Int)]) = true) : chkFrom (n + 1) last ds = true :=
  List.all_eq_true.mpr fun x hx => h x (List.mem_range.mp hx)
theorem chk6_00 : chkFrom 5 0 [0, 0] = true := chkFrom_of 4 0 [0, 0] fun x hx => by
  have hx' : x < 2 := hx
  have hc : x = 0 ∨ x = 1 := by omega
  rcases hc with rfl | rfl
  · exact chk6_000
  · exact chk6_001
theorem chk6_01 : chkFrom 5 1 [0, 1] = true := chkFrom_of 4 1 [0, 1] fun x hx => by
  have hx' : x < 3 := hx
  have hc : x = 0 ∨ x = 1 ∨ x = 2 := by omega
  rcases hc with rfl | rfl | rfl
  · exact chk6_010
  · exact chk6_011
  · exact chk6_012
theorem chk6 : chkFrom 6 0 [0] = true := chkFrom_of 5 0 [0] fun x hx => by
  have hx' : x < 2 := hx
  have hc : x = 0 ∨ x = 1 := by omega
  rcases hc with rfl | rfl
  · exact chk6_00
  · exact chk6_01
theorem chk7_000 : chkFrom 5 0 [0, 0, 0] = true := chkFrom_of 4 0 [0, 0, 0] fun x hx => by
  have hx' : x < 2 := hx
  have hc : x = 0 ∨ x = 1 := by omega
  rcases hc with rfl | rfl
  · exact chk7_0000
  · exact chk7_0001
theorem chk7_001 : chkFrom 5 1 [0, 0, 1] = true := chkFrom_of 4 1 [0, 0, 1] fun x hx => by
  have hx' : x < 3 := hx
  have hc : x = 0 ∨ x = 1 ∨ x = 2 := by omega
  rcases hc with rfl | rfl | rfl
  · exact chk7_0010
  · exact chk7_0011
  · exact chk7_0012
theorem chk7_00 : chkFrom 6 0 [0, 0] = true := chkFrom_of 5 0 [0, 0] fun x hx => by
  have hx' : x < 2 := hx
  have hc : x = 0 ∨ x = 1 := by omega
  rcases hc with rfl | rfl
  · exact chk7_000
  · exact chk7_001
theorem chk7_010 : chkFrom 5 0 [0, 1, 0] = true := chkFrom_of 4 0 [0, 1, 0] fun x hx => by
  have hx' : x < 2 := hx
  have hc : x = 0 ∨ x = 1 := by omega
  rcases hc with rfl | rfl
  · exact chk7_0100
  · exact chk7_0101
theorem chk7_011 : chkFrom 5 1 [0, 1, 1] = true := chkFrom_of 4 1 [0, 1, 1] fun x hx => by
  have hx' : x < 3 := hx
  have hc : x = 0 ∨ x = 1 ∨ x = 2 := by omega
  rcases hc with rfl | rfl | rfl
  · exact chk7_0110
  · exact chk7_0111
  · exact chk7_0112
theorem chk7_012 : chkFrom 5 2 [0, 1, 2] = true := chkFrom_of 4 2 [0, 1, 2] fun x hx => by
  have hx' : x < 4 := hx
  have hc : x = 0 ∨ x = 1 ∨ x = 2 ∨ x = 3 := by omega
  rcases hc with rfl | rfl | rfl | rfl
  · exact chk7_0120
  · exact chk7_0121
  · exact chk7_0122
  · exact chk7_0123
theorem chk7_01 : chkFrom 6 1 [0, 1] = true := chkFrom_of 5 1 [0, 1] fun x hx => by
  have hx' : x < 3 := hx
  have hc : x = 0 ∨ x = 1 ∨ x = 2 := by omega
  rcases hc with rfl | rfl | rfl
  · exact chk7_010
  · exact chk7_011
  · exact chk7_012
theorem chk7 : chkFrom 7 0 [0] = true := chkFrom_of 6 0 [0] fun x hx => by
  have hx' : x < 2 := hx
  have hc : x = 0 ∨ x = 1 := by omega
  rcases hc with rfl | rfl
  · exact chk7_00
  · exact chk7_01

/-- the depths -/
def dpS (ns : List Int) : Nat → List Int × Int
  | 0 => ([], 0)
  | i + 1 => ((dpS ns i).1 ++ [(dpS ns i).2], (ns.getD i 0).fmod ((dpS ns i).2 + 2))
def dpAt (ns : List Int) (i : Nat) : List Int := (dpS ns i).1 ++ [(dpS ns i).2]
def dsOf (ns : List Int) : List Int := dpAt ns ns.length
theorem dpAt_succ (ns : List Int) (i : Nat) : dpAt ns (i + 1) = dpAt ns i ++ [(ns.getD i 0).fmod ((dpS ns i).2 + 2)] := rfl
theorem dp_len (ns : List Int) (i : Nat) : (dpAt ns i).length = i + 1 := by
  induction i with
  | zero => rfl
  | succ i ih => rw [dpAt_succ, List.length_append, ih]; rfl
theorem dp_nonneg (ns : List Int) (i : Nat) : 0 ≤ (dpS ns i).2 := by
  induction i with
  | zero => exact Int.le_refl _
  | succ i ih => exact Int.fmod_nonneg_of_pos _ (by omega)
theorem dp_path (ns : List Int) (m : Nat) (h : chkFrom m 0 [0] = true) : ∀ i, i ≤ m → chkFrom (m - i) (dpS ns i).2 (dpAt ns i) = true
  | 0, _ => h
  | i + 1, hi => by
    have ih := dp_path ns m h i (by omega)
    rw [show m - i = (m - (i + 1)) + 1 by omega] at ih
    have h0 := dp_nonneg ns i
    have h1 : 0 ≤ (ns.getD i 0).fmod ((dpS ns i).2 + 2) := Int.fmod_nonneg_of_pos _ (by omega)
    have h2 : (ns.getD i 0).fmod ((dpS ns i).2 + 2) < (dpS ns i).2 + 2 := Int.fmod_lt_of_pos _ (by omega)
    have := List.all_eq_true.mp ih ((ns.getD i 0).fmod ((dpS ns i).2 + 2)).toNat (List.mem_range.mpr (by omega))
    rw [Int.toNat_of_nonneg h1] at this
    exact this
theorem ds_chk (ns : List Int) (h4 : 4 ≤ ns.length) (h7 : ns.length ≤ 7) : chkQ (dsOf ns) = true := by
  have hm : chkFrom ns.length 0 [0] = true := by
    generalize ns.length = m at h4 h7
    match m, h4, h7 with
    | 4, _, _ => exact chk4
    | 5, _, _ => exact chk5
    | 6, _, _ => exact chk6
    | 7, _, _ => exact chk7
  have := dp_path ns ns.length hm ns.length (Nat.le_refl _)
  rw [Nat.sub_self] at this
  exact this

structure Good (ds : List Int) : Prop where
  d : ∀ d ∈ ds, 0 ≤ d ∧ d ≤ 100
  len : ds.length ≤ 20
  mx : 0 ≤ lmax ds ∧ lmax ds ≤ 20
  lv : ∀ e ∈ evs 0 (skOf ds), 0 ≤ e.1 ∧ e.1 ≤ 8
  e2 : 2 ≤ (evs 0 (skOf ds)).length
  e60 : (evs 0 (skOf ds)).length ≤ 60
  k01 : ltK (keysOf (evs 0 (skOf ds))) 0 1 = true
  out : outOf (evs 0 (skOf ds)) = dueOf ds
  ht : htF 0 (dueOf ds) = prOf ds
  bn : bncOf (dueOf ds) ds.length = ds.sum
theorem good_of {ds : List Int} (h : chkQ ds = true) : Good ds := by
  unfold chkQ chkE at h
  simp only [Bool.and_eq_true, decide_eq_true_eq, List.all_eq_true] at h
  obtain ⟨⟨⟨h1, h2⟩, h3⟩, ⟨⟨⟨⟨⟨⟨h5, h6⟩, h7⟩, h8⟩, h9⟩, h10⟩, h11⟩⟩ := h
  have es : evR (skR ds (-1)) 0 = evs 0 (skOf ds) := by rw [evR_eq, skOf_R]
  rw [es] at h5 h6 h7 h8 h9
  rw [dueR_eq] at h9 h10 h11
  have h3' := lvOk_eq h3
  refine ⟨h1, Nat.le_of_ble_eq_true h2, ⟨h3'.1, by omega⟩, fun e he => lvOk_eq (allR_eq _ h5 e he), Nat.le_of_ble_eq_true h6, Nat.le_of_ble_eq_true h7, h8, ?_, ?_, ?_⟩
  · rw [← outR_eq]; exact beqR_eq _ _ h9
  · rw [ieq_eq] at h10
    rw [← htR_eq, prOf_R]
    exact of_decide_eq_true h10
  · rw [ieq_eq] at h11
    rw [bncOf_R]
    exact of_decide_eq_true h11
theorem out_len (es : List Evt) (hlv : ∀ e ∈ es, 0 ≤ e.1 ∧ e.1 ≤ 8) : (outOf es).length = es.length := by
  rw [← idx_out, List.length_map, (idx_perm hlv).length_eq, List.length_range]

theorem ck_split {col shut : UInt64} {o : Bool} {u : Nat} (h : ckU col shut o u = true) : lampOk (u : Int) col (litOf shut o) = true ∧ dcOk col shut (lampAt (u : Int) col (litOf shut o)) = true ∧
    ∀ (turn d : Int) (j : Nat), (u : Int) = turn + d → 0 ≤ d → d < 12 → tell turn j (lampAt (u : Int) col (litOf shut o)) = (d, -(j : Int), o) := by
  unfold ckU at h
  rw [Bool.and_eq_true] at h
  obtain ⟨h1, h2⟩ := h
  unfold lampAt at h2 ⊢
  generalize lampI (lampT (u : Int) col (litOf shut o)).1 = r at h2 ⊢
  generalize lampI (lampT (u : Int) col (litOf shut o)).2.1 = g at h2 ⊢
  generalize lampI (lampT (u : Int) col (litOf shut o)).2.2 = b at h2 ⊢
  unfold ckL at h2
  rw [Bool.and_eq_true, Bool.and_eq_true] at h2
  obtain ⟨⟨h3, h4⟩, h5⟩ := h2
  refine ⟨h1, h3, fun turn d j hu h0 h12 => ?_⟩
  have h4' := of_decide_eq_true h4
  have h5' : (dcMost (dcOf r g b) == 64) = o := by simpa using h5
  show ((dcH (dcOf r g b) - turn).fmod 12, -(j : Int), dcMost (dcOf r g b) == 64) = _
  rw [h5']
  have e : (dcH (dcOf r g b) - turn).fmod 12 = d := by
    rw [Int.fmod_eq_emod_of_nonneg _ (by decide)] at h4' ⊢
    rw [Int.fmod_eq_emod_of_nonneg _ (by decide)] at h4'
    omega
  rw [e]

section
variable {W : Wd} {P : Params}
theorem sweep_all (hK : W.K = hd.heap_39 P) {ds ns : List Int} (G : Good ds) {turn a b : Int} (ht0 : 0 ≤ turn) (ht : turn < 12) (ha : a = 0 ∨ a = 1) (hb : b = 0 ∨ b = 1) :
    (∀ e ∈ evs 0 (skel (pieces ds ns)), lampOk (turn + e.1) (colOf a) (litOf (shutOf b) e.2) = true) ∧
    Fn W 2 (Str.ofString "_law_swept") [.lst ((lampsOf turn (colOf a) (shutOf b) (evs 0 (skel (pieces ds ns)))).map intsD), .int turn, .flt (colOf a), .flt (shutOf b)] (.lst ((dueOf ds).map .bool)) := by
  rw [skel_pieces]
  have hck : ∀ e ∈ evs 0 (skOf ds), ∃ u : Nat, (u : Int) = turn + e.1 ∧ ckU (colOf a) (shutOf b) e.2 u = true := fun e he => by
    have := G.lv e he
    refine ⟨(turn + e.1).toNat, by omega, col_all ha hb e.2 (by omega)⟩
  refine ⟨fun e he => ?_, ?_⟩
  · obtain ⟨u, hu, hc⟩ := hck e he
    rw [← hu]
    exact (ck_split hc).1
  · have htold : tolds turn (lampsOf turn (colOf a) (shutOf b) (evs 0 (skOf ds))) (evs 0 (skOf ds)).length = (List.range (evs 0 (skOf ds)).length).map fun (j : Nat) => (((evs 0 (skOf ds)).getD j evD).1, -(j : Int), ((evs 0 (skOf ds)).getD j evD).2) := by
      unfold tolds
      refine List.map_congr_left fun j hj => ?_
      have hj' : j < (evs 0 (skOf ds)).length := by simpa using hj
      have he := List.getElem_mem hj'
      have e1 : (lampsOf turn (colOf a) (shutOf b) (evs 0 (skOf ds))).getD j [] = lampAt (turn + ((evs 0 (skOf ds))[j]).1) (colOf a) (litOf (shutOf b) ((evs 0 (skOf ds))[j]).2) := by
        unfold lampsOf
        rw [List.getD_eq_getElem?_getD, List.getElem?_map, List.getElem?_eq_getElem hj']; rfl
      have e2 : (evs 0 (skOf ds)).getD j evD = (evs 0 (skOf ds))[j] := by rw [List.getD_eq_getElem?_getD, List.getElem?_eq_getElem hj']; rfl
      rw [e1, e2]
      obtain ⟨u, hu, hc⟩ := hck _ he
      have hlv := G.lv _ he
      rw [← hu]
      exact (ck_split hc).2.2 turn _ j hu hlv.1 (by omega)
    obtain ⟨p, hrun, hp⟩ := sort_out G.lv G.e2 G.k01
    have hlen : (lampsOf turn (colOf a) (shutOf b) (evs 0 (skOf ds))).length = (evs 0 (skOf ds)).length := by simp [lampsOf]
    refine fn__law_swept hK _ turn (colOf a) (shutOf b) p (dueOf ds) (by rw [hlen]; exact G.e2) (by rw [hlen]; have := G.e60; omega) (fun l hl => ?_) ?_ ?_ ?_
    · obtain ⟨e, he, rfl⟩ := List.mem_map.mp hl
      obtain ⟨u, hu, hc⟩ := hck e he
      rw [← hu]
      exact (ck_split hc).2.1
    · rw [hlen, htold, List.map_map]
      exact hrun
    · rw [hlen, htold, ← G.out, ← hp]
      refine List.map_congr_left fun i hi => ?_
      rw [List.getElem?_map]
      by_cases h : i < (evs 0 (skOf ds)).length
      · rw [List.getElem?_range h]
        show some ((evs 0 (skOf ds)).getD i evD).2 = _
        rw [List.getD_eq_getElem?_getD, List.getElem?_eq_getElem h]; rfl
      · have h1 : (List.range (evs 0 (skOf ds)).length)[i]? = none := List.getElem?_eq_none (by simpa using h)
        rw [h1, List.getElem?_eq_none (by omega)]; rfl
    · rw [← G.out, out_len _ G.lv]; have := G.e60; omega

def base (script : List Int) : List Int := (script.take 7 ++ [1, 5, 2, 4]).take 7
def nums (script : List Int) : List Int := (base script).map fun n => n.fmod 1000000
theorem nums_len (script : List Int) : 4 ≤ (nums script).length ∧ (nums script).length ≤ 7 := by
  unfold nums base
  simp
  omega
theorem nums_in (script : List Int) : ∀ x ∈ nums script, 0 ≤ x ∧ x < 1000000 := by
  intro x hx
  obtain ⟨n, _, rfl⟩ := List.mem_map.mp hx
  exact ⟨Int.fmod_nonneg_of_pos _ (by decide), Int.fmod_lt_of_pos _ (by decide)⟩
end
end Mine

/-! MLaw -/
namespace Mine
set_option maxRecDepth 100000
open PySem PySem.W PyProof.Rows PySem.Calls PySem.Flt
set_option maxHeartbeats 8000000

def numF : D → D
  | .int n => .int (n.fmod 1000000)
  | _ => .none
theorem nums_D (script : List Int) : ((((script.map D.int).take 7 ++ [D.int 1, D.int 5, D.int 2, D.int 4]).take 7).filter fun _ => true).map numF = (nums script).map .int := by
  have e : ((script.map D.int).take 7 ++ [D.int 1, D.int 5, D.int 2, D.int 4]).take 7 = (base script).map D.int := by
    unfold base
    rw [List.map_take, List.map_append, List.map_take]; rfl
  rw [e, List.filter_eq_self.mpr (fun _ _ => rfl), List.map_map]
  unfold nums
  rw [List.map_map]; rfl

theorem base_int (script : List Int) (d : D) (hd : d ∈ ((script.map D.int).take 7 ++ [D.int 1, D.int 5, D.int 2, D.int 4]).take 7) : ∃ n, d = .int n := by
  have e : ((script.map D.int).take 7 ++ [D.int 1, D.int 5, D.int 2, D.int 4]).take 7 = (base script).map D.int := by
    unfold base
    rw [List.map_take, List.map_append, List.map_take]; rfl
  rw [e] at hd
  obtain ⟨n, _, rfl⟩ := List.mem_map.mp hd
  exact ⟨n, rfl⟩
section
variable {W : Wd} {P : Params}

theorem law_ex (hK : W.K = hd.heap_39 P) (script : List Int) (hl : script.length ≤ 63) : ∃ oc od osl fd body, (hd.heap_39 P).lookup 153 = some ⟨oc, od, .func fd, osl⟩ ∧ fd.body = .stmts body ∧ fd.scope.kind = .function ∧ ∀ (A : Around) (L : Addr) (h₀ : Heap) (O₀ : List Addr) (fa : Addr) (cd : Value) (qual : Str), Room 2 A →
    Ex W { A := A, env := { scope := fd.scope, locals := L, globals := mainGlobals, cells := [], qual := qual, func := some fa, code := cd, frame := some L, builtins := builtinsNs }, h₀ := h₀, O₀ := O₀ } [(Str.ofString "script", .val (.lst (script.map .int)))] body (.rt (.bool true)) := by
  refine ⟨_, _, _, _, _, rfl, rfl, rfl, fun A L h₀ O₀ fa cd qual hr => ?_⟩
  have hh := hr.handled
  have hr0 : Room 0 A := hr.mono (by decide)
  refine ex_assign_comp (ρ' := [(Str.ofString "script", .val (.lst (script.map .int))), (Str.ofString "numbers", .val (.lst ((nums script).map .int)))]) (ds := ((script.map D.int).take 7 ++ [D.int 1, D.int 5, D.int 2, D.int 4]).take 7) (cl := []) (ρc := []) (fun _ => true) numF { iter := itr_list (ev_slice_to (ev_bin (ev_type (by rw [hK]; exact no_list P) boot_list (evl_cons (ev_slice_to (ev_local (by rfl)) ev_int (by rfl) (by rw [List.length_map, sizeLine_eq]; omega)) evl_nil) (k_list_l (by rw [List.length_take, List.length_map, sizeLine_eq]; omega))) (ev_list (evl_cons ev_int (evl_cons ev_int (evl_cons ev_int (evl_cons ev_int evl_nil)))) (by simp [sizeLine_eq])) (b_add_ll (by simp [sizeLine_eq]; omega))) ev_int (by rfl) (by simp [sizeLine_eq]; omega)) (fun d hd => ?_) hr0, clos := by rfl, cell := by decide, kind := rfl, names := by decide, hx := by rfl, hxc := rfl, hcl := (fun q hq => nomatch hq), hρc := (fun y sl h => nomatch h), size := by simp [sizeLine_eq]; omega, tests := fun C h₀ O₀ d hd => rfl, elt := fun C h₀ O₀ d hd _ => ?_, imm := fun d hd _ => ?_ } (by rw [nums_D]; rfl) ?_ (fun v => rfl) (by rfl)
  · obtain ⟨n, rfl⟩ := base_int script d hd
    rfl
  · obtain ⟨n, rfl⟩ := base_int script d hd
    exact ev_bin (ev_local (by rfl)) ev_int (b_mod_ii (by decide))
  · obtain ⟨n, rfl⟩ := base_int script d hd
    rfl
  have hnl := nums_len script
  have hni := nums_in script
  have hne : nums script ≠ [] := fun e => by rw [e] at hnl; simp at hnl
  refine ex_open (evl_cons ev_int evl_nil) (fun a => ?_) (by rfl)
  refine ex_for_gen (ds := (nums script).map .int) (fun _ => True) (stores_local (by rfl) (by rfl)) (itr_list (ev_local (by rfl)) (fun d hd => by
      obtain ⟨t, _, rfl⟩ := List.mem_map.mp hd
      rfl) hr0)
    (fun i ρ => ρ = [(Str.ofString "script", .val (.lst (script.map .int))), (Str.ofString "numbers", .val (.lst ((nums script).map .int))), (Str.ofString "depths", .mu a ((dpAt (nums script) i).map .int))]) rfl (fun _ _ _ => trivial) (fun i d ρi hd' hinv => ?_) (fun ρ' hinv => ?_) (fun v => rfl)
  · subst hinv
    rw [List.getElem?_map] at hd'
    cases hx : (nums script)[i]? with
    | none => rw [hx] at hd'; cases hd'
    | some x =>
    rw [hx] at hd'
    have ed : D.int x = d := by simpa using hd'
    subst ed
    have hi := at_lt hx
    have hg : (nums script).getD i 0 = x := by rw [List.getD_eq_getElem?_getD, hx]; rfl
    have hlen := dp_len (nums script) i
    have h0 := dp_nonneg (nums script) i
    refine ⟨.nx [(Str.ofString "script", .val (.lst (script.map .int))), (Str.ofString "numbers", .val (.lst ((nums script).map .int))), (Str.ofString "depths", .mu a ((dpAt (nums script) (i + 1)).map .int))], ?_, rfl⟩
    have es : (dpAt (nums script) (i + 1)).map D.int = (dpAt (nums script) i).map D.int ++ [.int (x.fmod ((dpS (nums script) i).2 + 2))] := by
      rw [dpAt_succ, List.map_append, hg]; rfl
    have ep : (dpAt (nums script) i).map D.int = (dpS (nums script) i).1.map D.int ++ [.int (dpS (nums script) i).2] := by
      unfold dpAt; rw [List.map_append]; rfl
    have hl2 : (dpS (nums script) i).1.length = i := by unfold dpAt at hlen; rw [List.length_append] at hlen; simpa using hlen
    rw [es, ep]
    generalize dpS (nums script) i = st at h0 hl2 ⊢
    refine ex_append (ρ' := [(Str.ofString "script", .val (.lst (script.map .int))), (Str.ofString "numbers", .val (.lst ((nums script).map .int))), (Str.ofString "depths", .mu a (st.1.map D.int ++ [.int st.2] ++ [.int (x.fmod (st.2 + 2))])), (Str.ofString "x", .val (.int x))]) (by rfl) (ev_bin (ev_local (by rfl)) (ev_bin (ev_mu_last (by rfl) (ev_un ev_int u_neg_i) (by rw [List.length_map, hl2]; omega)) ev_int b_add_ii) (b_mod_ii (by omega))) (by rfl) (ex_drop 3 (by rfl)) (hn := by simp [sizeLine_eq, hl2]; omega)
  · subst hinv
    rw [List.length_map]
    refine ex_freeze (x := Str.ofString "depths") (ρ' := [(Str.ofString "script", .val (.lst (script.map .int))), (Str.ofString "numbers", .val (.lst ((nums script).map .int))), (Str.ofString "depths", .val (.lst ((dsOf (nums script)).map .int)))]) (by rfl) (by rfl) ?_
    have G := good_of (ds_chk (nums script) hnl.1 hnl.2)
    have hdl : (dsOf (nums script)).length ≤ 20 := G.len
    have hdne : dsOf (nums script) ≠ [] := fun e => by
      have := dp_len (nums script) (nums script).length
      unfold dsOf at e
      rw [e] at this; cases this
    have hn0 : ((nums script).map D.int)[(0 : Int).toNat]? = some (.int ((nums script).getD 0 0)) := by
      show ((nums script).map D.int)[0]? = _
      rw [List.getElem?_map, List.getD_eq_getElem?_getD, List.getElem?_eq_getElem (by omega)]; rfl
    have hn0b := hni ((nums script).getD 0 0) (by rw [List.getD_eq_getElem?_getD, List.getElem?_eq_getElem (by omega)]; exact List.getElem_mem _)
    generalize (nums script).getD 0 0 = n0 at hn0 hn0b
    refine ex_assign (ρ' := [(Str.ofString "script", .val (.lst (script.map .int))), (Str.ofString "numbers", .val (.lst ((nums script).map .int))), (Str.ofString "depths", .val (.lst ((dsOf (nums script)).map .int))), (Str.ofString "turn", .val (.int ((nums script).sum.fmod 12)))]) (ev_bin (ev_builtin (by rw [hK]; exact no_sum P) boot_sum (evl_cons (ev_local (by rfl)) evl_nil) (k_sum_l hh)) ev_int (b_mod_ii (by decide))) (by rfl) ?_
    have ht0 : 0 ≤ (nums script).sum.fmod 12 := Int.fmod_nonneg_of_pos _ (by decide)
    have ht1 : (nums script).sum.fmod 12 < 12 := Int.fmod_lt_of_pos _ (by decide)
    generalize (nums script).sum.fmod 12 = turn at ht0 ht1 ⊢
    have hca : (n0.fdiv 8).fmod 2 = 0 ∨ (n0.fdiv 8).fmod 2 = 1 := by
      have l1 : 0 ≤ (n0.fdiv 8).fmod 2 := Int.fmod_nonneg_of_pos _ (by decide)
      have l2 : (n0.fdiv 8).fmod 2 < 2 := Int.fmod_lt_of_pos _ (by decide)
      omega
    have hcb : (n0.fdiv 16).fmod 2 = 0 ∨ (n0.fdiv 16).fmod 2 = 1 := by
      have l1 : 0 ≤ (n0.fdiv 16).fmod 2 := Int.fmod_nonneg_of_pos _ (by decide)
      have l2 : (n0.fdiv 16).fmod 2 < 2 := Int.fmod_lt_of_pos _ (by decide)
      omega
    have hda : ¬ Float64.isInf (divF ((n0.fdiv 8).fmod 2) 2) = true := by
      rcases hca with e | e <;> rw [e] <;> decide +kernel
    have hdb : ¬ Float64.isInf (divF ((n0.fdiv 16).fmod 2) 4) = true := by
      rcases hcb with e | e <;> rw [e] <;> decide +kernel
    have hdi : ((n0.fdiv 8).fmod 2).natAbs < 2 ^ 1023 := by
      rcases hca with e | e <;> rw [e] <;> decide +kernel
    have hdj : ((n0.fdiv 16).fmod 2).natAbs < 2 ^ 1023 := by
      rcases hcb with e | e <;> rw [e] <;> decide +kernel
    refine ex_assign (ρ' := [(Str.ofString "script", .val (.lst (script.map .int))), (Str.ofString "numbers", .val (.lst ((nums script).map .int))), (Str.ofString "depths", .val (.lst ((dsOf (nums script)).map .int))), (Str.ofString "turn", .val (.int turn)), (Str.ofString "colour", .val (.flt (colOf ((n0.fdiv 8).fmod 2))))]) (ev_bin ev_flt (ev_bin (ev_bin (ev_bin (ev_item (ev_local (by rfl)) ev_int (by decide) (by decide) hn0) ev_int (b_fdiv_ii (by decide) (PyProof.noPylong_of_log2 (by decide +kernel)))) ev_int (b_mod_ii (by decide))) ev_int (b_div_ii hh (by decide) hdi hda)) b_sub_ff) (by rfl) ?_
    refine ex_assign (ρ' := [(Str.ofString "script", .val (.lst (script.map .int))), (Str.ofString "numbers", .val (.lst ((nums script).map .int))), (Str.ofString "depths", .val (.lst ((dsOf (nums script)).map .int))), (Str.ofString "turn", .val (.int turn)), (Str.ofString "colour", .val (.flt (colOf ((n0.fdiv 8).fmod 2)))), (Str.ofString "shut", .val (.flt (shutOf ((n0.fdiv 16).fmod 2))))]) (ev_bin ev_flt (ev_bin (ev_bin (ev_bin (ev_item (ev_local (by rfl)) ev_int (by decide) (by decide) hn0) ev_int (b_fdiv_ii (by decide) (PyProof.noPylong_of_log2 (by decide +kernel)))) ev_int (b_mod_ii (by decide))) ev_int (b_div_ii hh (by decide) hdj hdb)) b_add_ff) (by rfl) ?_
    generalize (n0.fdiv 8).fmod 2 = ca at hca ⊢
    generalize (n0.fdiv 16).fmod 2 = cb at hcb ⊢
    obtain ⟨hlo, hsw⟩ := sweep_all (ns := nums script) hK G ht0 ht1 hca hcb
    have hpl : (pieces (dsOf (nums script)) (nums script)).length ≤ 100000 := by
      have h1 := pcs_bound (dsOf (nums script)) (nums script) G.d (dsOf (nums script)).length
      unfold pieces
      rw [List.length_append, List.length_replicate]
      omega
    refine ex_assign (ρ' := [(Str.ofString "script", .val (.lst (script.map .int))), (Str.ofString "numbers", .val (.lst ((nums script).map .int))), (Str.ofString "depths", .val (.lst ((dsOf (nums script)).map .int))), (Str.ofString "turn", .val (.int turn)), (Str.ofString "colour", .val (.flt (colOf ca))), (Str.ofString "shut", .val (.flt (shutOf cb))), (Str.ofString "swept", .val (.lst ((dueOf (dsOf (nums script))).map .bool)))]) (ev_call hsw hr (evl_cons (ev_call (fn__law_lamps hK (pieces (dsOf (nums script)) (nums script)) turn (colOf ca) (shutOf cb) (pieces_ok _ _ (labIx_lt _)) hpl hlo) hr (evl_cons (ev_call (fn__law_pieces hK (dsOf (nums script)) (nums script) hne (by omega) hni (by omega) G.d) hr (evl_cons (ev_local (by rfl)) (evl_cons (ev_local (by rfl)) evl_nil))) (evl_cons (ev_local (by rfl)) (evl_cons (ev_local (by rfl)) (evl_cons (ev_local (by rfl)) evl_nil))))) (evl_cons (ev_local (by rfl)) (evl_cons (ev_local (by rfl)) (evl_cons (ev_local (by rfl)) evl_nil))))) (by rfl) ?_
    have hbl : (dueOf (dsOf (nums script))).length ≤ 60 := by rw [← G.out, out_len _ G.lv]; exact G.e60
    refine ex_if_both (ρ' := [(Str.ofString "script", .val (.lst (script.map .int))), (Str.ofString "numbers", .val (.lst ((nums script).map .int))), (Str.ofString "depths", .val (.lst ((dsOf (nums script)).map .int))), (Str.ofString "turn", .val (.int turn)), (Str.ofString "colour", .val (.flt (colOf ca))), (Str.ofString "shut", .val (.flt (shutOf cb))), (Str.ofString "swept", .val (.lst ((dueOf (dsOf (nums script))).map .bool)))]) (tr_cmp (ev_call (fn__law_number hK (dueOf (dsOf (nums script))) hbl) hr (evl_cons (ev_local (by rfl)) evl_nil)) (ev_call (fn__law_due hK (dsOf (nums script)) hdl hdne G.mx) hr (evl_cons (ev_local (by rfl)) evl_nil)) c_ne_ii) (fun hb => ?_) (fun _ => ex_done) ?_
    · exfalso
      rw [bne_self_eq_false] at hb
      cases hb
    refine ex_assign (ρ' := [(Str.ofString "script", .val (.lst (script.map .int))), (Str.ofString "numbers", .val (.lst ((nums script).map .int))), (Str.ofString "depths", .val (.lst ((dsOf (nums script)).map .int))), (Str.ofString "turn", .val (.int turn)), (Str.ofString "colour", .val (.flt (colOf ca))), (Str.ofString "shut", .val (.flt (shutOf cb))), (Str.ofString "swept", .val (.lst ((dueOf (dsOf (nums script))).map .bool))), (Str.ofString "line", .val (.lst ((lineT (nums script) 0 (dueOf (dsOf (nums script)))).map lineD)))]) (ev_call (fn__law_line hK (dueOf (dsOf (nums script))) (nums script) hbl hne (by omega) hni) hr (evl_cons (ev_local (by rfl)) (evl_cons (ev_local (by rfl)) evl_nil))) (by rfl) ?_
    have hht : htSt (dueOf (dsOf (nums script))) (dueOf (dsOf (nums script))).length = prOf (dsOf (nums script)) := by rw [htSt_all]; exact G.ht
    have hbn := G.bn
    have efin : (true : Bool) = ((htSt (dueOf (dsOf (nums script))) (dueOf (dsOf (nums script))).length == prOf (dsOf (nums script))) && (bncOf (dueOf (dsOf (nums script))) ((dsOf (nums script)).map D.int).length == (dsOf (nums script)).sum)) := by
      rw [hht, List.length_map, hbn]; simp
    rw [efin]
    refine ex_return (ev_and2 (ev_cmp (ev_call (fn__law_heights hK (dueOf (dsOf (nums script))) (nums script) hbl) hr (evl_cons (ev_local (by rfl)) evl_nil)) (ev_call (fn__law_pairs hK (dsOf (nums script)) (by omega)) hr (evl_cons (ev_local (by rfl)) evl_nil)) c_eq_ii) (ev_cmp (ev_call (fn__law_bounces hK (dueOf (dsOf (nums script))) (nums script) ((dsOf (nums script)).map D.int).length hbl (by rw [List.length_map]; omega)) hr (evl_cons (ev_local (by rfl)) (evl_cons (ev_builtin (by rw [hK]; exact no_len P) boot_len (evl_cons (ev_local (by rfl)) evl_nil) (k_len (by rw [List.length_map]; omega))) evl_nil))) (ev_builtin (by rw [hK]; exact no_sum P) boot_sum (evl_cons (ev_local (by rfl)) evl_nil) (k_sum_l hh)) c_eq_ii))

end
end Mine

/-! MRun -/
namespace Mine
set_option maxRecDepth 100000
open PySem PySem.W PyProof.Rows PySem.Calls PySem.Flt

theorem well_plain {P : Params} {h : Heap} {a : Addr} {xs : List PyData} (w : Well P h (.ref a) (ofPy (.list xs))) : ∃ vs : List Value, h.get? a = some { cls := .type "list", data := .seq vs.toArray } := by
  have e : ∃ ys, ofPy (.list xs) = WData.list ys := ⟨_, rfl⟩
  obtain ⟨ys, e⟩ := e
  rw [e] at w
  cases w with
  | list ho hr => exact ⟨_, ho⟩
theorem rpa_ints {O : List Addr} {h : Heap} : ∀ {vs : List Value} {ns : List Int}, IntsAre vs ns → RpA O h vs (ns.map .int)
  | _, _, .nil => .nil
  | _, _, .cons n t r => .cons (.int _ _) (rpa_ints r)

theorem law_run {prog : Program} {w : World} {mg mb : Str → Option Value} {g h₁ : Heap} {m : Str → Option Value} {l : Addr} {vs : List Value} {ns : List Int} (hKX : (hd.heap_39 w.params).In g) (hg : g.Ns mainGlobals mg) (hb : g.Ns builtinsNs mb) (hnl : g.NoLimit) (hbi : ∀ x : Str, x ≠ "__name__" → mb x = bootBuiltins x)
    (hw : Well w.params g (.ref l) (ofPy (.list (ns.map .int)))) (hL : g.IsList l vs.toArray) (hI : IntsAre vs ns) (hlen : ns.length ≤ 63) (F : Fr g g.objs.size h₁ m) (hm : m (Str.ofString "script") = some (.ref l)) :
    ∃ oc od osl fd body, (hd.heap_39 w.params).lookup 153 = some ⟨oc, od, .func fd, osl⟩ ∧ fd.body = .stmts body ∧ fd.scope.kind = .function ∧ ∀ (A : Around) (fa : Addr) (cd : Value) (qual : Str) (s : Shared) (Q : Flow → Shared → Prop) (E : Value → Shared → Prop), Room 2 A → s.heap = h₁ →
      (∀ h' tk, Ext g h' → Q (.ret (.bool true)) { s with heap := h', toks := tk }) →
      wpAny (model prog w) A (execs body { scope := fd.scope, locals := g.objs.size, globals := mainGlobals, cells := [], qual := qual, func := some fa, code := cd, frame := some g.objs.size, builtins := builtinsNs }) Q E s := by
  obtain ⟨oc, od, osl, fd, body, h1, h2, hk, H⟩ := law_ex (W := ⟨prog, w, hd.heap_39 w.params, mg, mb⟩) (P := w.params) rfl ns hlen
  refine ⟨oc, od, osl, fd, body, h1, h2, hk, fun A fa cd qual s Q E hr hs hQ => ?_⟩
  have hfr : g.get? g.objs.size = none := by
    cases q : g.get? g.objs.size with
    | none => rfl
    | some o => exact absurd (Heap.lt_size q) (Nat.lt_irrefl _)
  refine H A g.objs.size g [] fa cd qual hr [] [g.objs.size] s ?_ Q E ?_
  · rw [hs]
    refine { ok := ⟨hKX, hg, hb, hnl, hbi⟩, fr := ⟨m, F.ns, fun x sl hx => ?_⟩, keep := F.keep, fresh := hfr, glob := rfl, bins := rfl, kind := hk, cells := fun p hp => (nomatch hp), cellIs := fun p hp => (nomatch hp), hL := .head _, h0 := fun b hb => (nomatch hb), d0 := fun b hb => (nomatch hb), dom := fun b hb => ?_, its := fun p hp => (nomatch hp) }
    · rw [List.lookup_cons] at hx
      by_cases e : (x == Str.ofString "script") = true
      · rw [e] at hx
        have e' : x = Str.ofString "script" := by simpa using e
        cases hx
        refine ⟨.ref l, by rw [e']; exact hm, ?_⟩
        obtain ⟨us, hus⟩ := well_plain hw
        obtain ⟨o, ho, hc, n, hd⟩ := hL
        rw [hus] at ho
        cases ho
        have e2 : us.toArray = vs.toArray := by cases hd; rfl
        refine .lst (vs := vs) (fun hmem => ?_) ⟨_, F.keep _ _ (by rw [← e2]; exact hus)⟩ (rpa_ints hI)
        have : l = g.objs.size := List.mem_singleton.mp hmem
        exact absurd (Heap.lt_size hus) (by rw [this]; exact Nat.lt_irrefl _)
      · rw [show (x == Str.ofString "script") = false by simpa using e] at hx; cases hx
    · rw [List.mem_singleton.mp hb]
      obtain ⟨o, _, _, ho, _⟩ := F.ns
      exact ⟨o, ho⟩
  · intro v h' tk e r
    cases r
    exact hQ h' tk e
end Mine

open PySem PySem.W PyProof.Rows in
set_option maxRecDepth 100000 in
set_option maxHeartbeats 8000000 in
theorem PySem.Challenge.cw_wu0010_01_holds : PySem.Challenge.rw_wu0010_01.Holds := by
  refine Mine.hd ?_
  k_go0
  rename Frag.In _ _ => KX
  rename Top _ _ _ _ _ _ => TT
  rename Well _ _ _ _ => w1
  rename IntsAre _ _ => hI
  rename Heap.IsList _ _ _ => hLi
  rename Fr _ _ _ _ => FF
  rename ¬ _ => hc
  rename _ = #[] => hgens
  obtain ⟨oc, od, osl, fd, body, h1, h2, hk, H⟩ := Mine.law_run (prog := PySem.Challenge.rw_wu0010_01.row.prog) KX TT.g TT.b TT.nolimit TT.builtins w1 hLi hI (by omega) FF (by rfl)
  cases h1
  cases h2
  refine H _ _ _ _ _ _ _ ?_ rfl ?_
  · exact ⟨rfl, (show callerA.depth + 1 + 2 < recursionLimit by decide +kernel), (show callerA.units + 3 + 20 * 2 + 20 < cLine by decide +kernel)⟩
  intro h' tk hk
  refine ⟨.inl ⟨.bool true, .bool true, [], rfl, raisesW_false ?_, .bool true, ?_, unshared_nil⟩, hk, rfl, hgens⟩
  · wrow_none_raised
  · wrow_post
